/-
  Memory, for the walks: a row of cells known as a function; what a call keeps.
-/
import Derived.Test.Qxb6602660aRows
import Derived.WalkKit
import Derived.WalkLawsBesides
import Derived.Below
import Derived.Deep.RegionHeld3
namespace Go.Proofs.Qxb6602660a
open Go.RowKit

theorem hid {p : Prop} (h : p) : Hid p := h

/-- n cells of block b from off on hold F 0, F 1, ..; they may be written. -/
def Holds (w : World) (b off n : Nat) (F : Nat → Value) : Prop := ∀ t, t < n → w.cell? ⟨b, off + t, none⟩ = some (F t) ∧ w.frozen? ⟨b, off + t, none⟩ = false

def upd (F : Nat → Value) (k : Nat) (v : Value) : Nat → Value := fun t => if t = k then v else F t

theorem Holds.cell {w : World} {b off n : Nat} {F : Nat → Value} (h : Holds w b off n F) (t : Nat) (ht : t < n) : w.cell? ⟨b, off + t, none⟩ = some (F t) := (h t ht).1
theorem Holds.free {w : World} {b off n : Nat} {F : Nat → Value} (h : Holds w b off n F) (t : Nat) (ht : t < n) : w.frozen? ⟨b, off + t, none⟩ = false := (h t ht).2

theorem Holds.congr {w : World} {b off n : Nat} {F G : Nat → Value} (h : Holds w b off n F) (e : ∀ t, t < n → F t = G t) : Holds w b off n G := fun t ht => ⟨by rw [(h t ht).1, e t ht], (h t ht).2⟩

theorem Holds.drew {w : World} {b off n : Nat} {F : Nat → Value} (h : Holds w b off n F) : Holds w.drew b off n F := h

theorem Holds.set {w : World} {b off n : Nat} {F : Nat → Value} (h : Holds w b off n F) (k : Nat) (_hk : k < n) (v : Value) : Holds (w.setCell ⟨b, off + k, none⟩ v) b off n (upd F k v) := by
  intro t ht
  refine ⟨?_, by rw [World.frozen?_setCell]; exact (h t ht).2⟩
  by_cases e : t = k
  · subst e; rw [World.cell?_setCell_same _ _ _ (h t ht).1]; simp [upd]
  · rw [World.cell?_setCell_other _ _ _ _ (by intro h; have h' : off + k = off + t := congrArg Addr.off h; omega), (h t ht).1]; simp [upd, e]

theorem Holds.other {w : World} {b off n : Nat} {F : Nat → Value} (h : Holds w b off n F) (a : Addr) (ha : a.block ≠ b) (v : Value) : Holds (w.setCell a v) b off n F := by
  intro t ht
  refine ⟨?_, by rw [World.frozen?_setCell]; exact (h t ht).2⟩
  rw [World.cell?_setCell_other _ _ _ _ (by intro h; rw [h] at ha; exact ha rfl)]; exact (h t ht).1

theorem Holds.lt {w : World} {b off n : Nat} {F : Nat → Value} (h : Holds w b off n F) (hn : 0 < n) : b < w.heap.size := World.block_lt_of_cell? w ⟨b, off + 0, none⟩ (h 0 hn).1

theorem Holds.alloc {w : World} {b off n : Nat} {F : Nat → Value} (h : Holds w b off n F) (o : Obj) : Holds (w.alloc o) b off n F := by
  intro t ht
  have hb := World.block_lt_of_cell? w ⟨b, off + t, none⟩ (h t ht).1
  have hB : Below w.heap.size w (w.alloc o) := (Below.refl _ _).alloc (Nat.le_refl _) _
  exact ⟨(hB.cell (p := ⟨b, off + t, none⟩) hb).trans (h t ht).1, (hB.frozen (p := ⟨b, off + t, none⟩) hb).trans (h t ht).2⟩

theorem Holds.below {w w' : World} {b off n B : Nat} {F : Nat → Value} (h : Holds w b off n F) (hB : Below B w w') (hb : b < B) : Holds w' b off n F :=
  fun t ht => ⟨(hB.cell (p := ⟨b, off + t, none⟩) hb).trans (h t ht).1, (hB.frozen (p := ⟨b, off + t, none⟩) hb).trans (h t ht).2⟩

/-- A new block of cells. -/
theorem holds_new (w : World) (c : Array Value) (t : TypeId) (F : Nat → Value) (h : ∀ i, i < c.size → c[i]? = some (F i)) : Holds (w.alloc (.cells c t)) w.heap.size 0 c.size F := by
  intro i hi
  refine ⟨?_, ?_⟩
  · rw [Nat.zero_add, World.cell?_alloc_new]; exact h i hi
  · rw [frozen?_alloc_cells]
    simp [World.frozen?]

/-- WHAT A CALL KEEPS that may write n cells of block b from off on, and new blocks. -/
structure Kept (b off n : Nat) (w w' : World) : Prop where
  os : w'.os = w.os
  tape : w'.tape = w.tape
  output : w'.output = w.output
  size : w.heap.size ≤ w'.heap.size
  block : ∀ k, k < w.heap.size → k ≠ b → w'.heap[k]? = w.heap[k]?
  cell : ∀ i, i < off ∨ off + n ≤ i → w'.cell? ⟨b, i, none⟩ = w.cell? ⟨b, i, none⟩
  froz : ∀ i, w'.frozen? ⟨b, i, none⟩ = w.frozen? ⟨b, i, none⟩

theorem Kept.refl (b off n : Nat) (w : World) : Kept b off n w w := ⟨rfl, rfl, rfl, Nat.le_refl _, fun _ _ _ => rfl, fun _ _ => rfl, fun _ => rfl⟩

theorem Kept.drew {b off n : Nat} {w w' : World} (h : Kept b off n w w') : Kept b off n w w'.drew := ⟨h.os, h.tape, h.output, h.size, h.block, h.cell, h.froz⟩

theorem Kept.trans {b off n : Nat} {w w1 w2 : World} (h : Kept b off n w w1) (k : Kept b off n w1 w2) : Kept b off n w w2 :=
  ⟨k.os.trans h.os, k.tape.trans h.tape, k.output.trans h.output, Nat.le_trans h.size k.size, fun i hi hb => (k.block i (Nat.lt_of_lt_of_le hi h.size) hb).trans (h.block i hi hb), fun i hi => (k.cell i hi).trans (h.cell i hi), fun i => (k.froz i).trans (h.froz i)⟩

theorem Kept.set {b off n : Nat} {w w' : World} (h : Kept b off n w w') (k : Nat) (hk : k < n) (v : Value) : Kept b off n w (w'.setCell ⟨b, off + k, none⟩ v) :=
  ⟨h.os, h.tape, h.output, by simpa [World.setCell] using h.size, fun i hi hb => by rw [Below.heap_setCell _ _ _ _ hb]; exact h.block i hi hb,
    fun i hi => by rw [World.cell?_setCell_other _ _ _ _ (by intro e; have e' : off + k = i := congrArg Addr.off e; omega)]; exact h.cell i hi, fun i => by rw [World.frozen?_setCell]; exact h.froz i⟩

/-- A store into a new block. -/
theorem Kept.setNew {b off n : Nat} {w w' : World} (h : Kept b off n w w') (hb : b < w.heap.size) {a : Addr} (ha : w.heap.size ≤ a.block) (v : Value) : Kept b off n w (w'.setCell a v) :=
  ⟨h.os, h.tape, h.output, by simpa [World.setCell] using h.size, fun i hi hb => by rw [Below.heap_setCell _ _ _ _ (by omega)]; exact h.block i hi hb,
    fun i hi => by rw [World.cell?_setCell_other _ _ _ _ (by intro e; have e' : a.block = b := congrArg Addr.block e; omega)]; exact h.cell i hi, fun i => by rw [World.frozen?_setCell]; exact h.froz i⟩

theorem Kept.alloc {b off n : Nat} {w w' : World} (h : Kept b off n w w') (hb : b < w.heap.size) (o : Obj) : Kept b off n w (w'.alloc o) := by
  have hs := h.size
  have hB : Below w'.heap.size w' (w'.alloc o) := (Below.refl _ _).alloc (Nat.le_refl _) _
  exact ⟨h.os, h.tape, h.output, by simp; omega, fun i hi hb => (hB.block i (by omega)).trans (h.block i hi hb), fun i hi => (hB.cell (p := ⟨b, i, none⟩) (by show b < _; omega)).trans (h.cell i hi), fun i => (hB.frozen (p := ⟨b, i, none⟩) (by show b < _; omega)).trans (h.froz i)⟩

/-- Of old blocks nothing turns, where b is new. -/
theorem Kept.below {b off n : Nat} {w0 w w' : World} (h : Kept b off n w w') (h0 : Below w0.heap.size w0 w) (hb : w0.heap.size ≤ b) : Below w0.heap.size w0 w' :=
  h0.trans ⟨h.os, h.tape, h.output, h.size, fun k hk => h.block k (Nat.lt_of_lt_of_le hk h0.size) (by omega)⟩

end Go.Proofs.Qxb6602660a
