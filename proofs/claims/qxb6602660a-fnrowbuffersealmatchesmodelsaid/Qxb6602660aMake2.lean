/-
  'table.ZZMakeRowBuffer' (15) whole.
-/
import Derived.Test.Qxb6602660aConv
namespace Go.Proofs.Qxb6602660a
open Go.RowKit

theorem isBy_slice {w : World} {lo hi : Nat} {v : Value} {len : Nat} {z : Nat → Int} (h : IsBy w lo hi v len z) : ∃ a l c, v = .slice a l c := by
  obtain ⟨a, cap, rfl, _⟩ := h
  exact ⟨a, len, cap, rfl⟩

theorem pick_lt {n : Nat} {p : Nat → Value → Prop} (h : ∀ i, i < n → ∃ v, p i v) : ∃ V : Nat → Value, ∀ i, i < n → p i (V i) :=
  ⟨fun i => if hi : i < n then (h i hi).choose else .bool false, fun i hi => by dsimp only; rw [dif_pos hi]; exact (h i hi).choose_spec⟩

theorem make_of {w : World} {lo hi n lt ls : Nat} {ta sa : Option Addr} {T : Nat → ByteArray} {Y : Nat → Nat} {Z : Nat → Nat → Int} (hn : n ≤ 65536) (hhi : hi ≤ w.heap.size) (hlo : lo ≤ w.heap.size) (at_ as_ : Option Addr) (width rows last : Int)
    (hT : Strs w 0 w.heap.size (.slice ta n n) n T) (hS : Bss w lo hi (.slice sa n n) n Y Z) :
    Calls Try.prog 15 #[.int .i64 width, .slice ta n n, .slice sa n n, .slice at_ lt lt, .slice as_ ls ls, .int .i64 rows, .int .i64 last] w fun e w' =>
      ∃ P ca, e = .returned (.pointer (some ⟨P, 0, none⟩)) ∧ w.heap.size < P ∧ P < w'.heap.size ∧ Holds w' P 0 6 (rbF width (.slice ca n n) (.slice at_ lt lt) (.slice as_ ls ls) rows last) ∧ Chs w' lo P (.slice ca n n) n T Y Z ∧ Below w.heap.size w w' := by
  obtain ⟨_, _, e1, hT⟩ := hT
  obtain ⟨_, _, e2, hS⟩ := hS
  cases e1
  cases e2
  by_cases h0 : n = 0
  · subst h0
    refine (make_none lt ls 0 0 ta sa at_ as_ width rows last w).mono ?_
    rintro e w' ⟨P, rfl, h1, h2, h3, h4⟩
    exact ⟨P, _, rfl, h1, h2, h3, ⟨_, _, rfl, .inl rfl⟩, h4⟩
  · rcases hT with hT | ⟨bt, ot, rfl, _, hbt, hT⟩
    · exact absurd hT h0
    rcases hS with hS | ⟨bs, os, rfl, _, hbs, hS⟩
    · exact absurd hS h0
    obtain ⟨V, hV⟩ := pick_lt hS
    refine (make_some n bt bs ot os lt ls n n at_ as_ width rows last T V w (by omega) hn hbt (by omega) hT (fun i hi => (hV i hi).1) (fun i hi => isBy_slice (hV i hi).2)).mono ?_
    rintro e w' ⟨P, rfl, h1, h2, h3, h4, h5⟩
    refine ⟨P, _, rfl, h1, h2, h4, ⟨_, _, rfl, .inr ⟨w.heap.size, 0, rfl, hlo, h1, fun i hi => ?_⟩⟩, h5⟩
    have c0 := h3.cell (i * 2) (by omega)
    have c1 := h3.cell (i * 2 + 1) (by omega)
    refine ⟨?_, V i, ?_, ((hV i hi).2.agree (Agree.of_below h5 hhi)).wide (Nat.le_refl _) (by omega)⟩
    · rw [c0]; unfold chF; rw [if_pos (by omega), if_pos (by omega), show i * 2 / 2 = i by omega]
    · rw [Nat.add_assoc, c1]; unfold chF; rw [if_pos (by omega), if_neg (by omega), show (i * 2 + 1) / 2 = i by omega]

end Go.Proofs.Qxb6602660a
