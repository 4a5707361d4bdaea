/-
  Plain facts for the law's own walk.
-/
import Derived.Test.Qxb6602660aFields2
import Derived.Test.Qxb6602660aChsEq
import Derived.Test.Qxb6602660aFits2
namespace Go.Proofs.Qxb6602660a
open Go.RowKit

theorem Chs.wide {w : World} {lo hi lo' hi' : Nat} {v : Value} {n : Nat} {T : Nat → ByteArray} {Y : Nat → Nat} {Z : Nat → Nat → Int} (h : Chs w lo hi v n T Y Z) (h1 : lo' ≤ lo) (h2 : hi ≤ hi') : Chs w lo' hi' v n T Y Z := by
  obtain ⟨a, cap, rfl, h | ⟨b, off, rfl, k1, k2, h3⟩⟩ := h
  · exact ⟨a, cap, rfl, .inl h⟩
  · refine ⟨_, cap, rfl, .inr ⟨b, off, rfl, by omega, by omega, fun i hi => ?_⟩⟩
    obtain ⟨q1, vi, q2, q3⟩ := h3 i hi
    exact ⟨q1, vi, q2, q3.wide h1 h2⟩

theorem Strs.wide {w : World} {lo hi lo' hi' : Nat} {v : Value} {n : Nat} {T : Nat → ByteArray} (h : Strs w lo hi v n T) (h1 : lo' ≤ lo) (h2 : hi ≤ hi') : Strs w lo' hi' v n T := by
  obtain ⟨a, cap, rfl, h | ⟨b, off, rfl, k1, k2, h3⟩⟩ := h
  · exact ⟨a, cap, rfl, .inl h⟩
  · exact ⟨_, cap, rfl, .inr ⟨b, off, rfl, by omega, by omega, h3⟩⟩

/-- The law's own copies, each in a range of blocks of its own. -/
structure Args (w : World) (h0 h1 h2 h3 h4 h5 n lt ls : Nat) (a1 a2 a3 a4 a5 : Option Addr) (T : Nat → ByteArray) (Y : Nat → Nat) (Z : Nat → Nat → Int) (zt zs : Nat → Int) : Prop where
  c : Chs w h0 h1 (.slice a1 n n) n T Y Z
  t : OwnBy w h1 h2 (.slice a2 lt lt) lt zt
  s : OwnBy w h2 h3 (.slice a3 ls ls) ls zs
  tb : OwnBy w h3 h4 (.slice a4 lt lt) lt zt
  sb : OwnBy w h4 h5 (.slice a5 ls ls) ls zs
  l1 : h0 ≤ h1
  l2 : h1 ≤ h2
  l3 : h2 ≤ h3
  l4 : h3 ≤ h4
  l5 : h4 ≤ h5

section
variable {w w' : World} {h0 h1 h2 h3 h4 h5 n lt ls : Nat} {a1 a2 a3 a4 a5 : Option Addr} {T : Nat → ByteArray} {Y : Nat → Nat} {Z : Nat → Nat → Int} {zt zs : Nat → Int}

theorem Args.below (h : Args w h0 h1 h2 h3 h4 h5 n lt ls a1 a2 a3 a4 a5 T Y Z zt zs) {B : Nat} (hB : Below B w w') (hh : h5 ≤ B) : Args w' h0 h1 h2 h3 h4 h5 n lt ls a1 a2 a3 a4 a5 T Y Z zt zs := by
  have l1 := h.l1
  have l2 := h.l2
  have l3 := h.l3
  have l4 := h.l4
  have l5 := h.l5
  exact ⟨h.c.agree (Agree.of_below hB (by omega)), h.t.agree (Agree.of_below hB (by omega)), h.s.agree (Agree.of_below hB (by omega)), h.tb.agree (Agree.of_below hB (by omega)), h.sb.agree (Agree.of_below hB (by omega)), l1, l2, l3, l4, l5⟩

theorem args_make {w0 w1 w2 w3 w4 w5 : World} (B1 : Below w0.heap.size w0 w1) (C1 : Chs w1 w0.heap.size w1.heap.size (.slice a1 n n) n T Y Z) (B2 : Below w1.heap.size w1 w2) (O2 : OwnBy w2 w1.heap.size w2.heap.size (.slice a2 lt lt) lt zt)
    (B3 : Below w2.heap.size w2 w3) (O3 : OwnBy w3 w2.heap.size w3.heap.size (.slice a3 ls ls) ls zs) (B4 : Below w3.heap.size w3 w4) (O4 : OwnBy w4 w3.heap.size w4.heap.size (.slice a4 lt lt) lt zt) (B5 : Below w4.heap.size w4 w5) (O5 : OwnBy w5 w4.heap.size w5.heap.size (.slice a5 ls ls) ls zs) :
    Args w5 w0.heap.size w1.heap.size w2.heap.size w3.heap.size w4.heap.size w5.heap.size n lt ls a1 a2 a3 a4 a5 T Y Z zt zs := by
  have s1 := B1.size
  have s2 := B2.size
  have s3 := B3.size
  have s4 := B4.size
  have s5 := B5.size
  have b45 : Below w3.heap.size w3 w5 := B4.trans (B5.mono (by omega))
  have b35 : Below w2.heap.size w2 w5 := B3.trans (b45.mono (by omega))
  have b25 : Below w1.heap.size w1 w5 := B2.trans (b35.mono (by omega))
  exact ⟨C1.agree (Agree.of_below b25 (Nat.le_refl _)), O2.agree (Agree.of_below b35 (Nat.le_refl _)), O3.agree (Agree.of_below b45 (Nat.le_refl _)), O4.agree (Agree.of_below B5 (Nat.le_refl _)), O5, s1, s2, s3, s4, s5⟩
end

theorem below_chain {w w0 w1 w2 w3 w4 w5 : World} (B0 : Below w.heap.size w w0) (B1 : Below w0.heap.size w0 w1) (B2 : Below w1.heap.size w1 w2) (B3 : Below w2.heap.size w2 w3) (B4 : Below w3.heap.size w3 w4) (B5 : Below w4.heap.size w4 w5) : Below w.heap.size w w5 := by
  have s0 := B0.size
  have s1 := B1.size
  have s2 := B2.size
  have s3 := B3.size
  have s4 := B4.size
  exact ((((B0.trans (B1.mono (by omega))).trans (B2.mono (by omega))).trans (B3.mono (by omega))).trans (B4.mono (by omega))).trans (B5.mono (by omega))

/-- The row buffer at P is made; the law's copies lie below it. -/
structure Mid (w w8 : World) (P h0 h1 h2 h3 h4 h5 h6 n lt ls : Nat) (a1 a2 a3 a4 a5 : Option Addr) (T : Nat → ByteArray) (Y : Nat → Nat) (Z : Nat → Nat → Int) (zt zs : Nat → Int) : Prop where
  below : Below w.heap.size w w8
  args : Args w8 h0 h1 h2 h3 h4 h5 n lt ls a1 a2 a3 a4 a5 T Y Z zt zs
  q0 : w.heap.size ≤ h0
  q5 : h5 ≤ h6
  q6 : h6 ≤ P
  p2 : P ≤ w8.heap.size
  p6 : h6 ≤ w8.heap.size

section
variable {w w8 w' : World} {P h0 h1 h2 h3 h4 h5 h6 n lt ls : Nat} {a1 a2 a3 a4 a5 : Option Addr} {T : Nat → ByteArray} {Y : Nat → Nat} {Z : Nat → Nat → Int} {zt zs : Nat → Int}

theorem made {w5 w6 w7 : World} (q0 : w.heap.size ≤ h0) (B05 : Below w.heap.size w w5) (A5 : Args w5 h0 h1 h2 h3 h4 w5.heap.size n lt ls a1 a2 a3 a4 a5 T Y Z zt zs) (B6 : Below w5.heap.size w5 w6) (B7 : Below w6.heap.size w6 w7) (B8 : Below w7.heap.size w7 w8) (hP1 : w7.heap.size < P) (hP2 : P < w8.heap.size) :
    Mid w w8 P h0 h1 h2 h3 h4 w5.heap.size w6.heap.size n lt ls a1 a2 a3 a4 a5 T Y Z zt zs := by
  have s5 := B05.size
  have s6 := B6.size
  have s7 := B7.size
  have b58 : Below w5.heap.size w5 w8 := (B6.trans (B7.mono (by omega))).trans (B8.mono (by omega))
  exact ⟨B05.trans (b58.mono (by omega)), A5.below b58 (Nat.le_refl _), q0, s6, by omega, by omega, by omega⟩

theorem Mid.next (h : Mid w w8 P h0 h1 h2 h3 h4 h5 h6 n lt ls a1 a2 a3 a4 a5 T Y Z zt zs) {B : Nat} (hB : Below B w8 w') (hP : P ≤ B) : Mid w w' P h0 h1 h2 h3 h4 h5 h6 n lt ls a1 a2 a3 a4 a5 T Y Z zt zs := by
  have q0 := h.q0
  have q5 := h.q5
  have q6 := h.q6
  have p2 := h.p2
  have p6 := h.p6
  have l1 := h.args.l1
  have l2 := h.args.l2
  have l3 := h.args.l3
  have l4 := h.args.l4
  have l5 := h.args.l5
  have s := hB.size
  exact ⟨h.below.trans (hB.mono (by omega)), h.args.below hB (by omega), q0, q5, q6, by omega, by omega⟩

theorem Mid.drewN (h : Mid w w8 P h0 h1 h2 h3 h4 h5 h6 n lt ls a1 a2 a3 a4 a5 T Y Z zt zs) (hm : ∃ m, w' = w8.drewN m) : Mid w w' P h0 h1 h2 h3 h4 h5 h6 n lt ls a1 a2 a3 a4 a5 T Y Z zt zs := by
  obtain ⟨m, rfl⟩ := hm
  exact h.next (below_drewN (Below.refl P w8) m) (Nat.le_refl _)

theorem Mid.isT (h : Mid w w8 P h0 h1 h2 h3 h4 h5 h6 n lt ls a1 a2 a3 a4 a5 T Y Z zt zs) : IsBy w8 0 P (.slice a4 lt lt) lt zt := by
  have q5 := h.q5
  have q6 := h.q6
  have l5 := h.args.l5
  exact h.args.tb.by.wide (Nat.zero_le _) (by omega)

theorem Mid.holdS {sb : Nat} (h : Mid w w8 P h0 h1 h2 h3 h4 h5 h6 n lt ls a1 a2 a3 a4 (some ⟨sb, 0, none⟩) T Y Z zt zs) (hl : 0 < ls) : Holds w8 sb 0 ls (u8R zs) := by
  obtain ⟨_, e, h | ⟨b, e2, _, _, h3⟩⟩ := h.args.sb
  · omega
  · cases e
    cases e2
    exact h3
end

theorem own_some {w : World} {lo hi len : Nat} {a : Option Addr} {z : Nat → Int} (h0 : 0 < len) (h : len = 0 ∨ ∃ b, a = some ⟨b, 0, none⟩ ∧ lo ≤ b ∧ b < hi ∧ Holds w b 0 len (u8R z)) : ∃ b, a = some ⟨b, 0, none⟩ := by
  rcases h with h | ⟨b, h, _⟩
  · omega
  · exact ⟨b, h⟩

theorem Strs.cut {w : World} {lo hi n c : Nat} {a : Option Addr} {T : Nat → ByteArray} {s : ByteArray} (h : Strs w lo hi (.slice a (n + 1) c) (n + 1) (more T n s)) : Strs w lo hi (.slice a n c) n T ∧ ∃ b off, a = some ⟨b, off, none⟩ ∧ lo ≤ b ∧ w.cell? ⟨b, off + n, none⟩ = some (.string s) := by
  obtain ⟨_, _, e, h | ⟨b, off, e2, k1, k2, h3⟩⟩ := h
  · omega
  · cases e
    refine ⟨⟨_, _, rfl, .inr ⟨b, off, e2, k1, k2, fun i hi => ?_⟩⟩, b, off, e2, k1, ?_⟩
    · have := h3 i (by omega)
      rwa [more_lt _ _ hi] at this
    · have := h3 n (by omega)
      rwa [more_at] at this

theorem Bss.cut {w : World} {lo hi n c l : Nat} {a : Option Addr} {Y : Nat → Nat} {Z : Nat → Nat → Int} {z : Nat → Int} (h : Bss w lo hi (.slice a (n + 1) c) (n + 1) (more Y n l) (more Z n z)) : Bss w lo hi (.slice a n c) n Y Z ∧ ∃ b off, a = some ⟨b, off, none⟩ ∧ lo ≤ b ∧ ∃ va vc, w.cell? ⟨b, off + n, none⟩ = some (.slice va l vc) ∧ IsBy w lo hi (.slice va l vc) l z := by
  obtain ⟨_, _, e, h | ⟨b, off, e2, k1, k2, h3⟩⟩ := h
  · omega
  · cases e
    refine ⟨⟨_, _, rfl, .inr ⟨b, off, e2, k1, k2, fun i hi => ?_⟩⟩, b, off, e2, k1, ?_⟩
    · have := h3 i (by omega)
      rwa [more_lt _ _ hi, more_lt _ _ hi] at this
    · obtain ⟨vi, c1, c2⟩ := h3 n (by omega)
      rw [more_at, more_at] at c2
      obtain ⟨va, vc, rfl, _⟩ := id c2
      exact ⟨va, vc, c1, c2⟩

/-- Worlds that differ in blocks from lo on and below hi alone; v's bytes lie there. -/
structure Xs (lo hi : Nat) (w wr : World) : Prop where
  os : wr.os = w.os
  tape : wr.tape = w.tape
  output : wr.output = w.output
  size : wr.heap.size = w.heap.size
  block : ∀ k, (k < lo ∨ hi ≤ k) → wr.heap[k]? = w.heap[k]?

theorem Xs.refl (lo hi : Nat) (w : World) : Xs lo hi w w := ⟨rfl, rfl, rfl, rfl, fun _ _ => rfl⟩
theorem Xs.set {lo hi : Nat} {w wr : World} (h : Xs lo hi w wr) {b : Nat} (h1 : lo ≤ b) (h2 : b < hi) (o : Nat) (v : Value) : Xs lo hi w (wr.setCell ⟨b, o, none⟩ v) :=
  ⟨h.os, h.tape, h.output, by simpa [World.setCell] using h.size, fun k hk => by rw [Below.heap_setCell _ _ _ _ (by show k ≠ b; omega)]; exact h.block k hk⟩
theorem Xs.below {lo hi B : Nat} {w0 w wr : World} (h : Xs lo hi w wr) (hB : Below B w0 w) (hl : B ≤ lo) : Below B w0 wr :=
  ⟨h.os.trans hB.os, h.tape.trans hB.tape, h.output.trans hB.output, by rw [h.size]; exact hB.size, fun k hk => (h.block k (by omega)).trans (hB.block k hk)⟩
theorem Xs.agreeL {lo hi lo' hi' : Nat} {w wr : World} (h : Xs lo hi w wr) (hl : hi' ≤ lo) : Agree lo' hi' w wr := fun k _ h2 => h.block k (by omega)
theorem Xs.agreeR {lo hi lo' hi' : Nat} {w wr : World} (h : Xs lo hi w wr) (hl : hi ≤ lo') : Agree lo' hi' w wr := fun k h1 _ => h.block k (by omega)

/-- The bytes of an own slice may be written over. -/
theorem own_write {w : World} {lo hi len k b : Nat} {z : Nat → Int} (h : OwnBy w lo hi (.slice (some ⟨b, 0, none⟩) len len) len z) (hk : k < len) (q : Int) :
    ∃ z', OwnBy (w.setCell ⟨b, k, none⟩ (.int .u8 q)) lo hi (.slice (some ⟨b, 0, none⟩) len len) len z' := by
  obtain ⟨_, e, h | ⟨b', e2, h1, h2, h3⟩⟩ := h
  · omega
  · cases e
    cases e2
    have := h3.set k hk (.int .u8 q)
    rw [Nat.zero_add] at this
    refine ⟨fun t => if t = k then q else z t, _, rfl, .inr ⟨b, rfl, h1, h2, this.congr fun t ht => ?_⟩⟩
    unfold upd u8R
    dsimp only
    by_cases e : t = k
    · rw [if_pos e, if_pos e]
    · rw [if_neg e, if_neg e]

theorem own_cell {w : World} {lo hi len k : Nat} {a : Option Addr} {z : Nat → Int} (h : OwnBy w lo hi (.slice a len len) len z) (hk : k < len) :
    ∃ b q, a = some ⟨b, 0, none⟩ ∧ lo ≤ b ∧ b < hi ∧ w.cell? ⟨b, k, none⟩ = some (.int .u8 q) ∧ w.frozen? ⟨b, k, none⟩ = false := by
  obtain ⟨_, e, h | ⟨b', e2, h1, h2, h3⟩⟩ := h
  · omega
  · cases e
    have c := h3.cell k hk
    have f := h3.free k hk
    rw [Nat.zero_add] at c f
    exact ⟨b', z k, e2, h1, h2, c, f⟩

/-- While the law writes over its copies of the pending bytes. -/
structure L1 (w : World) (h3 h4 h5 lt ls : Nat) (a4 a5 : Option Addr) (wr : World) : Prop where
  xs : Xs h3 h5 w wr
  t : ∃ z, OwnBy wr h3 h4 (.slice a4 lt lt) lt z
  s : ∃ z, OwnBy wr h4 h5 (.slice a5 ls ls) ls z
  l4 : h3 ≤ h4
  l5 : h4 ≤ h5

theorem L1.stepT {w wr : World} {h3 h4 h5 lt ls b k : Nat} {a5 : Option Addr} (h : L1 w h3 h4 h5 lt ls (some ⟨b, 0, none⟩) a5 wr) (hk : k < lt) (h1 : h3 ≤ b) (h2 : b < h4) (q : Int) : L1 w h3 h4 h5 lt ls (some ⟨b, 0, none⟩) a5 (wr.setCell ⟨b, k, none⟩ (.int .u8 q)) := by
  have l5 := h.l5
  obtain ⟨z, hz⟩ := h.t
  obtain ⟨z5, hz5⟩ := h.s
  exact ⟨h.xs.set h1 (by omega) k _, own_write hz hk q, ⟨z5, hz5.agree (fun i hi _ => Below.heap_setCell _ _ _ _ (by show i ≠ b; omega))⟩, h.l4, l5⟩

theorem L1.stepS {w wr : World} {h3 h4 h5 lt ls b k : Nat} {a4 : Option Addr} (h : L1 w h3 h4 h5 lt ls a4 (some ⟨b, 0, none⟩) wr) (hk : k < ls) (h1 : h4 ≤ b) (h2 : b < h5) (q : Int) : L1 w h3 h4 h5 lt ls a4 (some ⟨b, 0, none⟩) (wr.setCell ⟨b, k, none⟩ (.int .u8 q)) := by
  have l4 := h.l4
  obtain ⟨z, hz⟩ := h.t
  obtain ⟨z5, hz5⟩ := h.s
  exact ⟨h.xs.set (by omega) h2 k _, ⟨z, hz.agree (fun i _ hi => Below.heap_setCell _ _ _ _ (by show i ≠ b; omega))⟩, own_write hz5 hk q, l4, h.l5⟩

theorem L1.start {w w8 : World} {P h0 h1 h2 h3 h4 h5 h6 n lt ls : Nat} {a1 a2 a3 a4 a5 : Option Addr} {T : Nat → ByteArray} {Y : Nat → Nat} {Z : Nat → Nat → Int} {zt zs : Nat → Int} (h : Mid w w8 P h0 h1 h2 h3 h4 h5 h6 n lt ls a1 a2 a3 a4 a5 T Y Z zt zs) : L1 w8 h3 h4 h5 lt ls a4 a5 w8 :=
  ⟨Xs.refl _ _ _, ⟨_, h.args.tb⟩, ⟨_, h.args.sb⟩, h.args.l4, h.args.l5⟩

/-- What the end reads. -/
structure Ends (w : World) (hi b1 o1 b2 o2 n lt ls vc : Nat) (va a2 a3 : Option Addr) (zt zs : Nat → Int) (w0 : World) : Prop where
  c1 : w.cell? ⟨b1, o1 + n, none⟩ = some (.string (strZ zt lt))
  c2 : w.cell? ⟨b2, o2 + n, none⟩ = some (.slice va ls vc)
  v : IsBy w 0 hi (.slice va ls vc) ls zs
  t : IsBy w 0 hi (.slice a2 lt lt) lt zt
  s : IsBy w 0 hi (.slice a3 ls ls) ls zs
  below : Below w0.heap.size w0 w

theorem ends_of {w w8 wr : World} {P h0 h1 h2 h3 h4 h5 h6 n lt ls b1 o1 b2 o2 vc lo hi : Nat} {a1 a2 a3 a4 a5 va : Option Addr} {T : Nat → ByteArray} {Y : Nat → Nat} {Z : Nat → Nat → Int} {zt zs : Nat → Int} (h : Mid w w8 P h0 h1 h2 h3 h4 h5 h6 n lt ls a1 a2 a3 a4 a5 T Y Z zt zs) (hL : L1 w8 h3 h4 h5 lt ls a4 a5 wr)
    (hb1 : h5 ≤ b1) (c1 : w8.cell? ⟨b1, o1 + n, none⟩ = some (.string (strZ zt lt))) (hb2 : h6 ≤ b2) (c2 : w8.cell? ⟨b2, o2 + n, none⟩ = some (.slice va ls vc)) (hlo : h6 ≤ lo) (hhi : h6 ≤ hi) (hv : IsBy w8 lo hi (.slice va ls vc) ls zs) :
    Ends wr hi b1 o1 b2 o2 n lt ls vc va a2 a3 zt zs w := by
  have q0 := h.q0
  have q5 := h.q5
  have l1 := h.args.l1
  have l2 := h.args.l2
  have l3 := h.args.l3
  have l4 := h.args.l4
  have l5 := h.args.l5
  refine ⟨?_, ?_, ?_, ?_, ?_, hL.xs.below h.below (by omega)⟩
  · exact (World.cell?_of_block (a := ⟨b1, o1 + n, none⟩) (hL.xs.block b1 (by omega))).trans c1
  · exact (World.cell?_of_block (a := ⟨b2, o2 + n, none⟩) (hL.xs.block b2 (by omega))).trans c2
  · exact (hv.agree (hL.xs.agreeR (by omega))).wide (Nat.zero_le _) (Nat.le_refl _)
  · exact (h.args.t.by.agree (hL.xs.agreeL (by omega))).wide (Nat.zero_le _) (by omega)
  · exact (h.args.s.by.agree (hL.xs.agreeL (by omega))).wide (Nat.zero_le _) (by omega)

end Go.Proofs.Qxb6602660a
