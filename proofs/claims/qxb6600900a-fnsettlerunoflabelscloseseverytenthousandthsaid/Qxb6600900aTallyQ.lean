/-
  The invariant of 'FnSettleRunOfLabelsClosesEveryTenThousandth'.
-/
import Derived.Test.Qxb6600900aTallyP
namespace Go.Proofs.Qxb6600900a
open Go.RowKit

/-- The blocks: the tally (T), the flags (fb), the copy of the late counts (A). -/
structure WT (w : World) (T fb A act len : Nat) (z : Nat → Int) (F : Nat → Value) (f : Nat → Bool) (wr : World) : Prop where
  tal : Holds wr T 0 51 F
  fl : Holds wr fb 0 act (fun i => .bool (f i))
  cp : Holds wr A 0 len (fun t => .int .u16 (z t))
  bel : Below w.heap.size w wr
  g1 : w.heap.size ≤ A
  g2 : A < T
  g3 : T < fb
  g4 : fb < wr.heap.size

section
variable {w wr w' : World} {T fb A act len : Nat} {z : Nat → Int} {F F' : Nat → Value} {f : Nat → Bool}

theorem Holds.kept {b off n T : Nat} {G : Nat → Value} (h : Holds wr b off n G) (hK : Kept T 0 51 wr w') (hb : b < wr.heap.size) (hne : b ≠ T) : Holds w' b off n G := by
  intro t ht
  have e := hK.block b hb hne
  exact ⟨by rw [World.cell?_of_block (a := ⟨b, off + t, none⟩) e]; exact (h t ht).1, by rw [World.frozen?_of_block (a := ⟨b, off + t, none⟩) e]; exact (h t ht).2⟩

theorem WT.kept (h : WT w T fb A act len z F f wr) (hK : Kept T 0 51 wr w') (hF : Holds w' T 0 51 F') : WT w T fb A act len z F' f w' := by
  have := h.g1; have := h.g2; have := h.g3; have := h.g4; have := hK.size
  exact ⟨hF, h.fl.kept hK h.g4 (by omega), h.cp.kept hK (by omega) (by omega), hK.below h.bel (by omega), h.g1, h.g2, h.g3, by omega⟩

theorem WT.below (h : WT w T fb A act len z F f wr) (hB : Below wr.heap.size wr w') : WT w T fb A act len z F f w' := by
  have := h.g1; have := h.g2; have := h.g3; have := h.g4; have := hB.size
  exact ⟨h.tal.below hB (by omega), h.fl.below hB (by omega), h.cp.below hB (by omega), h.bel.trans (hB.mono h.bel.size), h.g1, h.g2, h.g3, by omega⟩

theorem WT.flag (h : WT w T fb A act len z F f wr) (i : Nat) (hi : i < act) (b : Bool) : WT w T fb A act len z F (fun t => if t = i then b else f t) (wr.setCell ⟨fb, i, none⟩ (.bool b)) := by
  have := h.g1; have := h.g2; have := h.g3; have := h.g4
  have k := h.fl.set i hi (.bool b)
  rw [Nat.zero_add] at k
  exact ⟨h.tal.other _ (by show fb ≠ T; omega) _, k.congr (fun t _ => by unfold upd; split <;> rfl), h.cp.other _ (by show fb ≠ A; omega) _, h.bel.setCell (by show _ ≤ fb; omega) _, h.g1, h.g2, h.g3, by simpa [World.setCell] using h.g4⟩
end

/-- The tally's numbers behind k labels. -/
structure PT (act k : Nat) (tl ll op n : Int) (g : Nat) (F : Nat → Value) (o : Ops) (s0 s1 : Int) (l : Nat) : Prop where
  f0 : F 0 = .int .i64 act
  f13 : F 13 = .int .u64 k
  f14 : F 14 = .int .u64 tl
  f15 : F 15 = .int .u64 ll
  bt : o.In op n s0 s1 l (fun t => F (20 + t))
  f41 : F 41 = .float .f64 0
  f42 : F 42 = .float .f64 0
  ocs : ∀ i, i < 2 → o.cs i = 0
  oes : ∀ i, i < 2 → o.es i = 0
  bms : ∀ i, i < 3 → Fl.Bd (o.ms i)
  zms : n = 0 → ∀ i, i < 3 → Fl.V (o.ms i) = 0
  fl : Fl.Fin l
  fg : Fl.Fin g
  vg : Fl.V g = Fl.V l
  v0 : 0 ≤ Fl.V l
  v1 : Fl.V l ≤ Fl.V one

theorem held_out (F : Nat → Value) (act : Nat) (label : Int) (lb ab t : Nat) (h : t = 0 ∨ 7 ≤ t) : held F act label lb ab t = F t := by
  unfold held upd
  simp [show ¬ t = 1 by omega, show ¬ t = 2 by omega, show ¬ t = 3 by omega, show ¬ t = 4 by omega, show ¬ t = 5 by omega, show ¬ t = 6 by omega]

theorem setl_at (F : Nat → Value) (lab pr ll p c : Int) : setl F lab pr ll p c 13 = .int .u64 (lab + 1) ∧ setl F lab pr ll p c 14 = .int .u64 (pr + c) ∧ setl F lab pr ll p c 15 = .int .u64 (if 0 < c then ll + 1 else ll) ∧ setl F lab pr ll p c 20 = .int .u64 (p + c) := by
  unfold setl upd; simp

theorem PT.open {act k : Nat} {tl ll op n : Int} {g : Nat} {F : Nat → Value} {o : Ops} {s0 s1 : Int} {l : Nat} (h : PT act k tl ll op n g F o s0 s1 l) (label c : Int) (lb ab : Nat) :
    PT act (k + 1) (tl + c) (if 0 < c then ll + 1 else ll) (op + c) n g (setl (held F act label lb ab) k tl ll op c) o s0 s1 l := by
  obtain ⟨e13, e14, e15, e20⟩ := setl_at (held F act label lb ab) k tl ll op c
  refine ⟨?_, ?_, e14, e15, ?_, ?_, ?_, h.ocs, h.oes, h.bms, h.zms, h.fl, h.fg, h.vg, h.v0, h.v1⟩
  · rw [setl_out _ _ _ _ _ _ _ (by omega), held_out _ _ _ _ _ _ (by omega)]; exact h.f0
  · rw [e13]; rfl
  · exact in_setl (F := held F act label lb ab) (In.congr h.bt (fun t ht => held_out _ _ _ _ _ _ (by omega))) k tl ll c
  · rw [setl_out _ _ _ _ _ _ _ (by omega), held_out _ _ _ _ _ _ (by omega)]; exact h.f41
  · rw [setl_out _ _ _ _ _ _ _ (by omega), held_out _ _ _ _ _ _ (by omega)]; exact h.f42

theorem PT.close {act k : Nat} {tl ll op n : Int} {g : Nat} {F F' : Nat → Value} {o o2 : Ops} {s0 s1 s0' s1' : Int} {l u L g' : Nat} {co' : Nat → Nat} (h : PT act k tl ll op n g F o s0 s1 l) (label c : Int) (lb ab : Nat)
    (hF : ∀ t, t < 20 → F' t = setl (held F act label lb ab) k tl ll op c t) (hI : ({ o2 with cs := fun _ => 0, es := fun _ => 0, ms := o2.mp, co := co' } : Ops).In 0 (n + 1) s0' s1' L (fun t => F' (20 + t))) (h41 : F' 41 = held F act label lb ab 41) (h42 : F' 42 = held F act label lb ab 42)
    (hn : 0 ≤ n) (hb : ∀ i, i < 3 → Fl.Bd (o2.mp i)) (hu : Fl.Fin u ∧ 0 ≤ Fl.V u ∧ Fl.V u ≤ Fl.V one) (hL : Fl.Fin L ∧ Fl.V L = max (Fl.V l) (Fl.V u)) (hg : Fl.Fin g' ∧ Fl.V g' = max (Fl.V g) (Fl.V u)) :
    PT act (k + 1) (tl + c) (if 0 < c then ll + 1 else ll) 0 (n + 1) g' F' { o2 with cs := fun _ => 0, es := fun _ => 0, ms := o2.mp, co := co' } s0' s1' L := by
  obtain ⟨e13, e14, e15, e20⟩ := setl_at (held F act label lb ab) k tl ll op c
  have a := h.vg; have b := h.v0; have d := h.v1
  refine ⟨?_, ?_, ?_, ?_, hI, ?_, ?_, fun _ _ => rfl, fun _ _ => rfl, hb, fun e => absurd e (by omega), hL.1, hg.1, ?_, ?_, ?_⟩
  · rw [hF 0 (by omega), setl_out _ _ _ _ _ _ _ (by omega), held_out _ _ _ _ _ _ (by omega)]; exact h.f0
  · rw [hF 13 (by omega), e13]; rfl
  · rw [hF 14 (by omega), e14]
  · rw [hF 15 (by omega), e15]
  · rw [h41, held_out _ _ _ _ _ _ (by omega)]; exact h.f41
  · rw [h42, held_out _ _ _ _ _ _ (by omega)]; exact h.f42
  · rw [hg.2, hL.2, a]
  · rw [hL.2]; omega
  · rw [hL.2]; omega

/-- A fresh tally. -/
theorem pt_start (act : Nat) (o : Ops) (hcs : ∀ i, i < 2 → o.cs i = 0) (hes : ∀ i, i < 2 → o.es i = 0) (hms : ∀ i, i < 3 → o.ms i = 0) (hco : ∀ i, i < 9 → o.co i = 0) : PT act 0 0 0 0 0 0 (talF act) o 0 0 0 := by
  have z := fin_zero
  have zb : Fl.Bd 0 := ⟨z.1, by rw [z.2]; unfold Fl.BX; omega, by rw [z.2]; unfold Fl.BX; omega⟩
  refine ⟨rfl, rfl, rfl, rfl, ?_, rfl, rfl, hcs, hes, fun i hi => by rw [hms i hi]; exact zb, fun _ i hi => by rw [hms i hi]; exact z.2, z.1, z.1, rfl, by rw [z.2]; omega, by rw [z.2, fin_one.2]; exact Int.natCast_nonneg _⟩
  refine ⟨rfl, fun k hk => ?_, fun k hk => ?_, rfl, fun k hk => ?_, fun k hk => ?_, rfl, rfl, rfl⟩
  · rw [hcs k hk]; rcases (show k = 0 ∨ k = 1 by omega) with rfl | rfl <;> rfl
  · rw [hes k hk]; rcases (show k = 0 ∨ k = 1 by omega) with rfl | rfl <;> rfl
  · rw [hms k hk]; rcases (show k = 0 ∨ k = 1 ∨ k = 2 by omega) with rfl | rfl | rfl <;> rfl
  · rw [hco k hk]; rcases (show k = 0 ∨ k = 1 ∨ k = 2 ∨ k = 3 ∨ k = 4 ∨ k = 5 ∨ k = 6 ∨ k = 7 ∨ k = 8 by omega) with rfl | rfl | rfl | rfl | rfl | rfl | rfl | rfl | rfl <;> rfl

/-- What holds behind k labels. -/
def ST (w : World) (T fb A act len : Nat) (z : Nat → Int) (start : Int) (k : Nat) (tl ll op n : Int) (g : Nat) (wr : World) : Prop :=
  ∃ F f o s0 s1 l R, WT w T fb A act len z F f wr ∧ PT act k tl ll op n g F o s0 s1 l ∧ Open start k R ∧ op ≤ act * R ∧ (0 ≤ tl ∧ tl ≤ 65536 * k) ∧ (0 ≤ ll ∧ ll ≤ k) ∧ 0 ≤ op ∧ (0 ≤ n ∧ n ≤ k)

end Go.Proofs.Qxb6600900a
