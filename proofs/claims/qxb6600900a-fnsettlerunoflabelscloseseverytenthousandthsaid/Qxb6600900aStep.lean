/-
  PLAIN LAWS: what every operation of a close gives, out of bounds on what comes in.
-/
import Derived.Test.Qxb6600900aFl3
import Derived.Test.Qxb6600900aInv
namespace Go.Proofs.Qxb6600900a
open Fl

theorem choose2 {P : Nat → Nat → Prop} (h : ∀ i, i < 2 → ∃ x, P i x) : ∃ f : Nat → Nat, ∀ i, i < 2 → P i (f i) := by
  obtain ⟨a, ha⟩ := h 0 (by omega)
  obtain ⟨b, hb⟩ := h 1 (by omega)
  refine ⟨fun i => if i = 0 then a else b, fun i hi => ?_⟩
  rcases (show i = 0 ∨ i = 1 by omega) with rfl | rfl
  · simpa using ha
  · simpa using hb

theorem choose3 {P : Nat → Nat → Prop} (h : ∀ i, i < 3 → ∃ x, P i x) : ∃ f : Nat → Nat, ∀ i, i < 3 → P i (f i) := by
  obtain ⟨a, ha⟩ := h 0 (by omega)
  obtain ⟨b, hb⟩ := h 1 (by omega)
  obtain ⟨c, hc⟩ := h 2 (by omega)
  refine ⟨fun i => if i = 0 then a else if i = 1 then b else c, fun i hi => ?_⟩
  rcases (show i = 0 ∨ i = 1 ∨ i = 2 by omega) with rfl | rfl | rfl
  · simpa using ha
  · simpa using hb
  · simpa using hc

theorem choose33 {P : Nat → Nat → Nat → Prop} (h : ∀ i j, i < 3 → j < 3 → ∃ x, P i j x) : ∃ f : Nat → Nat → Nat, ∀ i j, i < 3 → j < 3 → P i j (f i j) := by
  obtain ⟨f0, h0⟩ := choose3 (P := fun j x => P 0 j x) (fun j hj => h 0 j (by omega) hj)
  obtain ⟨f1, h1⟩ := choose3 (P := fun j x => P 1 j x) (fun j hj => h 1 j (by omega) hj)
  obtain ⟨f2, h2⟩ := choose3 (P := fun j x => P 2 j x) (fun j hj => h 2 j (by omega) hj)
  refine ⟨fun i j => if i = 0 then f0 j else if i = 1 then f1 j else f2 j, fun i j hi hj => ?_⟩
  rcases (show i = 0 ∨ i = 1 ∨ i = 2 by omega) with rfl | rfl | rfl
  · simpa using h0 j hj
  · simpa using h1 j hj
  · simpa using h2 j hj

/-- float64(n + 1). -/
theorem floatOf_succ (n : Nat) (hn : n ≤ 1000000) : Fin (floatOfInt .f64 ((n : Int) + 1)) ∧ V (floatOfInt .f64 ((n : Int) + 1)) = (((n + 1) * U1 : Nat) : Int) := by
  have h := of_nat (n + 1) (by omega) (by omega)
  have e : floatOfInt .f64 ((n : Int) + 1) = Ieee.double.nearest false (n + 1) 0 := by
    unfold floatOfInt FloatKind.nearest FloatKind.encode
    have h1 : decide ((n : Int) + 1 < 0) = false := by simp; omega
    have h2 : ((n : Int) + 1).natAbs = n + 1 := by omega
    rw [h1, h2]
    rfl
  rw [e]
  exact h

/-- What is known of the words behind the operations. -/
structure Ops.Good (o : Ops) (n : Nat) : Prop where
  bx : ∀ i, i < 3 → Bd (o.xs i)
  bm : ∀ i, i < 3 → Bd (o.mp i)
  first : n = 0 → ∀ i, i < 3 → V (o.mp i) = V (o.xs i)
  up : ∀ i, i < 3 → V (o.ms i) ≤ V (o.xs i) → V (o.ms i) ≤ V (o.mp i) ∧ V (o.mp i) ≤ V (o.xs i)
  down : ∀ i, i < 3 → V (o.xs i) ≤ V (o.ms i) → V (o.xs i) ≤ V (o.mp i) ∧ V (o.mp i) ≤ V (o.ms i)
  diag : ∀ i, i < 3 → NN (o.ps i i)
  still : ∀ i j, i < 3 → j < 3 → V (o.xs j) = V (o.mp j) → Fin (o.ps i j) ∧ V (o.ps i j) = 0

/-- OUT OF BOUNDS ON WHAT COMES IN: every operation is valid. -/
theorem ops_exist (cs es ms co xs ts : Nat → Nat) (n : Nat) (hn : n ≤ 1000000)
    (hT : ∀ k, k < 2 → floatBits .sub .f64 (cs k) (es k) = some (ts k)) (hX : ∀ k, k < 2 → floatBits .quo .f64 (ts k) 4666723172467343360 = some (xs (1 + k)))
    (bx : ∀ i, i < 3 → Bd (xs i)) (bm : ∀ i, i < 3 → Bd (ms i)) (h0 : n = 0 → ∀ i, i < 3 → V (ms i) = 0) :
    ∃ o : Ops, o.cs = cs ∧ o.es = es ∧ o.ms = ms ∧ o.co = co ∧ o.xs = xs ∧ o.Valid (floatOfInt .f64 ((n : Int) + 1)) ∧ o.Good n := by
  obtain ⟨fn, vn⟩ := floatOf_succ n hn
  obtain ⟨ds, hds⟩ := choose3 (P := fun i d => ∃ q m', Ieee.double.sub (xs i) (ms i) = some d ∧ Ieee.double.div d (floatOfInt .f64 ((n : Int) + 1)) = some q ∧ Ieee.double.add (ms i) q = some m' ∧ Fin d ∧ Fin q ∧ Bd m' ∧
      (n + 1 = 1 → V m' = V (xs i)) ∧ (V (ms i) ≤ V (xs i) → 0 ≤ V d ∧ V (ms i) ≤ V m' ∧ V m' ≤ V (xs i)) ∧ (V (xs i) ≤ V (ms i) → V d ≤ 0 ∧ V (xs i) ≤ V m' ∧ V m' ≤ V (ms i)) ∧ (V (xs i) = V (ms i) → V d = 0))
    (fun i hi => mean_step (bx i hi) (bm i hi) fn vn (by
      by_cases c : n = 0
      · exact .inr ⟨by omega, h0 c i hi⟩
      · exact .inl (by omega)))
  obtain ⟨qs, hqs⟩ := choose3 hds
  obtain ⟨mp, hmp⟩ := choose3 hqs
  obtain ⟨gs, hgs⟩ := choose3 (P := fun j g => Ieee.double.sub (xs j) (mp j) = some g ∧ Fin g ∧ (V (mp j) ≤ V (xs j) → 0 ≤ V g) ∧ (V (xs j) ≤ V (mp j) → V g ≤ 0) ∧ (V (xs j) = V (mp j) → V g = 0))
    (fun j hj => rest_step (bx j hj) (hmp j hj).2.2.2.2.2.1)
  obtain ⟨ps, hps⟩ := choose33 (P := fun i j r => Ieee.double.mul (ds i) (gs j) = some r ∧ r < 2 ^ 64 ∧ (0 ≤ V (ds i) * V (gs j) → NN r) ∧ (V (ds i) * V (gs j) = 0 → Fin r ∧ V r = 0))
    (fun i j hi hj => mul_fin (hmp i hi).2.2.2.1 (hgs j hj).2.1)
  refine ⟨⟨cs, es, ms, co, xs, ts, ds, qs, mp, gs, ps⟩, rfl, rfl, rfl, rfl, rfl, ?_, ?_⟩
  · exact ⟨hT, hX, fun i hi => (hmp i hi).1, fun i hi => (hmp i hi).2.1, fun i hi => (hmp i hi).2.2.1, fun j hj => (hgs j hj).1, fun i j hi hj => (hps i j hi hj).1⟩
  · refine ⟨bx, fun i hi => (hmp i hi).2.2.2.2.2.1, fun c i hi => (hmp i hi).2.2.2.2.2.2.1 (by omega), fun i hi h => ((hmp i hi).2.2.2.2.2.2.2.1 h).2, fun i hi h => ((hmp i hi).2.2.2.2.2.2.2.2.1 h).2, ?_, ?_⟩
    · intro i hi
      refine (hps i i hi hi).2.2.1 ?_
      show 0 ≤ V (ds i) * V (gs i)
      have hd := (hmp i hi).2.2.2.2.2.2.2
      have hg := (hgs i hi).2.2
      rcases Int.le_total (V (ms i)) (V (xs i)) with c | c
      · have a := hd.1 c
        exact Int.mul_nonneg a.1 (hg.1 a.2.2)
      · have a := hd.2.1 c
        exact Int.mul_nonneg_of_nonpos_of_nonpos a.1 (hg.2.1 a.2.1)
    · intro i j hi hj h
      exact (hps i j hi hj).2.2.2 (by rw [(hgs j hj).2.2.2.2 h, Int.mul_zero])

end Go.Proofs.Qxb6600900a
