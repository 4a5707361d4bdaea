/-
  PLAIN LAWS OF FLOAT64, MORE (no Go in sight): one step of a running mean.
-/
import Derived.Test.Qxb6600900aFl2
namespace Go.Proofs.Qxb6600900a.Fl
open Ieee
set_option exponentiation.threshold 3000
set_option linter.unusedSimpArgs false

theorem rep_pow (k : Nat) (h : k ≤ 2097) : Rep ((2 ^ k : Nat) : Int) := by
  by_cases c : k < 52
  · refine ⟨2 ^ k, ?_, .inl ?_⟩
    · have : 2 ^ k ≤ 2 ^ 52 := Nat.pow_le_pow_right (by omega) (by omega)
      omega
    · have h1 : 2 ^ k < 2 ^ 52 := Nat.pow_lt_pow_right (by omega) c
      have := val_mk (2 ^ k) 0 (by omega) (by omega)
      simp only [Nat.zero_mul, Nat.zero_add, Nat.pow_zero, Nat.mul_one] at this
      rw [this]
  · refine ⟨(k - 52) * 2 ^ 52 + 2 ^ 52, by omega, .inl ?_⟩
    rw [val_mk (2 ^ 52) (k - 52) (by omega) (by omega), ← Nat.pow_add]
    congr 2; omega

/-- One, in units. -/
def U1 : Nat := 2 ^ 1074
theorem U1_pos : 0 < U1 := Nat.two_pow_pos _

/-- A whole number below 2^53 is representable. -/
theorem rep_nat (n : Nat) (h : n < 2 ^ 53) : Rep (((n * U1 : Nat)) : Int) := by
  by_cases c : n = 0
  · subst c; simpa using rep_zero
  · have h1 : 2 ^ n.log2 ≤ n := Nat.log2_self_le c
    have h2 : n < 2 ^ (n.log2 + 1) := Nat.lt_log2_self
    have hl : n.log2 ≤ 52 := by
      by_cases d : n.log2 ≤ 52
      · exact d
      · have : 2 ^ 53 ≤ 2 ^ n.log2 := Nat.pow_le_pow_right (by omega) (by omega)
        omega
    generalize n.log2 = lg at *
    have g1 : 2 ^ lg * 2 ^ (52 - lg) ≤ n * 2 ^ (52 - lg) := Nat.mul_le_mul_right _ h1
    have g2 : 2 ^ lg * 2 ^ (52 - lg) = 2 ^ 52 := by rw [← Nat.pow_add]; congr 1; omega
    have g3 : n * 2 ^ (52 - lg) < 2 ^ (lg + 1) * 2 ^ (52 - lg) := Nat.mul_lt_mul_of_pos_right h2 (Nat.two_pow_pos _)
    have g4 : 2 ^ (lg + 1) * 2 ^ (52 - lg) = 2 ^ 53 := by rw [← Nat.pow_add]; congr 1; omega
    refine ⟨(1022 + lg) * 2 ^ 52 + n * 2 ^ (52 - lg), by omega, .inl ?_⟩
    rw [val_mk _ _ (by omega) (by omega), Nat.mul_assoc, ← Nat.pow_add]
    unfold U1
    congr 3; omega

/-- float64(n), 1 ≤ n < 2^53: exact. -/
theorem of_nat (n : Nat) (h1 : 1 ≤ n) (h2 : n < 2 ^ 53) : Fin (double.nearest false n 0) ∧ V (double.nearest false n 0) = ((n * U1 : Nat) : Int) := by
  have hr : RndQ ((n * U1 : Nat) : Int) 1 (double.nearest false n 0) :=
    near_rnd false n 0 1074 0 1 _ (by omega) (by omega) (fun _ => rfl) (by omega) (fun s hs => by rw [Int.natAbs_natCast] at hs; rw [Nat.pow_zero]; exact hs) (fun s hs => by rw [Int.natAbs_natCast] at hs; rw [Nat.pow_zero]; exact hs) (by omega)
  have := hr.between (by omega) (rep_nat n h2) (rep_nat n h2) (by simp) (by simp)
  exact ⟨this.1, by omega⟩

/-- The bound on what is averaged: 2^998, in units. -/
def BX : Int := ((2 ^ 2072 : Nat) : Int)

def Bd (x : Nat) : Prop := Fin x ∧ -BX ≤ V x ∧ V x ≤ BX

theorem rep_BX : Rep BX := rep_pow 2072 (by omega)

theorem log_between (D : Nat) (h : 2 ≤ D) : ∃ k, 2 ^ k < D ∧ D ≤ 2 ^ (k + 1) := by
  have h1 : 2 ^ (D - 1).log2 ≤ D - 1 := Nat.log2_self_le (by omega)
  have h2 : D - 1 < 2 ^ ((D - 1).log2 + 1) := Nat.lt_log2_self
  exact ⟨(D - 1).log2, by omega, by omega⟩

/-- Half of a rounded difference, or less, does not pass the difference. -/
theorem half_step {D : Nat} {n : Nat} (hn : 2 ≤ n) (hD : D ≤ 2 ^ 2073) :
    ∃ A B : Nat, Rep (A : Int) ∧ Rep (B : Int) ∧ D ≤ A ∧ A ≤ B * n ∧ B ≤ D ∧ A ≤ 2 ^ 2073 := by
  by_cases h0 : D = 0
  · subst h0; exact ⟨0, 0, rep_zero, rep_zero, by omega, by omega, by omega, by omega⟩
  by_cases h1 : D = 1
  · subst h1; exact ⟨1, 1, rep_pow 0 (by omega), rep_pow 0 (by omega), by omega, by omega, by omega, Nat.one_le_two_pow⟩
  obtain ⟨k, hk1, hk2⟩ := log_between D (by omega)
  have hk : k + 1 ≤ 2073 := by
    by_cases c : k + 1 ≤ 2073
    · exact c
    · have : 2 ^ 2073 ≤ 2 ^ k := Nat.pow_le_pow_right (by omega) (by omega)
      omega
  refine ⟨2 ^ (k + 1), 2 ^ k, rep_pow _ (by omega), rep_pow _ (by omega), hk2, ?_, by omega, Nat.pow_le_pow_right (by omega) hk⟩
  rw [Nat.pow_succ]; exact Nat.mul_le_mul_left _ hn

/-- ONE STEP OF A RUNNING MEAN: d = x - m; m' = m + d / n: every operation is valid; m' lies between m and x. -/
theorem mean_step {x m nf n : Nat} (hx : Bd x) (hm : Bd m) (hnf : Fin nf) (hv : V nf = ((n * U1 : Nat) : Int)) (hn : 2 ≤ n ∨ (n = 1 ∧ V m = 0)) :
    ∃ d q m', double.sub x m = some d ∧ double.div d nf = some q ∧ double.add m q = some m' ∧ Fin d ∧ Fin q ∧ Bd m' ∧
      (n = 1 → V m' = V x) ∧ (V m ≤ V x → 0 ≤ V d ∧ V m ≤ V m' ∧ V m' ≤ V x) ∧ (V x ≤ V m → V d ≤ 0 ∧ V x ≤ V m' ∧ V m' ≤ V m) ∧ (V x = V m → V d = 0) := by
  obtain ⟨fx, bx1, bx2⟩ := hx
  obtain ⟨fm, bm1, bm2⟩ := hm
  obtain ⟨d, ed, rd⟩ := sub_fin fx fm
  have hU := U1_pos
  have hn0 : 0 < n := by omega
  have hnfpos : 0 < V nf := by rw [hv]; have := Nat.mul_pos hn0 hU; omega
  have hnft : (V nf).toNat = n * U1 := by rw [hv]; exact Int.toNat_natCast _
  have hb2 : BX + BX = ((2 ^ 2073 : Nat) : Int) := by unfold BX; rw [Nat.pow_succ]; omega
  have hU' : ((2 ^ 1074 : Nat) : Int) = (U1 : Int) := rfl
  rcases hn with hn | ⟨rfl, hm0⟩
  · -- n at least 2
    rcases Int.le_total (V m) (V x) with hle | hle
    · obtain ⟨D, hD⟩ : ∃ D : Nat, (D : Int) = V x - V m := ⟨(V x - V m).toNat, by omega⟩
      obtain ⟨A, B, rA, rB, h1, h2, h3, h4⟩ := half_step (D := D) hn (by omega)
      have b1 := rd.between (by omega) rep_zero rA (by omega) (by omega)
      obtain ⟨q, eq, rq⟩ := div_fin b1.1 hnf hnfpos
      rw [hnft, hU'] at rq
      have hup : V d * (U1 : Int) ≤ (B : Int) * ((n * U1 : Nat) : Int) := by
        have : V d ≤ ((B * n : Nat) : Int) := by omega
        have h5 := Int.mul_le_mul_of_nonneg_right this (show (0 : Int) ≤ (U1 : Int) by omega)
        have h6 : ((B * n : Nat) : Int) * (U1 : Int) = (B : Int) * ((n * U1 : Nat) : Int) := by push_cast; rw [Int.mul_assoc]
        omega
      have hdn : 0 ≤ V d * (U1 : Int) := Int.mul_nonneg b1.2.1 (by omega)
      have b2 := rq.between (Nat.mul_pos hn0 hU) rep_zero rB (by omega) hup
      obtain ⟨m', em, rm⟩ := add_fin fm b2.1
      have b3 := rm.between (by omega) (rep_V fm) (rep_V fx) (by omega) (by omega)
      refine ⟨d, q, m', ed, eq, em, b1.1, b2.1, ⟨b3.1, by omega, by omega⟩, by omega, fun _ => ⟨b1.2.1, by omega, by omega⟩, fun h => ?_, fun h => ?_⟩
      · have hz : V x - V m = 0 := by omega
        have b4 := rd.between (by omega) rep_zero rep_zero (by omega) (by omega)
        exact ⟨by omega, by omega, by omega⟩
      · have b4 := rd.between (by omega) rep_zero rep_zero (by omega) (by omega)
        omega
    · obtain ⟨D, hD⟩ : ∃ D : Nat, (D : Int) = V m - V x := ⟨(V m - V x).toNat, by omega⟩
      obtain ⟨A, B, rA, rB, h1, h2, h3, h4⟩ := half_step (D := D) hn (by omega)
      have b1 := rd.between (by omega) rA.neg rep_zero (by omega) (by omega)
      obtain ⟨q, eq, rq⟩ := div_fin b1.1 hnf hnfpos
      rw [hnft, hU'] at rq
      have hup : -(B : Int) * ((n * U1 : Nat) : Int) ≤ V d * (U1 : Int) := by
        have : -V d ≤ ((B * n : Nat) : Int) := by omega
        have h5 := Int.mul_le_mul_of_nonneg_right this (show (0 : Int) ≤ (U1 : Int) by omega)
        have h6 : ((B * n : Nat) : Int) * (U1 : Int) = (B : Int) * ((n * U1 : Nat) : Int) := by push_cast; rw [Int.mul_assoc]
        rw [Int.neg_mul] at h5 ⊢
        omega
      have hdn : V d * (U1 : Int) ≤ 0 := Int.mul_nonpos_of_nonpos_of_nonneg b1.2.2 (by omega)
      have b2 := rq.between (Nat.mul_pos hn0 hU) rB.neg rep_zero hup (by omega)
      obtain ⟨m', em, rm⟩ := add_fin fm b2.1
      have b3 := rm.between (by omega) (rep_V fx) (rep_V fm) (by omega) (by omega)
      refine ⟨d, q, m', ed, eq, em, b1.1, b2.1, ⟨b3.1, by omega, by omega⟩, by omega, fun h => ?_, fun _ => ⟨b1.2.2, by omega, by omega⟩, fun h => ?_⟩
      · have b4 := rd.between (by omega) rep_zero rep_zero (by omega) (by omega)
        exact ⟨by omega, by omega, by omega⟩
      · have b4 := rd.between (by omega) rep_zero rep_zero (by omega) (by omega)
        omega
  · -- the first
    have b1 := rd.between (by omega) (rep_V fx) (rep_V fx) (by omega) (by omega)
    have hd : V d = V x := by omega
    obtain ⟨q, eq, rq⟩ := div_fin b1.1 hnf hnfpos
    rw [hnft, hU', hd, Nat.one_mul] at rq
    have b2 := rq.between hU (rep_V fx) (rep_V fx) (by omega) (by omega)
    obtain ⟨m', em, rm⟩ := add_fin fm b2.1
    have b3 := rm.between (by omega) (rep_V fx) (rep_V fx) (by omega) (by omega)
    exact ⟨d, q, m', ed, eq, em, b1.1, b2.1, ⟨b3.1, by omega, by omega⟩, by omega, by omega, by omega, by omega⟩

/-- What is left of x behind the step: valid; its sign is d's. -/
theorem rest_step {x m' : Nat} (hx : Bd x) (hm : Bd m') : ∃ g, double.sub x m' = some g ∧ Fin g ∧ (V m' ≤ V x → 0 ≤ V g) ∧ (V x ≤ V m' → V g ≤ 0) ∧ (V x = V m' → V g = 0) := by
  obtain ⟨fx, bx1, bx2⟩ := hx
  obtain ⟨fm, bm1, bm2⟩ := hm
  obtain ⟨g, eg, rg⟩ := sub_fin fx fm
  have hb2 : BX + BX = ((2 ^ 2073 : Nat) : Int) := by unfold BX; rw [Nat.pow_succ]; omega
  have hR : Rep (BX + BX) := by rw [hb2]; exact rep_pow 2073 (by omega)
  have b1 := rg.between (by omega) hR.neg hR (by omega) (by omega)
  refine ⟨g, eg, b1.1, fun h => ?_, fun h => ?_, fun h => ?_⟩
  · exact (rg.between (by omega) rep_zero hR (by omega) (by omega)).2.1
  · exact (rg.between (by omega) hR.neg rep_zero (by omega) (by omega)).2.2
  · have := rg.between (by omega) rep_zero rep_zero (by omega) (by omega); omega

/-- A sum of two that are not below zero. -/
theorem nn_add {c p : Nat} (hc : NN c) (hp : NN p) : ∃ r, double.add c p = some r ∧ NN r := by
  rcases hc with ⟨fc, vc⟩ | rfl
  · rcases hp with ⟨fp, vp⟩ | rfl
    · obtain ⟨r, e, rr⟩ := add_fin fc fp
      exact ⟨r, e, rr.nn (by omega)⟩
    · obtain ⟨m, p, e1, v1⟩ := read_fin fc
      refine ⟨INF, ?_, .inr rfl⟩
      unfold Format.add; rw [e1, read_inf]; rfl
  · rcases hp with ⟨fp, vp⟩ | rfl
    · obtain ⟨m, p, e1, v1⟩ := read_fin fp
      refine ⟨INF, ?_, .inr rfl⟩
      unfold Format.add; rw [e1, read_inf]; rfl
    · refine ⟨INF, ?_, .inr rfl⟩
      unfold Format.add; rw [read_inf]; rfl

/-- '... >= 0' says yes. -/
theorem nn_ge {r : Nat} (h : NN r) : (double.order r 0 == some .gt || double.order r 0 == some .eq) = true := by
  rcases h with ⟨f, v⟩ | rfl
  · have f0 : Fin 0 := by unfold Fin rung; decide
    have v0 : V 0 = 0 := by decide
    rw [order_fin f f0, v0]
    simp only [Int.compare_eq_ite_lt]
    by_cases c : V r = 0
    · rw [c]; rfl
    · rw [if_neg (by omega), if_pos (by omega)]; rfl
  · decide

/-- The words of -1e300 and 1e300; what lies between. -/
theorem within {x : Nat} (h1 : (double.order x 18318360957983683996 == some .gt || double.order x 18318360957983683996 == some .eq) = true)
    (h2 : (double.order x 9094988921128908188 == some .lt || double.order x 9094988921128908188 == some .eq) = true) : Fin x ∧ -(V 9094988921128908188) ≤ V x ∧ V x ≤ V 9094988921128908188 := by
  have fa : Fin 18318360957983683996 := by unfold Fin rung; decide
  have fb : Fin 9094988921128908188 := by unfold Fin rung; decide
  have va : V 18318360957983683996 = -(V 9094988921128908188) := by decide +kernel
  by_cases f : Fin x
  · refine ⟨f, ?_, ?_⟩
    · rw [order_fin f fa, va] at h1
      simp only [Int.compare_eq_ite_lt] at h1
      by_cases c : V x < -(V 9094988921128908188)
      · rw [if_pos c] at h1; cases h1
      · omega
    · rw [order_fin f fb] at h2
      simp only [Int.compare_eq_ite_lt] at h2
      by_cases c : V 9094988921128908188 < V x
      · rw [if_neg (by omega), if_pos c] at h2; cases h2
      · omega
  · exfalso
    have hs : double.signWeight = 2 ^ 63 := rfl
    have hb : double.binade = 2 ^ 52 := rfl
    have hi : double.infRung = 2047 * 2 ^ 52 := by decide
    unfold Fin rung at f
    have hread : double.read x = (if x % 2 ^ 63 = 2047 * 2 ^ 52 then Datum.infinity (x / 2 ^ 63 % 2 == 1) else Datum.nan (x / 2 ^ 63 % 2 == 1) (x % 2 ^ 63 - 2047 * 2 ^ 52)) := by
      unfold Format.read
      simp only [hs, hb, hi]
      rw [if_neg (by omega), if_neg f]
    obtain ⟨ma, pa, ea, _⟩ := read_fin fa
    obtain ⟨mb, pb, eb, _⟩ := read_fin fb
    unfold Format.order at h1 h2
    rw [hread, ea] at h1
    rw [hread, eb] at h2
    by_cases c : x % 2 ^ 63 = 2047 * 2 ^ 52
    · rw [if_pos c] at h1 h2
      simp only [Datum.order] at h1 h2
      cases hng : (x / 2 ^ 63 % 2 == 1)
      · rw [hng] at h2; simp at h2
      · rw [hng] at h1; simp at h1
    · rw [if_neg c] at h1
      simp only [Datum.order] at h1
      cases h1

theorem bd_within {x : Nat} (h : Fin x ∧ -(V 9094988921128908188) ≤ V x ∧ V x ≤ V 9094988921128908188) : Bd x := by
  have : V 9094988921128908188 ≤ BX := by decide +kernel
  exact ⟨h.1, by omega, by omega⟩

/-- (c - e) / 10000: valid, and within the bound. -/
theorem dev_step {c e : Nat} (hc : Fin c ∧ -(V 9094988921128908188) ≤ V c ∧ V c ≤ V 9094988921128908188) (he : Fin e ∧ -(V 9094988921128908188) ≤ V e ∧ V e ≤ V 9094988921128908188) :
    ∃ t x, double.sub c e = some t ∧ double.div t 4666723172467343360 = some x ∧ Bd x := by
  have hM : V 9094988921128908188 + V 9094988921128908188 ≤ BX := by decide +kernel
  have ft : Fin 4666723172467343360 := by unfold Fin rung; decide
  have vt : V 4666723172467343360 = ((10000 * U1 : Nat) : Int) := by decide +kernel
  have hU := U1_pos
  obtain ⟨t, et, rt⟩ := sub_fin hc.1 he.1
  have b1 := rt.between (by omega) rep_BX.neg rep_BX (by omega) (by omega)
  obtain ⟨x, ex, rx⟩ := div_fin b1.1 ft (by rw [vt]; omega)
  rw [vt, Int.toNat_natCast] at rx
  have hU' : ((2 ^ 1074 : Nat) : Int) = (U1 : Int) := rfl
  rw [hU'] at rx
  have hBX : 0 ≤ BX := by unfold BX; omega
  have h6 : BX * ((10000 * U1 : Nat) : Int) = 10000 * (BX * (U1 : Int)) := by rw [Int.natCast_mul, Int.mul_left_comm]; rfl
  have h7 := Int.mul_le_mul_of_nonneg_right b1.2.2 (show (0 : Int) ≤ (U1 : Int) by omega)
  have h8 := Int.mul_le_mul_of_nonneg_right b1.2.1 (show (0 : Int) ≤ (U1 : Int) by omega)
  have h9 : 0 ≤ BX * (U1 : Int) := Int.mul_nonneg hBX (by omega)
  have h10 : -BX * ((10000 * U1 : Nat) : Int) = -(10000 * (BX * (U1 : Int))) := by rw [Int.neg_mul, h6]
  have h11 : -BX * (U1 : Int) = -(BX * (U1 : Int)) := Int.neg_mul _ _
  have b2 := rx.between (by omega) rep_BX.neg rep_BX (by omega) (by omega)
  exact ⟨t, x, et, ex, b2.1, b2.2.1, b2.2.2⟩

end Go.Proofs.Qxb6600900a.Fl
