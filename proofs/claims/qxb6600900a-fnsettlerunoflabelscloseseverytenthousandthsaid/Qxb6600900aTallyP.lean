/-
  The plain laws of 'FnSettleRunOfLabelsClosesEveryTenThousandth'.
-/
import Derived.Test.Qxb6600900aCount
import Derived.Test.Qxb6600900aCopyU
import Derived.Test.Qxb6600900aRangeP
namespace Go.Proofs.Qxb6600900a
open Go.RowKit

/-- 1.0 -/
def one : Nat := 4607182418800017408

theorem fin_one : Fl.Fin one ∧ Fl.V one = ((1 * Fl.U1 : Nat) : Int) := ⟨by unfold Fl.Fin Fl.rung one; decide, by decide +kernel⟩

theorem floatOf_nat (n : Nat) (h : n < 2 ^ 53) : Fl.Fin (floatOfInt .f64 (n : Int)) ∧ Fl.V (floatOfInt .f64 (n : Int)) = ((n * Fl.U1 : Nat) : Int) := by
  by_cases c : n = 0
  · subst c
    have e : floatOfInt .f64 ((0 : Nat) : Int) = 0 := by decide
    rw [e]
    exact ⟨fin_zero.1, by rw [fin_zero.2]; simp⟩
  · have h' := Fl.of_nat n (by omega) h
    have e : floatOfInt .f64 (n : Int) = Ieee.double.nearest false n 0 := by
      unfold floatOfInt FloatKind.nearest FloatKind.encode
      have h1 : decide ((n : Int) < 0) = false := by simp
      have h2 : (n : Int).natAbs = n := by omega
      rw [h1, h2]
      rfl
    rw [e]; exact h'

/-- A share of at most all lies in [0, 1]. -/
theorem share_fin {p q : Nat} (hq : 0 < q) (hpq : p ≤ q) (h : q < 2 ^ 53) : ∃ u, floatBits .quo .f64 (floatOfInt .f64 (p : Int)) (floatOfInt .f64 (q : Int)) = some u ∧ Fl.Fin u ∧ 0 ≤ Fl.V u ∧ Fl.V u ≤ Fl.V one := by
  obtain ⟨fp, vp⟩ := floatOf_nat p (by omega)
  obtain ⟨fq, vq⟩ := floatOf_nat q h
  have hU := Fl.U1_pos
  have h0 : 0 < Fl.V (floatOfInt .f64 (q : Int)) := by rw [vq]; exact Int.natCast_pos.2 (Nat.mul_pos hq hU)
  obtain ⟨u, eu, ru⟩ := Fl.div_fin fp fq h0
  rw [vp, vq, Int.toNat_natCast] at ru
  have hb := ru.between (Nat.mul_pos hq hU) Fl.rep_zero (Fl.rep_nat 1 (by omega)) (by rw [Int.zero_mul]; exact Int.mul_nonneg (Int.natCast_nonneg _) (Int.natCast_nonneg _)) (by
    rw [← Int.natCast_mul, ← Int.natCast_mul]
    refine Int.ofNat_le.2 ?_
    have e : 2 ^ 1074 = Fl.U1 := Fl.U1.eq_1.symm
    rw [e, Nat.one_mul, Nat.mul_comm Fl.U1 (q * Fl.U1)]
    exact Nat.mul_le_mul_right _ (Nat.mul_le_mul_right _ hpq))
  exact ⟨u, eu, hb.1, hb.2.1, by rw [fin_one.2]; exact hb.2.2⟩

theorem bd_unit {u : Nat} (h : Fl.Fin u ∧ 0 ≤ Fl.V u ∧ Fl.V u ≤ Fl.V one) : Fl.Bd u := by
  have : Fl.V one ≤ Fl.BX := by decide +kernel
  have : 0 ≤ Fl.BX := by decide +kernel
  exact ⟨h.1, by omega, by omega⟩

/-- max(l, u) of two finite words, its value with it. -/
theorem max_val {l u : Nat} (hl : Fl.Fin l) (hu : Fl.Fin u) : ∃ L, Fl.Fin L ∧ Fl.V L = max (Fl.V l) (Fl.V u) ∧ ∀ w, (Builtin.max_ #[22, 22] 22 #[.float .f64 l, .float .f64 u]).run Try.prog w = .ok (.float .f64 L) w := by
  have h : FloatKind.f64.format.order l u = some (compare (Fl.V l) (Fl.V u)) := Fl.order_fin hl hu
  cases c : compare (Fl.V l) (Fl.V u) with
  | lt => exact ⟨u, hu, by have := Int.compare_eq_lt.1 c; omega, fun w => by rw [c] at h; simp [Builtin.max_, Builtin.max2, h]⟩
  | gt => exact ⟨l, hl, by have := Int.compare_eq_gt.1 c; omega, fun w => by rw [c] at h; simp [Builtin.max_, Builtin.max2, h]⟩
  | eq =>
    have e := Int.compare_eq_eq.1 c
    refine ⟨if (FloatKind.f64.decode l).neg then u else l, ?_, ?_, fun w => by rw [c] at h; simp [Builtin.max_, Builtin.max2, h]⟩
    · split <;> assumption
    · split <;> omega

/-- How many flags are down where the first z are. -/
theorem cnt_ge (f : Nat → Bool) (z : Nat) : ∀ a, (∀ t, t < a → f t = decide (z ≤ t)) → cnt f a = min z a
  | 0, _ => by simp [cnt]
  | a + 1, h => by
    have ih := cnt_ge f z a (fun t ht => h t (by omega))
    unfold cnt
    rw [ih, h a (by omega)]
    by_cases c : z ≤ a
    · simp [c]; omega
    · simp [c]; omega

theorem In.congr {o : Ops} {p n s0 s1 : Int} {l : Nat} {F G : Nat → Value} (h : o.In p n s0 s1 l F) (e : ∀ t, t < 23 → G t = F t) : o.In p n s0 s1 l G where
  c0 := by rw [e 0 (by omega)]; exact h.c0
  c1 := fun k hk => by rw [e _ (by omega)]; exact h.c1 k hk
  c3 := fun k hk => by rw [e _ (by omega)]; exact h.c3 k hk
  c5 := by rw [e _ (by omega)]; exact h.c5
  c6 := fun k hk => by rw [e _ (by omega)]; exact h.c6 k hk
  c9 := fun k hk => by rw [e _ (by omega)]; exact h.c9 k hk
  c18 := by rw [e _ (by omega)]; exact h.c18
  c19 := by rw [e _ (by omega)]; exact h.c19
  c20 := by rw [e _ (by omega)]; exact h.c20

/-- The operations of a close, named over the cells that an elder record names. -/
theorem in_of_is {o o2 : Ops} {p n s0 s1 : Int} {l u : Nat} {F : Nat → Value} (h : o.In p n s0 s1 l F) (g : o2.Is (o.cs 0) (o.cs 1) (o.es 0) (o.es 1) (o.ms 0) (o.ms 1) (o.ms 2) (o.co 0) (o.co 1) (o.co 2) (o.co 3) (o.co 4) (o.co 5) (o.co 6) (o.co 7) (o.co 8) u) : o2.In p n s0 s1 l F where
  c0 := h.c0
  c1 := fun k hk => by rw [h.c1 k hk]; rcases (show k = 0 ∨ k = 1 by omega) with rfl | rfl; (rw [g.hc0]); (rw [g.hc1])
  c3 := fun k hk => by rw [h.c3 k hk]; rcases (show k = 0 ∨ k = 1 by omega) with rfl | rfl; (rw [g.he0]); (rw [g.he1])
  c5 := h.c5
  c6 := fun k hk => by rw [h.c6 k hk]; rcases (show k = 0 ∨ k = 1 ∨ k = 2 by omega) with rfl | rfl | rfl; (rw [g.hm0]); (rw [g.hm1]); (rw [g.hm2])
  c9 := fun k hk => by
    rw [h.c9 k hk]
    rcases (show k = 0 ∨ k = 1 ∨ k = 2 ∨ k = 3 ∨ k = 4 ∨ k = 5 ∨ k = 6 ∨ k = 7 ∨ k = 8 by omega) with rfl | rfl | rfl | rfl | rfl | rfl | rfl | rfl | rfl
    · rw [g.ho0]
    · rw [g.ho1]
    · rw [g.ho2]
    · rw [g.ho3]
    · rw [g.ho4]
    · rw [g.ho5]
    · rw [g.ho6]
    · rw [g.ho7]
    · rw [g.ho8]
  c18 := h.c18
  c19 := h.c19
  c20 := h.c20

/-- The label of round k. -/
def labK (start : Int) (k : Nat) : Int := IntKind.u64.wrap (start + (k : Int))

theorem labK_eq (start : Int) (k : Nat) : labK start k = (start + (k : Int)) % 18446744073709551616 := by
  unfold labK; rw [IntKind.wrap_u64]

/-- At most R labels lie in the open batch ahead of round k. -/
def Open (start : Int) (k R : Nat) : Prop := R ≤ 9999 ∧ (R = 0 ∨ labK start k = 0 ∨ (R : Int) ≤ (labK start k - 1) % 10000)

theorem open_start (start : Int) : Open start 0 0 := ⟨by omega, .inl rfl⟩

theorem open_next {start : Int} {k R : Nat} (h : Open start k R) (hl : labK start k % 10000 ≠ 0) : Open start (k + 1) (R + 1) := by
  have e0 := labK_eq start k
  have e1 := labK_eq start (k + 1)
  obtain ⟨h1, h2⟩ := h
  unfold Open
  have : ((k + 1 : Nat) : Int) = (k : Int) + 1 := by omega
  rw [this] at e1
  obtain ⟨L, hL⟩ : ∃ L, L = labK start k := ⟨_, rfl⟩
  obtain ⟨L', hL'⟩ : ∃ L, L = labK start (k + 1) := ⟨_, rfl⟩
  rw [← hL] at e0 h2 hl
  rw [← hL'] at e1 ⊢
  have hs : L' = L + 1 ∨ L' = 0 := by
    obtain ⟨x, hx⟩ : ∃ x, x = start + (k : Int) := ⟨_, rfl⟩
    rw [show start + ((k : Int) + 1) = x + 1 by omega] at e1
    rw [← hx] at e0
    omega
  have hL0 : 0 ≤ L := by omega
  clear e0 e1 hL hL'
  have hR : (R : Int) ≤ (L - 1) % 10000 := by omega
  refine ⟨by omega, ?_⟩
  rcases hs with rfl | rfl
  · exact .inr (.inr (by omega))
  · exact .inr (.inl rfl)

theorem open_shut (start : Int) (k : Nat) : Open start (k + 1) 0 := ⟨by omega, .inl rfl⟩

end Go.Proofs.Qxb6600900a
