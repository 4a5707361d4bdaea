/-
  PLAIN LAWS OF FLOAT64 (no Go in sight): a finite word stands for a whole number of units of 2^-1074; rounding to nearest keeps to whatever representable bounds the exact result has.
-/
import Ieee.Arith
namespace Go.Proofs.Qxb6600900a.Fl

/-- The rung of a word; its sign. -/
def rung (x : Nat) : Nat := x % 2 ^ 63
def neg (x : Nat) : Bool := x / 2 ^ 63 % 2 == 1

/-- What a rung stands for, in units of 2^-1074. -/
def val (r : Nat) : Nat := if r < 2 ^ 52 then r else (2 ^ 52 + r % 2 ^ 52) * 2 ^ (r / 2 ^ 52 - 1)

/-- What a finite word stands for, in units of 2^-1074. -/
def V (x : Nat) : Int := if neg x then -(val (rung x) : Int) else (val (rung x) : Int)

def Fin (x : Nat) : Prop := rung x < 2047 * 2 ^ 52

theorem val_mk (K L : Nat) (h1 : K ≤ 2 ^ 53) (h2 : 0 < L → 2 ^ 52 ≤ K) : val (L * 2 ^ 52 + K) = K * 2 ^ L := by
  unfold val
  by_cases hL : L = 0
  · subst hL
    by_cases hK : K < 2 ^ 52
    · rw [if_pos (by omega)]; simp
    · rw [if_neg (by omega)]
      by_cases hK2 : K = 2 ^ 53
      · subst hK2; simp
      · have e1 : (0 * 2 ^ 52 + K) / 2 ^ 52 = 1 := by omega
        have e2 : (0 * 2 ^ 52 + K) % 2 ^ 52 = K - 2 ^ 52 := by omega
        rw [e1, e2]; simp; omega
  · have hK := h2 (by omega)
    rw [if_neg (by omega)]
    by_cases hK2 : K = 2 ^ 53
    · subst hK2
      have e1 : (L * 2 ^ 52 + 2 ^ 53) / 2 ^ 52 = L + 2 := by omega
      have e2 : (L * 2 ^ 52 + 2 ^ 53) % 2 ^ 52 = 0 := by omega
      rw [e1, e2]
      have : L + 2 - 1 = L + 1 := by omega
      rw [this, Nat.pow_succ]
      omega
    · have e1 : (L * 2 ^ 52 + K) / 2 ^ 52 = L + 1 := by omega
      have e2 : (L * 2 ^ 52 + K) % 2 ^ 52 = K - 2 ^ 52 := by omega
      rw [e1, e2]
      have : 2 ^ 52 + (K - 2 ^ 52) = K := by omega
      rw [this]; simp

theorem rung_parts (r : Nat) : ∃ K L, K < 2 ^ 53 ∧ (0 < L → 2 ^ 52 ≤ K) ∧ r = L * 2 ^ 52 + K := by
  by_cases h : r < 2 ^ 52
  · exact ⟨r, 0, by omega, by omega, by omega⟩
  · exact ⟨2 ^ 52 + r % 2 ^ 52, r / 2 ^ 52 - 1, by omega, by omega, by omega⟩

theorem val_succ (r : Nat) : val r < val (r + 1) := by
  obtain ⟨K, L, h1, h2, rfl⟩ := rung_parts r
  rw [Nat.add_assoc, val_mk K L (by omega) h2, val_mk (K + 1) L (by omega) (fun h => by have := h2 h; omega), Nat.add_mul]
  have : 0 < 2 ^ L := Nat.two_pow_pos L
  omega

theorem val_lt {r s : Nat} (h : r < s) : val r < val s := by
  induction s with
  | zero => omega
  | succ s ih =>
    by_cases e : r = s
    · subst e; exact val_succ r
    · exact Nat.lt_trans (ih (by omega)) (val_succ s)

theorem val_le_iff {r s : Nat} : val r ≤ val s ↔ r ≤ s := by
  constructor
  · intro h
    by_cases c : r ≤ s
    · exact c
    · have := val_lt (show s < r by omega); omega
  · intro h
    by_cases e : r = s
    · subst e; exact Nat.le_refl _
    · exact Nat.le_of_lt (val_lt (by omega))

/-- Rounding half to even keeps between whole numbers. -/
theorem cut_spec (ng : Bool) (n drop k : Nat) : (n ≤ k * 2 ^ drop → Ieee.Toward.even.cut ng n drop ≤ k) ∧ (k * 2 ^ drop ≤ n → k ≤ Ieee.Toward.even.cut ng n drop) := by
  unfold Ieee.Toward.cut
  simp only [Nat.shiftLeft_eq, Nat.one_mul]
  have hlog : n < 2 ^ (n.log2 + 1) := Nat.lt_log2_self
  generalize hg : 2 ^ min drop (n.log2 + 2) = G
  have hG : 0 < G := by rw [← hg]; exact Nat.two_pow_pos _
  have hdm := Nat.div_add_mod n G
  have hml := Nat.mod_lt n hG
  generalize n / G = q at *
  generalize n % G = r at *
  by_cases hc : drop ≤ n.log2 + 2
  · have hgd : 2 ^ drop = G := by rw [← hg, Nat.min_eq_left hc]
    rw [hgd]
    constructor
    · intro h
      by_cases hq : q + 1 ≤ k
      · have : (decide (G < 2 * r) || G == 2 * r && q % 2 == 1).toNat ≤ 1 := Bool.toNat_le _
        omega
      · have hqk : k ≤ q := by omega
        have h1 : k * G ≤ q * G := Nat.mul_le_mul_right G hqk
        have h2 : G * q = q * G := Nat.mul_comm _ _
        have hr : r = 0 := by omega
        have hq' : q ≤ k := by
          by_cases c : q ≤ k
          · exact c
          · have : (k + 1) * G ≤ q * G := Nat.mul_le_mul_right G (by omega)
            rw [Nat.add_mul] at this
            omega
        subst hr
        have e1 : decide (G < 2 * 0) = false := by simp
        have e2 : (G == 2 * 0) = false := by rw [beq_eq_false_iff_ne]; omega
        rw [e1, e2]; simpa using hq'
    · intro h
      have : k ≤ q := by
        by_cases c : k ≤ q
        · exact c
        · have : (q + 1) * G ≤ k * G := Nat.mul_le_mul_right G (by omega)
          have h2 : G * q = q * G := Nat.mul_comm _ _
          rw [Nat.add_mul] at this
          omega
      omega
  · have hgd : G = 2 ^ (n.log2 + 2) := by rw [← hg, Nat.min_eq_right (by omega)]
    have hpow : 2 ^ (n.log2 + 2) = 2 * 2 ^ (n.log2 + 1) := by rw [show n.log2 + 2 = (n.log2 + 1) + 1 by omega, Nat.pow_succ, Nat.mul_comm]
    have hlt : 2 * n < G := by omega
    have hq0 : q = 0 := by
      by_cases c : q = 0
      · exact c
      · have : G * 1 ≤ G * q := Nat.mul_le_mul_left G (by omega)
        omega
    subst hq0
    have hr : r = n := by omega
    subst hr
    have e1 : decide (G < 2 * r) = false := by simp; omega
    have e2 : (G == 2 * r) = false := by rw [beq_eq_false_iff_ne]; omega
    rw [e1, e2]
    have hd : 2 ^ (r.log2 + 2) ≤ 2 ^ drop := Nat.pow_le_pow_right (by omega) (by omega)
    constructor
    · intro _; simp
    · intro h
      by_cases c : k = 0
      · omega
      · have : 1 * 2 ^ drop ≤ k * 2 ^ drop := Nat.mul_le_mul_right _ (by omega)
        omega

/-- ROUNDING TO NEAREST: the exact number mag * 2^P / 2^LP (in units) lies below a rung's: so does the rounded one; above: above. -/
theorem near (ng : Bool) (mag : Nat) (place : Int) (P LP : Nat) (hm : mag ≠ 0) (hp : (P : Int) - (LP : Int) = place + 1074) :
    ∃ r0, Ieee.double.nearest ng mag place = Ieee.double.word ng (min r0 (2047 * 2 ^ 52)) ∧ (∀ s, mag * 2 ^ P ≤ val s * 2 ^ LP → r0 ≤ s) ∧ (∀ s, val s * 2 ^ LP ≤ mag * 2 ^ P → s ≤ r0) := by
  have hlo : 2 ^ mag.log2 ≤ mag := Nat.log2_self_le hm
  have hhi : mag < 2 ^ (mag.log2 + 1) := Nat.lt_log2_self
  generalize hlg : mag.log2 = lg at *
  have hle : Ieee.double.leastPlace = -1074 := by decide
  have hfb : Ieee.double.fractionBits = 52 := rfl
  have hbin : Ieee.double.binade = 2 ^ 52 := rfl
  have hinf : Ieee.double.infRung = 2047 * 2 ^ 52 := by decide
  unfold Ieee.Format.nearest
  rw [if_neg hm]
  dsimp only
  rw [hle, hfb, hbin, hinf, hlg]
  obtain ⟨L, hL⟩ : ∃ L : Nat, L = P + lg - (LP + 52) := ⟨_, rfl⟩
  have hlast : max (place + (lg : Int) - ((52 : Nat) : Int)) (-1074) = (L : Int) - 1074 := by omega
  rw [hlast]
  have e1 : ((L : Int) - 1074 - -1074).toNat = L := by omega
  have e2 : (place - ((L : Int) - 1074)).toNat = P - (LP + L) := by omega
  have e3 : ((L : Int) - 1074 - place).toNat = (LP + L) - P := by omega
  rw [e1, e2, e3, Nat.shiftLeft_eq]
  refine ⟨_, rfl, ?_⟩
  -- the kept digits, between whole numbers of the last place
  have hcut : ∀ k, (mag * 2 ^ P ≤ k * 2 ^ (LP + L) → Ieee.Toward.even.cut ng (mag * 2 ^ (P - (LP + L))) (LP + L - P) ≤ k) ∧ (k * 2 ^ (LP + L) ≤ mag * 2 ^ P → k ≤ Ieee.Toward.even.cut ng (mag * 2 ^ (P - (LP + L))) (LP + L - P)) := by
    intro k
    have h := cut_spec ng (mag * 2 ^ (P - (LP + L))) (LP + L - P) k
    have hpos : 0 < 2 ^ (min P (LP + L)) := Nat.two_pow_pos _
    have f1 : mag * 2 ^ P = mag * 2 ^ (P - (LP + L)) * 2 ^ (min P (LP + L)) := by
      rw [Nat.mul_assoc, ← Nat.pow_add]; congr 2; omega
    have f2 : k * 2 ^ (LP + L) = k * 2 ^ (LP + L - P) * 2 ^ (min P (LP + L)) := by
      rw [Nat.mul_assoc, ← Nat.pow_add]; congr 2; omega
    rw [f1, f2]
    exact ⟨fun c => h.1 (Nat.le_of_mul_le_mul_right c hpos), fun c => h.2 (Nat.le_of_mul_le_mul_right c hpos)⟩
  generalize Ieee.Toward.even.cut ng (mag * 2 ^ (P - (LP + L))) (LP + L - P) = kept at *
  have hup : mag * 2 ^ P ≤ 2 ^ 53 * 2 ^ (LP + L) := by
    have a1 : mag * 2 ^ P ≤ 2 ^ (lg + 1) * 2 ^ P := Nat.mul_le_mul_right _ (by omega)
    have a2 : 2 ^ (lg + 1) * 2 ^ P = 2 ^ (lg + 1 + P) := by rw [← Nat.pow_add]
    have a3 : 2 ^ 53 * 2 ^ (LP + L) = 2 ^ (53 + (LP + L)) := by rw [← Nat.pow_add]
    have a4 : 2 ^ (lg + 1 + P) ≤ 2 ^ (53 + (LP + L)) := Nat.pow_le_pow_right (by omega) (by omega)
    omega
  have hk53 : kept ≤ 2 ^ 53 := (hcut _).1 hup
  have hdn : 0 < L → 2 ^ 52 * 2 ^ (LP + L) ≤ mag * 2 ^ P := by
    intro h
    have a1 : 2 ^ lg * 2 ^ P ≤ mag * 2 ^ P := Nat.mul_le_mul_right _ hlo
    have a2 : 2 ^ lg * 2 ^ P = 2 ^ (lg + P) := by rw [← Nat.pow_add]
    have a3 : 2 ^ 52 * 2 ^ (LP + L) = 2 ^ (52 + (LP + L)) := by rw [← Nat.pow_add]
    have a4 : lg + P = 52 + (LP + L) := by omega
    rw [a4] at a2
    omega
  have hk52 : 0 < L → 2 ^ 52 ≤ kept := fun h => (hcut _).2 (hdn h)
  have hval : val (L * 2 ^ 52 + kept) = kept * 2 ^ L := val_mk kept L hk53 hk52
  constructor
  · intro s hs
    obtain ⟨K, M, hK1, hK2, rfl⟩ := rung_parts s
    rw [val_mk K M (by omega) hK2] at hs
    rw [← val_le_iff, hval, val_mk K M (by omega) hK2]
    by_cases c : L ≤ M
    · have g1 : K * 2 ^ M * 2 ^ LP = K * 2 ^ (M - L) * 2 ^ (LP + L) := by
        rw [Nat.mul_assoc, Nat.mul_assoc, ← Nat.pow_add, ← Nat.pow_add]; congr 2; omega
      rw [g1] at hs
      have g2 := (hcut _).1 hs
      have g3 : K * 2 ^ M = K * 2 ^ (M - L) * 2 ^ L := by rw [Nat.mul_assoc, ← Nat.pow_add]; congr 2; omega
      rw [g3]
      exact Nat.mul_le_mul_right _ g2
    · exfalso
      have b1 := hdn (by omega)
      have b2 : K * 2 ^ M * 2 ^ LP < 2 ^ 53 * 2 ^ M * 2 ^ LP := Nat.mul_lt_mul_of_pos_right (Nat.mul_lt_mul_of_pos_right hK1 (Nat.two_pow_pos _)) (Nat.two_pow_pos _)
      have b3 : 2 ^ 53 * 2 ^ M * 2 ^ LP = 2 ^ (53 + M + LP) := by rw [← Nat.pow_add, ← Nat.pow_add]
      have b4 : 2 ^ 52 * 2 ^ (LP + L) = 2 ^ (52 + (LP + L)) := by rw [← Nat.pow_add]
      have b5 : 2 ^ (53 + M + LP) ≤ 2 ^ (52 + (LP + L)) := Nat.pow_le_pow_right (by omega) (by omega)
      omega
  · intro s hs
    obtain ⟨K, M, hK1, hK2, rfl⟩ := rung_parts s
    rw [val_mk K M (by omega) hK2] at hs
    rw [← val_le_iff, hval, val_mk K M (by omega) hK2]
    by_cases c : L ≤ M
    · have g1 : K * 2 ^ M * 2 ^ LP = K * 2 ^ (M - L) * 2 ^ (LP + L) := by
        rw [Nat.mul_assoc, Nat.mul_assoc, ← Nat.pow_add, ← Nat.pow_add]; congr 2; omega
      rw [g1] at hs
      have g2 := (hcut _).2 hs
      have g3 : K * 2 ^ M = K * 2 ^ (M - L) * 2 ^ L := by rw [Nat.mul_assoc, ← Nat.pow_add]; congr 2; omega
      rw [g3]
      exact Nat.mul_le_mul_right _ g2
    · have b1 := hk52 (by omega)
      have b2 : 2 ^ 52 * 2 ^ L ≤ kept * 2 ^ L := Nat.mul_le_mul_right _ b1
      have b3 : K * 2 ^ M ≤ 2 ^ 53 * 2 ^ M := Nat.mul_le_mul_right _ (by omega)
      have b4 : 2 ^ 53 * 2 ^ M = 2 ^ (53 + M) := by rw [← Nat.pow_add]
      have b5 : 2 ^ 52 * 2 ^ L = 2 ^ (52 + L) := by rw [← Nat.pow_add]
      have b6 : 2 ^ (53 + M) ≤ 2 ^ (52 + L) := Nat.pow_le_pow_right (by omega) (by omega)
      omega

end Go.Proofs.Qxb6600900a.Fl
