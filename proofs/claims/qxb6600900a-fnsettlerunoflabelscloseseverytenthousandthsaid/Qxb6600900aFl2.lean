/-
  PLAIN LAWS OF FLOAT64, MORE (no Go in sight): what the operations give on finite words, by bounds.
-/
import Derived.Test.Qxb6600900aFl
namespace Go.Proofs.Qxb6600900a.Fl
open Ieee
set_option exponentiation.threshold 3000
set_option linter.unusedSimpArgs false

def INF : Nat := 2047 * 2 ^ 52

theorem word_parts (ng : Bool) (r : Nat) (h : r ≤ 2047 * 2 ^ 52) : rung (double.word ng r) = r ∧ neg (double.word ng r) = ng ∧ double.word ng r < 2 ^ 64 := by
  have hs : double.signWeight = 2 ^ 63 := rfl
  unfold rung neg Format.word
  rw [hs]
  cases ng
  · rw [if_neg (by simp)]
    refine ⟨by omega, ?_, by omega⟩
    rw [beq_eq_false_iff_ne]; omega
  · rw [if_pos rfl]
    refine ⟨by omega, ?_, by omega⟩
    rw [beq_iff_eq]; omega

theorem read_fin {x : Nat} (h : Fin x) : ∃ m p : Nat, double.read x = .number (neg x) m ((p : Int) - 1074) ∧ m * 2 ^ p = val (rung x) := by
  have hs : double.signWeight = 2 ^ 63 := rfl
  have hb : double.binade = 2 ^ 52 := rfl
  have hi : double.infRung = 2047 * 2 ^ 52 := by decide
  have hl : double.leastPlace = -1074 := by decide
  unfold Fin at h
  unfold Format.read
  simp only [hs, hb, hi, hl]
  change ∃ m p : Nat, (if rung x < 2 ^ 52 then Datum.number (neg x) (rung x) (-1074) else if rung x < 2047 * 2 ^ 52 then Datum.number (neg x) (2 ^ 52 + rung x % 2 ^ 52) (-1074 + ((rung x / 2 ^ 52 - 1 : Nat) : Int)) else if rung x = 2047 * 2 ^ 52 then Datum.infinity (neg x) else Datum.nan (neg x) (rung x - 2047 * 2 ^ 52)) = _ ∧ _
  by_cases c : rung x < 2 ^ 52
  · refine ⟨rung x, 0, ?_, ?_⟩
    · rw [if_pos c]; rfl
    · unfold val; rw [if_pos c]; simp
  · refine ⟨2 ^ 52 + rung x % 2 ^ 52, rung x / 2 ^ 52 - 1, ?_, ?_⟩
    · rw [if_neg c, if_pos h]; congr 1
    · unfold val; rw [if_neg c]

theorem read_inf : double.read INF = .infinity false := by decide

theorem signed_eq (ng : Bool) (m u : Nat) : signed ng m u = if ng then -((m * 2 ^ u : Nat) : Int) else ((m * 2 ^ u : Nat) : Int) := by
  unfold signed; rw [Nat.shiftLeft_eq]

/-- The exact number N / D (in units), rounded. -/
def RndQ (N : Int) (D : Nat) (r : Nat) : Prop :=
  ∃ ng r0, r = double.word ng (min r0 (2047 * 2 ^ 52)) ∧ (N < 0 → ng = true) ∧ (0 < N → ng = false) ∧ (∀ s, N.natAbs ≤ val s * D → r0 ≤ s) ∧ (∀ s, val s * D ≤ N.natAbs → s ≤ r0)

theorem RndQ.lt {N : Int} {D r : Nat} (h : RndQ N D r) : r < 2 ^ 64 := by
  obtain ⟨ng, r0, rfl, _⟩ := h
  exact (word_parts ng _ (by omega)).2.2

def Rep (A : Int) : Prop := ∃ s, s < 2047 * 2 ^ 52 ∧ (A = val s ∨ A = -(val s : Int))

theorem rep_V {x : Nat} (h : Fin x) : Rep (V x) := ⟨rung x, h, by unfold V; cases neg x <;> simp⟩

theorem Rep.neg {A : Int} (h : Rep A) : Rep (-A) := by
  obtain ⟨s, hs, h | h⟩ := h
  · exact ⟨s, hs, .inr (by omega)⟩
  · exact ⟨s, hs, .inl (by omega)⟩

theorem val_zero : val 0 = 0 := by decide

theorem rep_zero : Rep 0 := ⟨0, by omega, .inl (by rw [val_zero]; rfl)⟩

theorem V_word (ng : Bool) (r : Nat) (h : r < 2047 * 2 ^ 52) : Fin (double.word ng r) ∧ V (double.word ng r) = if ng then -(val r : Int) else (val r : Int) := by
  obtain ⟨h1, h2, _⟩ := word_parts ng r (by omega)
  unfold Fin V
  rw [h1, h2]
  exact ⟨h, rfl⟩

/-- THE SANDWICH. -/
theorem RndQ.between {N : Int} {D r : Nat} (h : RndQ N D r) (hD : 0 < D) {A B : Int} (hA : Rep A) (hB : Rep B) (h1 : A * D ≤ N) (h2 : N ≤ B * D) : Fin r ∧ A ≤ V r ∧ V r ≤ B := by
  obtain ⟨ng, r0, rfl, hn, hp, hu, hd⟩ := h
  have hDi : (0 : Int) < (D : Int) := by omega
  -- a bound of 0 on one side
  have sgnB : 0 < N → 0 < B := by
    intro h
    by_cases c : 0 < B
    · exact c
    · have : B * (D : Int) ≤ 0 := Int.mul_nonpos_of_nonpos_of_nonneg (by omega) (by omega)
      omega
  have sgnA : N < 0 → A < 0 := by
    intro h
    by_cases c : A < 0
    · exact c
    · have : 0 ≤ A * (D : Int) := Int.mul_nonneg (by omega) (by omega)
      omega
  rcases Int.lt_trichotomy N 0 with hN | hN | hN
  · have hAneg := sgnA hN
    obtain ⟨s, hs, hs' | hs'⟩ := hA
    · omega
    · have hle : N.natAbs ≤ val s * D := by
        have : ((val s * D : Nat) : Int) = (val s : Int) * (D : Int) := by push_cast; rfl
        have h3 : A * (D : Int) = -((val s : Int) * (D : Int)) := by rw [hs', Int.neg_mul]
        omega
      have h0 := hu s hle
      have hmin : min r0 (2047 * 2 ^ 52) = r0 := by omega
      rw [hmin, hn hN]
      obtain ⟨f, v⟩ := V_word true r0 (by omega)
      refine ⟨f, ?_, ?_⟩
      · rw [v]; simp only [if_true]; have := val_le_iff.2 h0; omega
      · rw [v]; simp only [if_true]
        obtain ⟨t, ht, ht' | ht'⟩ := hB
        · omega
        · have hle2 : val t * D ≤ N.natAbs := by
            have : ((val t * D : Nat) : Int) = (val t : Int) * (D : Int) := by push_cast; rfl
            have h3 : B * (D : Int) = -((val t : Int) * (D : Int)) := by rw [ht', Int.neg_mul]
            omega
          have := val_le_iff.2 (hd t hle2)
          omega
  · subst hN
    have h0 := hu 0 (by simp)
    have : r0 = 0 := by omega
    subst this
    have hA0 : A ≤ 0 := by
      by_cases c : A ≤ 0
      · exact c
      · have : 0 < A * (D : Int) := Int.mul_pos (by omega) hDi
        omega
    have hB0 : 0 ≤ B := by
      by_cases c : 0 ≤ B
      · exact c
      · have : B * (D : Int) < 0 := Int.mul_neg_of_neg_of_pos (by omega) hDi
        omega
    obtain ⟨f, v⟩ := V_word ng 0 (by omega)
    rw [val_zero] at v
    have hmin : min 0 (2047 * 2 ^ 52) = 0 := by omega
    rw [hmin]
    refine ⟨f, ?_, ?_⟩ <;> rw [v] <;> cases ng <;> simp <;> omega
  · have hBpos := sgnB hN
    obtain ⟨s, hs, hs' | hs'⟩ := hB
    · have hle : N.natAbs ≤ val s * D := by
        have : ((val s * D : Nat) : Int) = (val s : Int) * (D : Int) := by push_cast; rfl
        rw [hs'] at h2
        omega
      have h0 := hu s hle
      have hmin : min r0 (2047 * 2 ^ 52) = r0 := by omega
      rw [hmin, hp hN]
      obtain ⟨f, v⟩ := V_word false r0 (by omega)
      refine ⟨f, ?_, ?_⟩
      · rw [v]; simp only [Bool.false_eq_true, if_false]
        obtain ⟨t, ht, ht' | ht'⟩ := hA
        · have hle2 : val t * D ≤ N.natAbs := by
            have : ((val t * D : Nat) : Int) = (val t : Int) * (D : Int) := by push_cast; rfl
            rw [ht'] at h1
            omega
          have := val_le_iff.2 (hd t hle2)
          omega
        · omega
      · rw [v]; simp only [Bool.false_eq_true, if_false]; have := val_le_iff.2 h0; omega
    · omega

/-- Not a number below zero: a finite word that is none, or the positive infinity. -/
def NN (r : Nat) : Prop := (Fin r ∧ 0 ≤ V r) ∨ r = INF

theorem RndQ.nn {N : Int} {D r : Nat} (h : RndQ N D r) (h0 : 0 ≤ N) : NN r := by
  obtain ⟨ng, r0, rfl, hn, hp, hu, hd⟩ := h
  by_cases c : N = 0
  · subst c
    have h0 := hu 0 (by simp)
    have : r0 = 0 := by omega
    subst this
    obtain ⟨f, v⟩ := V_word ng 0 (by omega)
    rw [val_zero] at v
    have hmin : min 0 (2047 * 2 ^ 52) = 0 := by omega
    rw [hmin]
    refine .inl ⟨f, ?_⟩
    rw [v]; cases ng <;> simp
  · rw [hp (by omega)]
    by_cases e : r0 < 2047 * 2 ^ 52
    · have hmin : min r0 (2047 * 2 ^ 52) = r0 := by omega
      rw [hmin]
      obtain ⟨f, v⟩ := V_word false r0 e
      exact .inl ⟨f, by rw [v]; simp⟩
    · have hmin : min r0 (2047 * 2 ^ 52) = 2047 * 2 ^ 52 := by omega
      rw [hmin]
      exact .inr rfl

theorem near_rnd (ng : Bool) (mag : Nat) (place : Int) (P LP D : Nat) (N : Int) (hp : (P : Int) - (LP : Int) = place + 1074)
    (hn : N < 0 → ng = true) (hpp : 0 < N → ng = false) (h0 : mag = 0 → N = 0)
    (h1 : ∀ s, N.natAbs ≤ val s * D → mag * 2 ^ P ≤ val s * 2 ^ LP) (h2 : ∀ s, val s * D ≤ N.natAbs → val s * 2 ^ LP ≤ mag * 2 ^ P) (hD : 0 < D) : RndQ N D (double.nearest ng mag place) := by
  by_cases hm : mag = 0
  · have := h0 hm
    subst this hm
    refine ⟨ng, 0, ?_, hn, hpp, fun _ _ => Nat.zero_le _, ?_⟩
    · unfold Format.nearest; rw [if_pos rfl]; rfl
    · intro s hs
      have hs0 : val s * D = 0 := by simpa using hs
      have : val s ≤ val 0 := by
        rw [val_zero]
        rcases Nat.mul_eq_zero.1 hs0 with h | h <;> omega
      exact val_le_iff.1 this
  · obtain ⟨r0, e, u, d⟩ := near ng mag place P LP hm hp
    exact ⟨ng, r0, e, hn, hpp, fun s hs => u s (h1 s hs), fun s hs => d s (h2 s hs)⟩

theorem V_read {x m p : Nat} (h : m * 2 ^ p = val (rung x)) : V x = if neg x then -((m * 2 ^ p : Nat) : Int) else ((m * 2 ^ p : Nat) : Int) := by
  unfold V; rw [h]

theorem signed_scale (ng : Bool) (m p b : Nat) (h : b ≤ p) : (if ng then -((m * 2 ^ p : Nat) : Int) else ((m * 2 ^ p : Nat) : Int)) = signed ng m (p - b) * (2 ^ b : Nat) := by
  rw [signed_eq]
  have e : m * 2 ^ p = m * 2 ^ (p - b) * 2 ^ b := by rw [Nat.mul_assoc, ← Nat.pow_add]; congr 2; omega
  rw [e]
  cases ng
  · simp only [Bool.false_eq_true, if_false]; push_cast; rfl
  · simp only [if_true]; push_cast; rw [Int.neg_mul]

/-- The exact sum of two finite numbers, rounded. -/
theorem sum_rnd (s t : Bool) (m n p q : Nat) (X Y : Int) (hX : X = if s then -((m * 2 ^ p : Nat) : Int) else ((m * 2 ^ p : Nat) : Int)) (hY : Y = if t then -((n * 2 ^ q : Nat) : Int) else ((n * 2 ^ q : Nat) : Int)) :
    ∃ r, ((Datum.number s m ((p : Int) - 1074)).sum (Datum.number t n ((q : Int) - 1074))).map double.write = some r ∧ RndQ (X + Y) 1 r := by
  refine ⟨_, rfl, ?_⟩
  simp only [Format.write]
  obtain ⟨b, hb⟩ : ∃ b : Nat, b = min p q := ⟨_, rfl⟩
  have e0 : min ((p : Int) - 1074) ((q : Int) - 1074) = (b : Int) - 1074 := by omega
  have e1 : (((p : Int) - 1074) - ((b : Int) - 1074)).toNat = p - b := by omega
  have e2 : (((q : Int) - 1074) - ((b : Int) - 1074)).toNat = q - b := by omega
  rw [e0, e1, e2]
  rw [signed_scale s m p b (by omega)] at hX
  rw [signed_scale t n q b (by omega)] at hY
  generalize signed s m (p - b) = x at *
  generalize signed t n (q - b) = y at *
  have hT : X + Y = (x + y) * (2 ^ b : Nat) := by rw [hX, hY, Int.add_mul]
  have hpos : (0 : Int) < ((2 ^ b : Nat) : Int) := by have := Nat.two_pow_pos b; omega
  rw [hT]
  have hsgn : ((x + y) * ((2 ^ b : Nat) : Int) < 0 ↔ x + y < 0) ∧ (0 < (x + y) * ((2 ^ b : Nat) : Int) ↔ 0 < x + y) := by
    constructor
    · constructor
      · intro h
        by_cases c : x + y < 0
        · exact c
        · have := Int.mul_nonneg (show 0 ≤ x + y by omega) (Int.le_of_lt hpos); omega
      · intro h; exact Int.mul_neg_of_neg_of_pos h hpos
    · constructor
      · intro h
        by_cases c : 0 < x + y
        · exact c
        · have := Int.mul_nonpos_of_nonpos_of_nonneg (show x + y ≤ 0 by omega) (Int.le_of_lt hpos); omega
      · intro h; exact Int.mul_pos h hpos
  have hna : ((x + y) * ((2 ^ b : Nat) : Int)).natAbs = (x + y).natAbs * 2 ^ b := by rw [Int.natAbs_mul]; rfl
  refine near_rnd _ _ _ b 0 1 _ (by omega) ?_ ?_ ?_ ?_ ?_ (by omega)
  · intro h
    have := hsgn.1.1 h
    rw [if_neg (by omega)]; simpa using this
  · intro h
    have := hsgn.2.1 h
    rw [if_neg (by omega)]; simp; omega
  · intro h
    have : x + y = 0 := by omega
    rw [this]; simp
  · intro s hs; rw [hna] at hs; simpa using hs
  · intro s hs; rw [hna] at hs; simpa using hs

theorem add_fin {x y : Nat} (hx : Fin x) (hy : Fin y) : ∃ r, double.add x y = some r ∧ RndQ (V x + V y) 1 r := by
  obtain ⟨m, p, e1, v1⟩ := read_fin hx
  obtain ⟨n, q, e2, v2⟩ := read_fin hy
  unfold Format.add
  rw [e1, e2]
  exact sum_rnd (neg x) (neg y) m n p q (V x) (V y) (V_read v1) (V_read v2)

theorem sub_fin {x y : Nat} (hx : Fin x) (hy : Fin y) : ∃ r, double.sub x y = some r ∧ RndQ (V x - V y) 1 r := by
  obtain ⟨m, p, e1, v1⟩ := read_fin hx
  obtain ⟨n, q, e2, v2⟩ := read_fin hy
  unfold Format.sub
  rw [e1, e2]
  simp only [Datum.opposite]
  have := sum_rnd (neg x) (!neg y) m n p q (V x) (-V y) (V_read v1) (by rw [V_read v2]; cases neg y <;> simp)
  rw [Int.sub_eq_add_neg]
  exact this

theorem mul_fin {x y : Nat} (hx : Fin x) (hy : Fin y) : ∃ r, double.mul x y = some r ∧ r < 2 ^ 64 ∧ (0 ≤ V x * V y → NN r) ∧ (V x * V y = 0 → Fin r ∧ V r = 0) := by
  obtain ⟨m, p, e1, v1⟩ := read_fin hx
  obtain ⟨n, q, e2, v2⟩ := read_fin hy
  unfold Format.mul
  rw [e1, e2]
  refine ⟨_, rfl, ?_⟩
  simp only [Format.write]
  have hV : V x * V y = if (neg x ^^ neg y) then -((m * n * 2 ^ (p + q) : Nat) : Int) else ((m * n * 2 ^ (p + q) : Nat) : Int) := by
    have e : ((m * n * 2 ^ (p + q) : Nat) : Int) = ((m * 2 ^ p : Nat) : Int) * ((n * 2 ^ q : Nat) : Int) := by
      rw [Nat.pow_add]; push_cast
      rw [Int.mul_assoc, Int.mul_assoc, ← Int.mul_assoc (n : Int), Int.mul_comm (n : Int), Int.mul_assoc]
    rw [V_read v1, V_read v2, e]
    generalize ((m * 2 ^ p : Nat) : Int) = a
    generalize ((n * 2 ^ q : Nat) : Int) = b
    cases neg x <;> cases neg y <;> simp [Int.mul_neg, Int.neg_mul]
  have hplace : ((p : Int) - 1074) + ((q : Int) - 1074) = ((p + q : Nat) : Int) - 2148 := by omega
  rw [hplace]
  have hr : RndQ (V x * V y) (2 ^ 1074) (double.nearest (neg x ^^ neg y) (m * n) (((p + q : Nat) : Int) - 2148)) := by
    have hna : (V x * V y).natAbs = m * n * 2 ^ (p + q) := by
      rw [hV]; generalize m * n * 2 ^ (p + q) = z; cases (neg x ^^ neg y) <;> simp
    refine near_rnd _ _ _ (p + q) 1074 (2 ^ 1074) _ (by omega) ?_ ?_ ?_ ?_ ?_ (Nat.two_pow_pos _)
    · intro h
      rw [hV] at h
      generalize m * n * 2 ^ (p + q) = z at h
      cases c : (neg x ^^ neg y)
      · rw [c] at h; simp at h; omega
      · rfl
    · intro h
      rw [hV] at h
      generalize m * n * 2 ^ (p + q) = z at h
      cases c : (neg x ^^ neg y)
      · rfl
      · rw [c] at h; simp at h; omega
    · intro h
      rw [hV, h]; simp
    · intro s hs; rw [hna] at hs; exact hs
    · intro s hs; rw [hna] at hs; exact hs
  refine ⟨hr.lt, hr.nn, fun h0 => ?_⟩
  rw [h0] at hr
  have := hr.between (Nat.two_pow_pos _) rep_zero rep_zero (by simp) (by simp)
  exact ⟨this.1, by omega⟩

theorem sticky (dv n k : Nat) (hn : 0 < n) : (dv ≤ k * n → 2 * (dv / n) + (dv % n != 0).toNat ≤ 2 * k) ∧ (k * n ≤ dv → 2 * k ≤ 2 * (dv / n) + (dv % n != 0).toNat) := by
  have hdm := Nat.div_add_mod dv n
  have hml := Nat.mod_lt dv hn
  generalize dv / n = q at *
  generalize dv % n = r at *
  have hc : n * q = q * n := Nat.mul_comm _ _
  constructor
  · intro h
    by_cases hr : r = 0
    · subst hr
      have : q ≤ k := Nat.le_of_mul_le_mul_right (show q * n ≤ k * n by omega) hn
      simp; omega
    · have : q < k := by
        by_cases c : q < k
        · exact c
        · have := Nat.mul_le_mul_right n (show k ≤ q by omega); omega
      have : (r != 0).toNat ≤ 1 := Bool.toNat_le _
      omega
  · intro h
    have : k ≤ q := by
      by_cases c : k ≤ q
      · exact c
      · have h2 := Nat.mul_le_mul_right n (show q + 1 ≤ k by omega)
        rw [Nat.add_mul] at h2; omega
    omega

theorem div_fin {x y : Nat} (hx : Fin x) (hy : Fin y) (h0 : 0 < V y) : ∃ r, double.div x y = some r ∧ RndQ (V x * (2 ^ 1074 : Nat)) (V y).toNat r := by
  obtain ⟨m, p, e1, v1⟩ := read_fin hx
  obtain ⟨n, q, e2, v2⟩ := read_fin hy
  have hny : neg y = false := by
    rw [V_read v2] at h0
    cases c : neg y
    · rfl
    · rw [c] at h0; simp only [if_true] at h0; omega
  have hvy : (V y).toNat = n * 2 ^ q := by rw [V_read v2, hny]; simp only [Bool.false_eq_true, if_false]; exact Int.toNat_natCast _
  have hn0 : n ≠ 0 := by
    intro c
    rw [c] at hvy; simp at hvy; omega
  unfold Format.div
  rw [e1, e2, hny, hvy]
  simp only [Datum.quotient, if_neg hn0]
  refine ⟨_, rfl, ?_⟩
  simp only [Format.write]
  have hfb : double.fractionBits + 2 = 54 := rfl
  rw [hfb, Nat.shiftLeft_eq]
  generalize hmore : 54 + n.log2 - m.log2 = more
  have hdig : m ≠ 0 → 2 ^ 53 * n ≤ m * 2 ^ more := by
    intro hm
    have a1 : 2 ^ m.log2 ≤ m := Nat.log2_self_le hm
    have a2 : n < 2 ^ (n.log2 + 1) := Nat.lt_log2_self
    have a3 : 2 ^ m.log2 * 2 ^ more ≤ m * 2 ^ more := Nat.mul_le_mul_right _ a1
    have a4 : 2 ^ m.log2 * 2 ^ more = 2 ^ (m.log2 + more) := by rw [← Nat.pow_add]
    have a5 : 2 ^ 53 * n ≤ 2 ^ 53 * 2 ^ (n.log2 + 1) := Nat.mul_le_mul_left _ (by omega)
    have a6 : 2 ^ 53 * 2 ^ (n.log2 + 1) = 2 ^ (53 + (n.log2 + 1)) := by rw [← Nat.pow_add]
    have a7 : 2 ^ (53 + (n.log2 + 1)) ≤ 2 ^ (m.log2 + more) := Nat.pow_le_pow_right (by omega) (by omega)
    omega
  have hplace : ((p : Int) - 1074) - ((q : Int) - 1074) - (more : Int) - 1 = ((p + 1074 : Nat) : Int) - ((q + more + 1 : Nat) : Int) - 1074 := by omega
  rw [hplace]
  have hN : V x * ((2 ^ 1074 : Nat) : Int) = if neg x then -((m * 2 ^ (p + 1074) : Nat) : Int) else ((m * 2 ^ (p + 1074) : Nat) : Int) := by
    have e : ((m * 2 ^ (p + 1074) : Nat) : Int) = ((m * 2 ^ p : Nat) : Int) * ((2 ^ 1074 : Nat) : Int) := by
      rw [Nat.pow_add, ← Nat.mul_assoc]; exact Int.natCast_mul _ _
    rw [V_read v1, e]
    generalize ((2 ^ 1074 : Nat) : Int) = z
    cases neg x
    · simp only [Bool.false_eq_true, if_false]
    · simp only [if_true]; rw [Int.neg_mul]
  have hna : (V x * ((2 ^ 1074 : Nat) : Int)).natAbs = m * 2 ^ (p + 1074) := by
    rw [hN]; generalize m * 2 ^ (p + 1074) = z; cases neg x <;> simp
  have hx0 : (neg x ^^ false) = neg x := by cases neg x <;> rfl
  rw [hx0]
  refine near_rnd _ _ _ (p + 1074) (q + more + 1) (n * 2 ^ q) _ (by omega) ?_ ?_ ?_ ?_ ?_ (Nat.mul_pos (by omega) (Nat.two_pow_pos _))
  · intro h
    rw [hN] at h
    generalize m * 2 ^ (p + 1074) = z at h
    cases c : neg x
    · rw [c] at h; simp at h; omega
    · rfl
  · intro h
    rw [hN] at h
    generalize m * 2 ^ (p + 1074) = z at h
    cases c : neg x
    · rfl
    · rw [c] at h; simp at h; omega
  · intro h
    have hm : m = 0 := by
      by_cases c : m = 0
      · exact c
      · have d1 := hdig c
        have d2 : n ≤ m * 2 ^ more := by
          have : 1 * n ≤ 2 ^ 53 * n := Nat.mul_le_mul_right _ (by omega)
          omega
        have d3 : 1 ≤ m * 2 ^ more / n := (Nat.le_div_iff_mul_le (by omega)).2 (by omega)
        omega
    rw [hN, hm]; simp
  all_goals
    intro s hs
    rw [hna] at hs
    obtain ⟨K, M, hK1, hK2, rfl⟩ := rung_parts s
    rw [val_mk K M (by omega) hK2] at hs ⊢
    by_cases hm : m = 0
    · subst hm
      simp only [Nat.zero_mul, Nat.zero_div, Nat.zero_mod] at hs ⊢
      first
        | (simp; done)
        | (have : K * 2 ^ M = 0 := by
             rcases Nat.mul_eq_zero.1 (Nat.le_zero.1 hs) with h | h
             · exact h
             · rcases Nat.mul_eq_zero.1 h with h | h
               · omega
               · have := Nat.two_pow_pos q; omega
           rw [this]; simp)
    have hd := hdig hm
    -- everything over 2^more more
    have s1 : K * 2 ^ M * (n * 2 ^ q) * 2 ^ more = K * 2 ^ (M + q + more) * n := by
      rw [Nat.pow_add, Nat.pow_add]; simp only [Nat.mul_assoc, Nat.mul_comm, Nat.mul_left_comm]
    have s2 : m * 2 ^ (p + 1074) * 2 ^ more = m * 2 ^ more * 2 ^ (p + 1074) := by simp only [Nat.mul_assoc, Nat.mul_comm, Nat.mul_left_comm]
    have s3 := Nat.mul_le_mul_right (2 ^ more) hs
    rw [s1, s2] at s3
    have s4 : K * 2 ^ M * 2 ^ (q + more + 1) = 2 * (K * 2 ^ (M + q + more)) := by
      rw [Nat.pow_succ, Nat.pow_add, Nat.pow_add, Nat.pow_add]; simp only [Nat.mul_assoc, Nat.mul_comm, Nat.mul_left_comm]
    rw [s4]
    clear hs s1 s2 s4 hmore
    generalize m * 2 ^ more = dv at *
    generalize M + q + more = b at *
    generalize p + 1074 = a at *
    by_cases c : a ≤ b
    · have hk := sticky dv n (K * 2 ^ (b - a)) (by omega)
      have t1 : K * 2 ^ b = K * 2 ^ (b - a) * 2 ^ a := by rw [Nat.mul_assoc, ← Nat.pow_add]; congr 2; omega
      rw [t1] at s3 ⊢
      have t2 : K * 2 ^ (b - a) * 2 ^ a * n = K * 2 ^ (b - a) * n * 2 ^ a := by simp only [Nat.mul_assoc, Nat.mul_comm, Nat.mul_left_comm]
      rw [t2] at s3
      have t3 := Nat.le_of_mul_le_mul_right s3 (Nat.two_pow_pos a)
      have t4 : 2 * (K * 2 ^ (b - a) * 2 ^ a) = 2 * (K * 2 ^ (b - a)) * 2 ^ a := by simp only [Nat.mul_assoc]
      rw [t4]
      first
        | exact Nat.mul_le_mul_right _ (hk.1 t3)
        | exact Nat.mul_le_mul_right _ (hk.2 t3)
    · have u1 : K * 2 ^ b < 2 ^ 53 * 2 ^ b := Nat.mul_lt_mul_of_pos_right hK1 (Nat.two_pow_pos _)
      have u2 : 2 ^ 53 * 2 ^ b ≤ 2 ^ 52 * 2 ^ a := by
        rw [← Nat.pow_add, ← Nat.pow_add]; exact Nat.pow_le_pow_right (by omega) (by omega)
      have u3 : K * 2 ^ b < 2 ^ 53 * 2 ^ a := by
        have : 2 ^ 52 * 2 ^ a ≤ 2 ^ 53 * 2 ^ a := Nat.mul_le_mul_right _ (by omega)
        omega
      have u4 : 2 ^ 53 * n * 2 ^ a ≤ dv * 2 ^ a := Nat.mul_le_mul_right _ hd
      first
        | (exfalso
           have u5 : K * 2 ^ b * n < 2 ^ 53 * 2 ^ a * n := Nat.mul_lt_mul_of_pos_right u3 (by omega)
           have u6 : 2 ^ 53 * 2 ^ a * n = 2 ^ 53 * n * 2 ^ a := by simp only [Nat.mul_assoc, Nat.mul_comm, Nat.mul_left_comm]
           have u7 : dv * 2 ^ a ≤ K * 2 ^ b * n := s3
           omega)
        | (have u5 : 2 ^ 53 ≤ dv / n := (Nat.le_div_iff_mul_le (by omega)).2 hd
           have u6 : 2 ^ 53 * 2 ^ a ≤ dv / n * 2 ^ a := Nat.mul_le_mul_right _ u5
           have u7 : 2 * (dv / n) * 2 ^ a ≤ (2 * (dv / n) + (dv % n != 0).toNat) * 2 ^ a := Nat.mul_le_mul_right _ (by omega)
           rw [Nat.mul_assoc] at u7
           omega)

theorem compare_scale (a b c : Int) (hc : 0 < c) : compare (a * c) (b * c) = compare a b := by
  simp only [Int.compare_eq_ite_lt]
  have h1 : a * c < b * c ↔ a < b := ⟨fun h => Int.lt_of_mul_lt_mul_right h (Int.le_of_lt hc), fun h => Int.mul_lt_mul_of_pos_right h hc⟩
  have h2 : b * c < a * c ↔ b < a := ⟨fun h => Int.lt_of_mul_lt_mul_right h (Int.le_of_lt hc), fun h => Int.mul_lt_mul_of_pos_right h hc⟩
  simp only [h1, h2]

theorem order_fin {x y : Nat} (hx : Fin x) (hy : Fin y) : double.order x y = some (compare (V x) (V y)) := by
  obtain ⟨m, p, e1, v1⟩ := read_fin hx
  obtain ⟨n, q, e2, v2⟩ := read_fin hy
  unfold Format.order
  rw [e1, e2]
  simp only [Datum.order]
  obtain ⟨b, hb⟩ : ∃ b : Nat, b = min p q := ⟨_, rfl⟩
  have e0 : min ((p : Int) - 1074) ((q : Int) - 1074) = (b : Int) - 1074 := by omega
  have e3 : (((p : Int) - 1074) - ((b : Int) - 1074)).toNat = p - b := by omega
  have e4 : (((q : Int) - 1074) - ((b : Int) - 1074)).toNat = q - b := by omega
  rw [e0, e3, e4, V_read v1, V_read v2, signed_scale _ m p b (by omega), signed_scale _ n q b (by omega)]
  rw [compare_scale _ _ _ (by have := Nat.two_pow_pos b; omega)]

end Go.Proofs.Qxb6600900a.Fl
