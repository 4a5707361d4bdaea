/-
  PLAIN LAWS (no Go in sight): folding a byte to lower case; two bytes fold to one exactly when they differ in the case of a letter alone.
-/
namespace Go.Proofs.Qxb6600507a.Pl

/-- A byte made lower case. -/
def low (c : UInt8) : UInt8 := if 65 ≤ c.toNat ∧ c.toNat ≤ 90 then UInt8.ofNat (c.toNat + 32) else c

def lowL (l : List UInt8) : List UInt8 := l.map low

/-- The Go text's test of one pair of bytes. -/
def foldB (x y : UInt8) : Bool := x.toNat == y.toNat || ((x.toNat ||| 32) == (y.toNat ||| 32) && decide (97 ≤ (x.toNat ||| 32)) && decide ((x.toNat ||| 32) ≤ 122))

def isL (n : Nat) : Bool := decide (97 ≤ (n ||| 32)) && decide ((n ||| 32) ≤ 122)

def lowN (n : Nat) : Nat := if 65 ≤ n ∧ n ≤ 90 then n + 32 else n

theorem low_toNat (c : UInt8) : (low c).toNat = lowN c.toNat := by
  unfold low lowN
  have := c.toNat_lt
  split
  · simp; omega
  · rfl

theorem lowN_letter : ∀ n, n < 256 → isL n = true → lowN n = n ||| 32 := by decide +kernel
theorem lowN_other : ∀ n, n < 256 → isL n = false → lowN n = n := by decide +kernel
theorem isL_lowN : ∀ n, n < 256 → isL (lowN n) = isL n := by decide +kernel

theorem low_iff (x y : UInt8) : low x = low y ↔ foldB x y = true := by
  have hx := x.toNat_lt
  have hy := y.toNat_lt
  have e : low x = low y ↔ lowN x.toNat = lowN y.toNat := by
    rw [← low_toNat, ← low_toNat]; exact UInt8.toNat_inj.symm
  rw [e]
  have f : foldB x y = true ↔ (x.toNat = y.toNat ∨ ((x.toNat ||| 32) = (y.toNat ||| 32) ∧ isL x.toNat = true)) := by
    unfold foldB isL; simp [and_assoc]
  rw [f]
  generalize x.toNat = a at *
  generalize y.toNat = b at *
  cases ha : isL a with
  | false =>
    rw [lowN_other a hx ha]
    cases hb : isL b with
    | false => rw [lowN_other b hy hb]; simp
    | true =>
      have h2 := isL_lowN b hy
      constructor
      · intro h; rw [← h, ha, hb] at h2; cases h2
      · rintro (h | ⟨_, h⟩)
        · rw [h, hb] at ha; cases ha
        · cases h
  | true =>
    rw [lowN_letter a hx ha]
    cases hb : isL b with
    | false =>
      have h2 := isL_lowN b hy
      have h1 := isL_lowN a hx
      rw [lowN_letter a hx ha] at h1
      constructor
      · intro h; rw [← h, h1, ha, hb] at h2; cases h2
      · rintro (h | ⟨h, _⟩)
        · rw [← h, ha] at hb; cases hb
        · have : isL a = isL b := by unfold isL; rw [h]
          rw [this, hb] at ha; cases ha
    | true =>
      rw [lowN_letter b hy hb]
      constructor
      · intro h; exact .inr ⟨h, rfl⟩
      · rintro (h | ⟨h, _⟩)
        · rw [h]
        · exact h

/-- Two texts of one length, byte by byte. -/
def foldL : List UInt8 → List UInt8 → Bool
  | [], [] => true
  | x :: a, y :: b => foldB x y && foldL a b
  | _, _ => false

theorem foldL_length : ∀ a b : List UInt8, foldL a b = true → a.length = b.length
  | [], [], _ => rfl
  | x :: a, y :: b, h => by simp [foldL] at h; simp [foldL_length a b h.2]
  | [], _ :: _, h => by simp [foldL] at h
  | _ :: _, [], h => by simp [foldL] at h

theorem lowL_iff : ∀ a b : List UInt8, lowL a = lowL b ↔ foldL a b = true
  | [], [] => by simp [lowL, foldL]
  | x :: a, y :: b => by
    have := lowL_iff a b
    have h := low_iff x y
    unfold lowL at this ⊢
    simp only [List.map_cons, List.cons.injEq, foldL, Bool.and_eq_true]
    rw [this, h]
  | [], _ :: _ => by simp [lowL, foldL]
  | _ :: _, [] => by simp [lowL, foldL]

/-- All pairs fold: the whole does. -/
theorem foldL_of_all : ∀ a b : List UInt8, a.length = b.length → (∀ i (h1 : i < a.length) (h2 : i < b.length), foldB a[i] b[i] = true) → foldL a b = true
  | [], [], _, _ => rfl
  | x :: a, y :: b, hl, h => by
    simp only [foldL, Bool.and_eq_true]
    refine ⟨h 0 (by simp) (by simp), foldL_of_all a b (by simpa using hl) fun i h1 h2 => ?_⟩
    have := h (i + 1) (by simp; omega) (by simp; omega)
    simpa using this
  | [], _ :: _, hl, _ => by simp at hl
  | _ :: _, [], hl, _ => by simp at hl

/-- One pair does not: the whole does not. -/
theorem foldL_of_bad : ∀ (a b : List UInt8) (i : Nat) (h1 : i < a.length) (h2 : i < b.length), foldB a[i] b[i] = false → foldL a b = false
  | x :: a, y :: b, 0, _, _, h => by simp at h; simp [foldL, h]
  | x :: a, y :: b, i + 1, h1, h2, h => by
    simp at h
    simp only [foldL, Bool.and_eq_false_iff]
    exact .inr (foldL_of_bad a b i (by simpa using h1) (by simpa using h2) h)
  | [], _, _, h1, _, _ => by simp at h1
  | _ :: _, [], _, _, h2, _ => by simp at h2

theorem foldL_of_ne (a b : List UInt8) (h : a.length ≠ b.length) : foldL a b = false := by
  cases e : foldL a b with
  | false => rfl
  | true => exact absurd (foldL_length a b e) h

/-- The table of capitals. -/
theorem upper_at : ∀ k, k < 26 → (⟨#[65, 66, 67, 68, 69, 70, 71, 72, 73, 74, 75, 76, 77, 78, 79, 80, 81, 82, 83, 84, 85, 86, 87, 88, 89, 90]⟩ : ByteArray).data.toList.getD k 0 = UInt8.ofNat (65 + k) := by decide +kernel
theorem lower_at : ∀ k, k < 26 → (⟨#[97, 98, 99, 100, 101, 102, 103, 104, 105, 106, 107, 108, 109, 110, 111, 112, 113, 114, 115, 116, 117, 118, 119, 120, 121, 122]⟩ : ByteArray).data.toList.getD k 0 = UInt8.ofNat (97 + k) := by decide +kernel

end Go.Proofs.Qxb6600507a.Pl
