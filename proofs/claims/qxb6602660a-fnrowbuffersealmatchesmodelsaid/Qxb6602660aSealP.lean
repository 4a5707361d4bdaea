/-
  Plain facts for 'seal': the chunks as a row of cells; the row with one chunk more.
-/
import Derived.Test.Qxb6602660aMake2
import Derived.Deep.RegionLawGrows
import Derived.Deep.AppendLies
namespace Go.Proofs.Qxb6602660a
open Go.RowKit

def chL (T : Nat → ByteArray) (V : Nat → Value) (n : Nat) : List Value := (List.range (n * 2)).map (chF T V n)

theorem chL_length (T : Nat → ByteArray) (V : Nat → Value) (n : Nat) : (chL T V n).length = n * 2 := by simp [chL]

theorem chL_get {T : Nat → ByteArray} {V : Nat → Value} {n j : Nat} {u : Value} (h : (chL T V n)[j]? = some u) : j < n * 2 ∧ u = chF T V n j := by
  have hj : j < n * 2 := by have := (List.getElem?_eq_some_iff.1 h).1; rwa [chL_length] at this
  refine ⟨hj, ?_⟩
  simp [chL, hj] at h
  exact h.symm

theorem chL_at (T : Nat → ByteArray) (V : Nat → Value) {n j : Nat} (hj : j < n * 2) : (chL T V n)[j]? = some (chF T V n j) := by simp [chL, hj]

theorem chF_even {T : Nat → ByteArray} {V : Nat → Value} {n i : Nat} (hi : i < n) : chF T V n (i * 2) = .string (T i) := by
  unfold chF; rw [if_pos (by omega), if_pos (by omega), show i * 2 / 2 = i by omega]
theorem chF_odd {T : Nat → ByteArray} {V : Nat → Value} {n i : Nat} (hi : i < n) : chF T V n (i * 2 + 1) = V i := by
  unfold chF; rw [if_pos (by omega), if_neg (by omega), show (i * 2 + 1) / 2 = i by omega]

theorem flat_add (b off i : Nat) : (⟨b, off, none⟩ : Addr).add i = ⟨b, off + i, none⟩ := by unfold Addr.add; split <;> simp_all

theorem chs_row {w : World} {lo hi n : Nat} {ca : Option Addr} {T : Nat → ByteArray} {Y : Nat → Nat} {Z : Nat → Nat → Int} (h : Chs w lo hi (.slice ca n n) n T Y Z) :
    ∃ V : Nat → Value, (∀ i, i < n → IsBy w lo hi (V i) (Y i) (Z i)) ∧ ∀ b, ca = some b → ∀ j u, (chL T V n)[j]? = some u → w.cell? (b.add j) = some u := by
  obtain ⟨_, _, e, h⟩ := h
  cases e
  by_cases h0 : n = 0
  · subst h0
    exact ⟨fun _ => .bool false, fun i hi => absurd hi (Nat.not_lt_zero _), fun b _ j u hu => absurd (chL_get hu).1 (by omega)⟩
  · rcases h with h | ⟨b, off, rfl, _, _, h⟩
    · exact absurd h h0
    obtain ⟨V, hV⟩ := pick_lt (fun i hi => (h i hi).2)
    refine ⟨V, fun i hi => (hV i hi).2, fun b' e j u hu => ?_⟩
    cases e
    obtain ⟨hj, rfl⟩ := chL_get hu
    rw [flat_add]
    rcases (show j % 2 = 0 ∨ j % 2 = 1 by omega) with e | e
    · obtain ⟨i, rfl⟩ : ∃ i, j = i * 2 := ⟨j / 2, by omega⟩
      rw [(h i (by omega)).1, chF_even (by omega)]
    · obtain ⟨i, rfl⟩ : ∃ i, j = i * 2 + 1 := ⟨j / 2, by omega⟩
      rw [chF_odd (by omega), ← Nat.add_assoc]
      exact (hV i (by omega)).1

/-- f, and x at n. -/
def more {α : Type} (f : Nat → α) (n : Nat) (x : α) : Nat → α := fun i => if i < n then f i else x

theorem more_lt {α : Type} (f : Nat → α) {n i : Nat} (x : α) (h : i < n) : more f n x i = f i := if_pos h
theorem more_at {α : Type} (f : Nat → α) (n : Nat) (x : α) : more f n x n = x := if_neg (Nat.lt_irrefl _)

theorem row_more {w : World} {base g cap n : Nat} {T : Nat → ByteArray} {V : Nat → Value} {s : ByteArray} {v : Value} (h : w.ownsRow base 46 2 (.slice (some ⟨g, 0, none⟩) (n + 1) cap) (n + 1) (chL T V n ++ [.string s, v])) :
    ∀ i, i < n + 1 → w.cell? ⟨g, 0 + i * 2, none⟩ = some (.string (more T n s i)) ∧ w.cell? ⟨g, 0 + i * 2 + 1, none⟩ = some (more V n v i) := by
  obtain ⟨_, ⟨e, _⟩ | ⟨g', cap', cur, e, _, hg, _, _, hs, ht⟩⟩ := h
  · cases e
  · cases e
    have hc : ∀ j, j < (n + 1) * 2 → w.cell? ⟨g, j, none⟩ = (chL T V n ++ [.string s, v])[j]? := by
      intro j hj
      rw [cell_of_row w g j cur 46 _ hg, ← ht, List.getElem?_take_of_lt hj]
      simp
    intro i hi
    rw [Nat.zero_add, hc _ (by omega), hc _ (by omega)]
    by_cases c : i < n
    · rw [List.getElem?_append_left (by rw [chL_length]; omega), List.getElem?_append_left (by rw [chL_length]; omega), chL_at _ _ (by omega), chL_at _ _ (by omega), chF_even c, chF_odd c, more_lt _ _ c, more_lt _ _ c]
      exact ⟨rfl, rfl⟩
    · obtain rfl : i = n := by omega
      rw [List.getElem?_append_right (by rw [chL_length]; omega), List.getElem?_append_right (by rw [chL_length]; omega), chL_length, more_at, more_at, show i * 2 - i * 2 = 0 by omega, show i * 2 + 1 - i * 2 = 1 by omega]
      exact ⟨rfl, rfl⟩

/-- The bytes z as values. -/
def byL (z : Nat → Int) (n : Nat) : List Value := (List.range n).map (fun i => .int .u8 (z i))

theorem byL_length (z : Nat → Int) (n : Nat) : (byL z n).length = n * 1 := by simp [byL]
theorem byL_one (z : Nat → Int) (n : Nat) : ∀ u ∈ byL z n, u.oneCell' = true := by
  intro u hu
  simp only [byL, List.mem_map] at hu
  obtain ⟨i, _, rfl⟩ := hu
  rfl

theorem row_by {w : World} {base g cap n : Nat} {z : Nat → Int} (h : w.ownsRow base 5 1 (.slice (some ⟨g, 0, none⟩) n cap) n (byL z n)) : IsBy w base w.heap.size (.slice (some ⟨g, 0, none⟩) n cap) n z := by
  by_cases h0 : n = 0
  · exact ⟨_, _, rfl, .inl h0⟩
  obtain ⟨g', cap', e, hb, hlt⟩ := h.form (by omega)
  cases e
  obtain ⟨_, ⟨e, _⟩ | ⟨g', cap', cur, e, _, hg, _, _, hs, ht⟩⟩ := h
  · cases e
  · cases e
    refine ⟨_, _, rfl, .inr ⟨g, 0, rfl, hb, hlt, fun i hi => ?_⟩⟩
    rw [Nat.zero_add, cell_of_row w g i cur 5 _ hg]
    have : (cur.toList.take (n * 1))[i]? = some (.int .u8 (z i)) := by rw [ht]; simp [byL, hi]
    rw [List.getElem?_take_of_lt (by omega)] at this
    simpa using this

theorem byL_cells {w : World} {b n : Nat} {z : Nat → Int} (h : Holds w b 0 n (u8R z)) : ∀ j u, (byL z n)[j]? = some u → w.cell? ((⟨b, 0, none⟩ : Addr).add j) = some u := by
  intro j u hu
  have hj : j < n := by have := (List.getElem?_eq_some_iff.1 hu).1; rw [byL_length] at this; omega
  rw [flat_add, h.cell j hj]
  simp [byL, hj] at hu
  rw [← hu]
  rfl

end Go.Proofs.Qxb6602660a
