import Derived.Test.Qxb6600507aRows
import Derived.Test.Qxb6600507aPlain
import Derived.WalkKit
import Derived.WalkLawsBesides
import Derived.Laws.IdiomStrings
import Derived.Laws.BitsAllLaws
namespace Go.Proofs.Qxb6600507a
open Go.RowKit

/-- The first k bytes of the row are made lower; the rest stand as they were. -/
def LowRow (s : ByteArray) (k B : Nat) (wr : World) : Prop :=
  ∀ j (hj : j < s.size), wr.cell? ⟨B, j, none⟩ = some (.int .u8 (((if j < k then Pl.low s[j] else s[j]).toNat : Nat) : Int)) ∧ wr.frozen? ⟨B, j, none⟩ = false

theorem lowRow_start (s : ByteArray) (w : World) (cap : Nat) : LowRow s 0 w.heap.size ((w.alloc (.cells (bytesRow s cap) 5 ((bytesRow s cap).size, (bytesRow s cap).size + 1))).drew) := by
  intro j hj
  have hsz : s.size ≤ (bytesRow s cap).size := by
    have h : s.data.size = s.size := rfl
    unfold bytesRow; rw [Array.size_append, Array.size_map, h]; omega
  refine ⟨?_, ?_⟩
  · show (w.alloc _).cell? _ = _
    rw [World.cell?_alloc_mark, bytesRow_at s cap j hj]
    simp
    rfl
  · show (w.alloc _).frozen? _ = _
    rw [World.frozen?_alloc_mark]
    simp; omega

theorem lowRow_keep {s : ByteArray} {k B : Nat} {wr : World} (h : LowRow s k B wr) (hk : k < s.size) (hl : Pl.low s[k] = s[k]) : LowRow s (k + 1) B wr := by
  intro j hj
  refine ⟨?_, (h j hj).2⟩
  rw [(h j hj).1]
  by_cases e : j = k
  · subst e; simp [hl]
  · have : (j < k + 1) ↔ (j < k) := by omega
    simp [this]

theorem lowRow_set {s : ByteArray} {k B : Nat} {wr : World} (h : LowRow s k B wr) (hk : k < s.size) (n : Int) (hn : n = ((Pl.low s[k]).toNat : Int)) : LowRow s (k + 1) B (wr.setCell ⟨B, k, none⟩ (.int .u8 n)) := by
  intro j hj
  refine ⟨?_, ?_⟩
  · by_cases e : j = k
    · subst e
      rw [World.cell?_setCell_same _ _ _ (h j hj).1, hn]; simp
    · rw [World.cell?_setCell_other _ _ _ _ (by intro h; cases h; exact e rfl), (h j hj).1]
      have : (j < k + 1) ↔ (j < k) := by omega
      simp [this]
  · rw [World.frozen?_setCell]; exact (h j hj).2

theorem low_eq {c : UInt8} (h : ¬ (65 ≤ (c.toNat : Int) ∧ (c.toNat : Int) ≤ 90)) : Pl.low c = c := by
  unfold Pl.low; rw [if_neg (by omega)]

theorem low_up {c : UInt8} (h1 : 65 ≤ (c.toNat : Int)) (h2 : (c.toNat : Int) ≤ 90) : (c.toNat : Int) + 97 - 65 = ((Pl.low c).toNat : Int) := by
  rw [Pl.low_toNat]; unfold Pl.lowN; rw [if_pos (by omega)]; omega

theorem addr_add (B j : Nat) : (⟨B, 0, none⟩ : Addr).add j = ⟨B, j, none⟩ := by
  unfold Addr.add; by_cases h : j = 0 <;> simp [h]

theorem lowRow_read {s : ByteArray} {B : Nat} {wr : World} (h : LowRow s s.size B wr) (cap : Nat) :
    (convert 28 9 (.slice (some ⟨B, 0, none⟩) s.size cap)).run Try.prog wr = .ok (.string ⟨(Pl.lowL s.data.toList).toArray⟩) wr := by
  have hl : (Pl.lowL s.data.toList).length = s.size := by simp [Pl.lowL]
  have := run_convert_bytes_back (P := Try.prog) wr 28 9 5 ⟨B, 0, none⟩ cap (Pl.lowL s.data.toList) Try.underlying28 Try.underlying5 Try.underlying9 (fun j hj => by
    have hj' : j < s.size := by omega
    have e := (h j hj').1
    rw [if_pos hj'] at e
    rw [addr_add, e]
    simp [Pl.lowL]
    rfl)
  rw [hl] at this
  exact this

set_option maxHeartbeats 400000 in
theorem lower_any (s : ByteArray) (w : World) (hs : s.size ≤ maxLen) :
    Calls Try.prog 9 #[.string s] w fun e w' => e = .returned (.string ⟨(Pl.lowL s.data.toList).toArray⟩) ∧ Below w.heap.size w w' := by
  unfold maxLen at hs
  have hcv := fun w => run_bytes_of_string (P := Try.prog) w 9 28 5 s Try.underlying9 Try.underlying28 Try.underlying5
  go_enter Try.func9, Try.ntmps9
  go_wp2
  clear hcv
  generalize grownCap w s.size 0 5 = cap
  go_loopw [10] (fun i wr => ∃ k : Nat, k ≤ s.size ∧ i = .int .i64 k ∧ Hid (LowRow s k w.heap.size wr) ∧ Hid (Below w.heap.size w wr)) (fun i _ => s.size - (intOf i).toNat)
  case atStart => exact ⟨0, Nat.zero_le _, rfl, lowRow_start s w cap, ((Below.refl _ _).alloc (Nat.le_refl _) _).drew⟩
  case round =>
    obtain ⟨k, hk, rfl, hrow, hbel⟩ := hrel
    by_cases hlt : k < s.size
    · obtain ⟨c, hc⟩ : ∃ c, c = s[k] := ⟨_, rfl⟩
      have hcell : wr.cell? ⟨w.heap.size, k, none⟩ = some (.int .u8 (c.toNat : Int)) := by
        have := (hrow.out k hlt).1
        rw [hc, this]; simp
      have hfz : wr.frozen? ⟨w.heap.size, k, none⟩ = false := (hrow.out k hlt).2
      have HC : Hid (c = s[k]) := hc
      clear hc
      have c0 := c.toNat_lt
      by_cases hu : 65 ≤ (c.toNat : Int) ∧ (c.toNat : Int) ≤ 90
      · obtain ⟨h1, h2⟩ := hu
        have e := low_up h1 h2
        have HE : Hid ((c.toNat : Int) + 97 - 65 = ((Pl.low c).toNat : Int)) := e
        clear e
        go_wp2
        go_roundw
        case rel => exact ⟨k + 1, by omega, by go_num, lowRow_set hrow.out hlt _ (by rw [← HC.out]; exact HE.out), hbel.out.setCell (Nat.le_refl _) _⟩
        case measure => simp [intOf]; omega
      · have hl := low_eq hu
        have HL : Hid (Pl.low c = c) := hl
        clear hl
        go_wp2
        all_goals
          go_roundw
          case rel => exact ⟨k + 1, by omega, by go_num, lowRow_keep hrow.out hlt (by rw [← HC.out]; exact HL.out), hbel.out⟩
          case measure => simp [intOf]; omega
    · obtain rfl : k = s.size := by omega
      have hconv := lowRow_read hrow.out cap
      go_wp2
      go_ret
      exact ⟨rfl, hbel.out⟩

end Go.Proofs.Qxb6600507a
