/-
  Byte slices, and 'zzBytesEq_table_b1' (21).
-/
import Derived.Test.Qxb6602660aBytes
import Derived.Deep.QuietTactic
import Derived.BigQuiet
namespace Go.Proofs.Qxb6602660a
open Go.RowKit

/-- v is a slice of len bytes z 0, z 1, ..; its block, if it has an element, lies from lo on and below hi. -/
def IsBy (w : World) (lo hi : Nat) (v : Value) (len : Nat) (z : Nat → Int) : Prop :=
  ∃ a cap, v = .slice a len cap ∧ (len = 0 ∨ ∃ b off, a = some ⟨b, off, none⟩ ∧ lo ≤ b ∧ b < hi ∧ ∀ i, i < len → w.cell? ⟨b, off + i, none⟩ = some (.int .u8 (z i)))

set_option maxHeartbeats 800000 in
theorem bytesEq_some (a b oa ob len ca cb : Nat) (z : Nat → Int) (w : World) (h0 : 0 < len) (hl : len ≤ 1048576) (hA : ∀ i, i < len → w.cell? ⟨a, oa + i, none⟩ = some (.int .u8 (z i))) (hB : ∀ i, i < len → w.cell? ⟨b, ob + i, none⟩ = some (.int .u8 (z i))) :
    Calls Try.prog 21 #[.slice (some ⟨a, oa, none⟩) len ca, .slice (some ⟨b, ob, none⟩) len cb] w fun e w' => e = .returned (.bool true) ∧ ∃ n, w' = w.drewN n := by
  have HA := hid hA
  have HB := hid hB
  clear hA hB
  go_enter Try.func21, Try.ntmps21
  go_wp2
  go_loopw [5] (fun i wr => ∃ k n : Nat, k ≤ len ∧ i = .int .i64 k ∧ Hid (wr = w.drewN n)) (fun i _ => len - (intOf i).toNat)
  case atStart => exact ⟨0, 0, Nat.zero_le _, rfl, hid (World.drewN_zero w).symm⟩
  case round =>
    obtain ⟨k, n, hk, rfl, HW⟩ := hrel
    by_cases hlt : k < len
    · have ga : wr.cell? ⟨a, oa + k, none⟩ = some (.int .u8 (z k)) := by rw [HW.out]; exact HA.out k hlt
      have gb : wr.cell? ⟨b, ob + k, none⟩ = some (.int .u8 (z k)) := by rw [HW.out]; exact HB.out k hlt
      have i1 : (0 : Int) ≤ (k : Int) := by omega
      have i2 : (k : Int) < (len : Int) := by omega
      obtain ⟨zk, hzk⟩ : ∃ zk, zk = z k := ⟨_, rfl⟩
      rw [← hzk] at ga gb
      clear hzk
      go_wp2_with fail
      go_quiet (fail)
      go_wp2
      go_roundw
      case rel => exact ⟨k + 1, n + nq, by omega, by go_num, hid (by rw [HW.out]; exact World.drewN_drewN ..)⟩
      case measure => simp [intOf]; omega
    · go_wp2
      go_ret
      exact ⟨rfl, n, HW.out⟩

end Go.Proofs.Qxb6602660a
