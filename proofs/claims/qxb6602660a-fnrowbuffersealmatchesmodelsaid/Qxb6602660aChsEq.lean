/-
  'zzChunksEq_table_b1' (20).
-/
import Derived.Test.Qxb6602660aTexts
namespace Go.Proofs.Qxb6602660a
open Go.RowKit

set_option maxRecDepth 100000 in
set_option maxHeartbeats 1600000 in
theorem chsEq_some (bt ot ct bs os cs cb co cc n : Nat) (T : Nat → ByteArray) (Y : Nat → Nat) (Z : Nat → Nat → Int) (lo hi lo' hi' : Nat) (w : World) (hn : n ≤ 65536) (hY : ∀ i, i < n → Y i ≤ 1048576)
    (hT : ∀ i, i < n → w.cell? ⟨bt, ot + i, none⟩ = some (.string (T i)))
    (hS : ∀ i, i < n → ∃ vi, w.cell? ⟨bs, os + i, none⟩ = some vi ∧ IsBy w lo hi vi (Y i) (Z i))
    (hC : ∀ i, i < n → w.cell? ⟨cb, co + i * 2, none⟩ = some (.string (T i)) ∧ ∃ vi, w.cell? ⟨cb, co + i * 2 + 1, none⟩ = some vi ∧ IsBy w lo' hi' vi (Y i) (Z i)) :
    Calls Try.prog 20 #[.slice (some ⟨bt, ot, none⟩) n ct, .slice (some ⟨bs, os, none⟩) n cs, .slice (some ⟨cb, co, none⟩) n cc] w fun e w' => e = .returned (.bool true) ∧ ∃ m, w' = w.drewN m := by
  have HT := hid hT
  have HS := hid hS
  have HC := hid hC
  have HY := hid hY
  clear hT hS hC hY
  go_enter Try.func20, Try.ntmps20
  go_wp2
  go_loopw [7] (fun i wr => ∃ k : Nat, k ≤ n ∧ i = .int .i64 k ∧ Hid (∃ m, wr = w.drewN m)) (fun i _ => n - (intOf i).toNat)
  case atStart => exact ⟨0, Nat.zero_le _, rfl, 0, (World.drewN_zero w).symm⟩
  case round =>
    obtain ⟨k, hk, rfl, HW⟩ := hrel
    by_cases hlt : k < n
    · obtain ⟨c1, v1, c2, c3⟩ := HC.out k hlt
      obtain ⟨v2, d2, d3⟩ := HS.out k hlt
      have t0 : wr.cell? ⟨bt, ot + k, none⟩ = some (.string (T k)) := by rw [HW.out.choose_spec]; exact HT.out k hlt
      have e0 : wr.cell? ⟨cb, co + k * 2, none⟩ = some (.string (T k)) := by rw [HW.out.choose_spec]; exact c1
      have e1 : wr.cell? ⟨cb, co + k * 2 + 1, none⟩ = some v1 := by rw [HW.out.choose_spec]; exact c2
      have s0 : wr.cell? ⟨bs, os + k, none⟩ = some v2 := by rw [HW.out.choose_spec]; exact d2
      have HV1 : Hid (∀ w2 : World, w2.heap = wr.heap → IsBy w2 lo' hi' v1 (Y k) (Z k)) := hid (fun w2 e => c3.agree (fun _ _ _ => by rw [e, HW.out.choose_spec]; rfl))
      have HV2 : Hid (∀ w2 : World, w2.heap = wr.heap → IsBy w2 lo hi v2 (Y k) (Z k)) := hid (fun w2 e => d3.agree (fun _ _ _ => by rw [e, HW.out.choose_spec]; rfl))
      obtain ⟨a1, k1, rfl, _⟩ := c3
      obtain ⟨a2, k2, rfl, _⟩ := d3
      have hyk := HY.out k hlt
      have i1 : (0 : Int) ≤ (k : Int) := by omega
      have i2 : (k : Int) < (n : Int) := by omega
      obtain ⟨tk, htk⟩ : ∃ tk, tk = T k := ⟨_, rfl⟩
      rw [← htk] at t0 e0
      clear htk c1 c2 d2
      go_wp2_with fail
      go_quiet (fail)
      go_wp2_with fail
      obtain ⟨wq, hwq⟩ : ∃ wq, wq = wr.drewN nq := ⟨_, rfl⟩
      rw [← hwq]
      have e1' : wq.cell? ⟨cb, co + k * 2 + 1, none⟩ = some (.slice a1 (Y k) k1) := by rw [hwq]; exact e1
      have s0' : wq.cell? ⟨bs, os + k, none⟩ = some (.slice a2 (Y k) k2) := by rw [hwq]; exact s0
      have hqh : wq.heap = wr.heap := by rw [hwq]; rfl
      have HQ := hid hwq
      have HQH := hid hqh
      clear hwq hqh t0 e0 e1 s0
      go_quiet ((go_at_call 21; refine Calls.quiet_of (bytesEq_of hyk (HV2.out _ (by exact HQH.out)) (HV1.out _ (by exact HQH.out)))))
      go_wp2
      go_roundw
      case rel => exact ⟨k + 1, by omega, by go_num, ⟨_, by rw [HQ.out, HW.out.choose_spec, World.drewN_drewN, World.drewN_drewN]⟩⟩
      case measure => simp [intOf]; omega
    · go_wp2
      go_ret
      exact ⟨rfl, HW.out⟩

set_option maxHeartbeats 800000 in
theorem chsEq_none (a b c : Option Addr) (ca cb cc : Nat) (w : World) :
    Calls Try.prog 20 #[.slice a 0 ca, .slice b 0 cb, .slice c 0 cc] w fun e w' => e = .returned (.bool true) ∧ ∃ m, w' = w.drewN m := by
  go_enter Try.func20, Try.ntmps20
  go_wp2
  refine wp_loop_rounds 1 ?_
  rw [rounds_succ]
  go_wp2
  go_ret
  exact ⟨rfl, 0, (World.drewN_zero w).symm⟩

theorem chsEq_of {w : World} {lt ht lo hi lo' hi' n : Nat} {vt vs vc : Value} {T : Nat → ByteArray} {Y : Nat → Nat} {Z : Nat → Nat → Int} (hn : n ≤ 65536) (hY : ∀ i, i < n → Y i ≤ 1048576) (hT : Strs w lt ht vt n T) (hS : Bss w lo hi vs n Y Z) (hC : Chs w lo' hi' vc n T Y Z) :
    Calls Try.prog 20 #[vt, vs, vc] w fun e w' => e = .returned (.bool true) ∧ ∃ m, w' = w.drewN m := by
  obtain ⟨a, ca, rfl, hT⟩ := hT
  obtain ⟨b, cb, rfl, hS⟩ := hS
  obtain ⟨c, cc, rfl, hC⟩ := hC
  by_cases h0 : n = 0
  · subst h0; exact chsEq_none a b c ca cb cc w
  · rcases hT with h | ⟨bt, ot, rfl, _, _, hT⟩
    · exact absurd h h0
    rcases hS with h | ⟨bs, os, rfl, _, _, hS⟩
    · exact absurd h h0
    rcases hC with h | ⟨bc, oc, rfl, _, _, hC⟩
    · exact absurd h h0
    exact chsEq_some bt ot ca bs os cb bc oc cc n T Y Z lo hi lo' hi' w hn hY hT hS hC

end Go.Proofs.Qxb6602660a
