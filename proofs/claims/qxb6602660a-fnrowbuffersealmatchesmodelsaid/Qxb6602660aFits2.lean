/-
  'zzRowBufferFits_table_b1' (12).
-/
import Derived.Test.Qxb6602660aFits
namespace Go.Proofs.Qxb6602660a
open Go.RowKit

set_option maxRecDepth 100000 in
set_option maxHeartbeats 1600000 in
theorem fits_some (b off n cap lt ct ls cs : Nat) (at_ as_ : Option Addr) (T : Nat → ByteArray) (Y : Nat → Nat) (w : World) (h0 : 0 < n) (hn : n ≤ 65536) (hlt : lt ≤ 1048576) (hls : ls ≤ 1048576) (hm : ∀ i, i < n → (T i).size ≤ 1048576 ∧ Y i ≤ 1048576) (hC : Cells2 w b off n T Y) :
    Calls Try.prog 12 #[.slice (some ⟨b, off, none⟩) n cap, .slice at_ lt ct, .slice as_ ls cs] w (Tells (fun w' => ∃ m, w' = w.drewN m) True) := by
  have HC := hid hC
  have HM := hid hm
  clear hC hm
  go_enter Try.func12, Try.ntmps12
  go_wp2
  go_loopw [7, 8] (fun z i wr => ∃ (k : Nat) (t : Int), k ≤ n ∧ i = .int .i64 k ∧ z = .int .i64 t ∧ 0 ≤ t ∧ t ≤ 6000000 ∧ Hid (∃ m, wr = w.drewN m)) (fun _ i _ => n - (intOf i).toNat)
  case atStart => exact ⟨0, (lt : Int) + ls + 40 * n, Nat.zero_le _, rfl, by go_num, by omega, by omega, 0, (World.drewN_zero w).symm⟩
  case round =>
    obtain ⟨k, t, hk, rfl, rfl, ht0, ht1, HW⟩ := hrel
    by_cases hkn : k < n
    · obtain ⟨c0, va, vc, c1⟩ := HC.out k hkn
      have g0 : wr.cell? ⟨b, off + k * 2, none⟩ = some (.string (T k)) := by rw [HW.out.choose_spec]; exact c0
      have g1 : wr.cell? ⟨b, off + k * 2 + 1, none⟩ = some (.slice va (Y k) vc) := by rw [HW.out.choose_spec]; exact c1
      obtain ⟨m1, m2⟩ := HM.out k hkn
      obtain ⟨tk, htk⟩ : ∃ tk, tk = T k := ⟨_, rfl⟩
      obtain ⟨yk, hyk⟩ : ∃ yk, yk = Y k := ⟨_, rfl⟩
      rw [← htk] at g0 m1
      rw [← hyk] at g1 m2
      clear htk hyk c0 c1
      have i1 : (0 : Int) ≤ (k : Int) := by omega
      have i2 : (k : Int) < (n : Int) := by omega
      by_cases c2 : 1048576 < t + ((tk.size : Int) + yk)
      · go_wp2_with fail
        go_quiet (fail)
        go_wp2
        go_ret
        exact tells_no ⟨_, by rw [HW.out.choose_spec, World.drewN_drewN]⟩
      go_wp2_with fail
      go_quiet (fail)
      go_wp2
      go_roundw
      case rel => exact ⟨k + 1, t + ((tk.size : Int) + yk), by omega, by go_num, by go_num, by omega, by omega, ⟨_, by rw [HW.out.choose_spec, World.drewN_drewN]⟩⟩
      case measure => simp [intOf]; omega
    · have hkl : n = k := by omega
      subst hkl
      go_wp2
      go_ret
      exact tells_any HW.out trivial

set_option maxRecDepth 100000 in
set_option maxHeartbeats 1600000 in
theorem fits_none (cap lt ct ls cs : Nat) (a at_ as_ : Option Addr) (w : World) (hlt : lt ≤ 1048576) (hls : ls ≤ 1048576) :
    Calls Try.prog 12 #[.slice a 0 cap, .slice at_ lt ct, .slice as_ ls cs] w (Tells (fun w' => ∃ m, w' = w.drewN m) True) := by
  go_enter Try.func12, Try.ntmps12
  go_wp2
  refine wp_loop_rounds 1 ?_
  rw [rounds_succ]
  go_wp2
  go_ret
  exact tells_any ⟨0, (World.drewN_zero w).symm⟩ trivial

set_option maxRecDepth 100000 in
set_option maxHeartbeats 1600000 in
theorem fits_far (n cap lt ct ls cs : Nat) (a at_ as_ : Option Addr) (w : World) {A : Prop} (hn : 65536 < n) (hm : n ≤ 1048576) :
    Calls Try.prog 12 #[.slice a n cap, .slice at_ lt ct, .slice as_ ls cs] w (Tells (fun w' => ∃ m, w' = w.drewN m) A) := by
  go_enter Try.func12, Try.ntmps12
  go_wp2
  go_ret
  exact tells_no ⟨0, (World.drewN_zero w).symm⟩

theorem fits_of {w : World} {lo hi n cap lt ct ls cs : Nat} {a at_ as_ : Option Addr} {T : Nat → ByteArray} {Y : Nat → Nat} {Z : Nat → Nat → Int} (hn : n ≤ 1048576) (hlt : lt ≤ 1048576) (hls : ls ≤ 1048576) (hm : ∀ i, i < n → (T i).size ≤ 1048576 ∧ Y i ≤ 1048576) (hC : Chs w lo hi (.slice a n cap) n T Y Z) :
    Calls Try.prog 12 #[.slice a n cap, .slice at_ lt ct, .slice as_ ls cs] w (Tells (fun w' => ∃ m, w' = w.drewN m) (n ≤ 65536)) := by
  obtain ⟨_, _, e, hC⟩ := hC
  cases e
  by_cases h1 : 65536 < n
  · exact fits_far n cap lt ct ls cs a at_ as_ w h1 hn
  have hf : ∀ e w', Tells (fun w' => ∃ m, w' = w.drewN m) True e w' → Tells (fun w' => ∃ m, w' = w.drewN m) (n ≤ 65536) e w' := by
    rintro e w' ⟨h, r, h2, _⟩
    exact ⟨h, r, h2, fun _ => by omega⟩
  by_cases h0 : n = 0
  · subst h0
    exact (fits_none cap lt ct ls cs a at_ as_ w hlt hls).mono hf
  · rcases hC with hC | ⟨b, off, rfl, _, _, hC⟩
    · exact absurd hC h0
    exact (fits_some b off n cap lt ct ls cs at_ as_ T Y w (by omega) (by omega) hlt hls hm (cells2_of hC)).mono hf

end Go.Proofs.Qxb6602660a
