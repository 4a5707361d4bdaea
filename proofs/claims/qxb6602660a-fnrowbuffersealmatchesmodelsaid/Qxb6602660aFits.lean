/-
  'zzBytes_FnRowBufferSealMatchesModel' (11), 'zzRowBufferFits_table_b1' (12).
-/
import Derived.Test.Qxb6602660aTexts
namespace Go.Proofs.Qxb6602660a
open Go.RowKit

/-- What the walk knows of the chunks' cells. -/
def Cells2 (w : World) (b off n : Nat) (T : Nat → ByteArray) (Y : Nat → Nat) : Prop :=
  ∀ i, i < n → w.cell? ⟨b, off + i * 2, none⟩ = some (.string (T i)) ∧ ∃ a c, w.cell? ⟨b, off + i * 2 + 1, none⟩ = some (.slice a (Y i) c)

/-- It tells a bool; where it tells true, A holds; w' as W says. -/
def Tells (W : World → Prop) (A : Prop) (e : Ending) (w' : World) : Prop := W w' ∧ ∃ r, e = .returned (.bool r) ∧ (r = true → A)

theorem tells_no {W : World → Prop} {A : Prop} {w' : World} (h : W w') : Tells W A (.returned (.bool false)) w' := ⟨h, false, rfl, by simp⟩
theorem tells_any {W : World → Prop} {A : Prop} {w' : World} {r : Bool} (h : W w') (a : A) : Tells W A (.returned (.bool r)) w' := ⟨h, r, rfl, fun _ => a⟩
theorem tells_yes {W : World → Prop} {A : Prop} {w' : World} (h : W w') (a : A) : Tells W A (.returned (.bool true)) w' := ⟨h, true, rfl, fun _ => a⟩

set_option maxRecDepth 100000 in
set_option maxHeartbeats 1600000 in
theorem bytes_some (b off n cap lt ct ls cs : Nat) (at_ as_ : Option Addr) (width rows last : Int) (T : Nat → ByteArray) (Y : Nat → Nat) (w : World) (h0 : 0 < n) (hn : n ≤ 1048576) (hlt : lt ≤ maxLen) (hls : ls ≤ maxLen) (hm : ∀ i, i < n → (T i).size ≤ maxLen ∧ Y i ≤ maxLen) (hC : Cells2 w b off n T Y) :
    Calls Try.prog 11 #[.int .i64 width, .slice (some ⟨b, off, none⟩) n cap, .slice at_ lt ct, .slice as_ ls cs, .int .i64 rows, .int .i64 last] w (Tells (fun w' => w' = w) (lt ≤ 1048576 ∧ ls ≤ 1048576 ∧ ∀ i, i < n → (T i).size ≤ 1048576 ∧ Y i ≤ 1048576)) := by
  unfold maxLen at hlt hls hm
  have HC := hid hC
  have HM := hid hm
  clear hC hm
  go_enter Try.func11, Try.ntmps11
  go_wp2
  go_loopw [13, 14] (fun z i wr => ∃ (k : Nat) (t : Int), k ≤ n ∧ i = .int .i64 k ∧ z = .int .i64 t ∧ 0 ≤ t ∧ t ≤ 1048576 ∧ Hid (wr = w) ∧ Hid (∀ j, j < k → (T j).size ≤ 1048576 ∧ Y j ≤ 1048576)) (fun _ i _ => n - (intOf i).toNat)
  case atStart => exact ⟨0, n, Nat.zero_le _, rfl, rfl, by omega, by omega, rfl, fun j hj => absurd hj (Nat.not_lt_zero _)⟩
  case round =>
    obtain ⟨k, t, hk, rfl, rfl, ht0, ht1, HW, HY⟩ := hrel
    by_cases hkn : k < n
    · obtain ⟨g0, va, vc, g1⟩ := HC.out k hkn
      rw [← HW.out] at g0 g1
      obtain ⟨m1, m2⟩ := HM.out k hkn
      obtain ⟨tk, htk⟩ : ∃ tk, tk = T k := ⟨_, rfl⟩
      obtain ⟨yk, hyk⟩ : ∃ yk, yk = Y k := ⟨_, rfl⟩
      rw [← htk] at g0 m1
      rw [← hyk] at g1 m2
      have HYK := hid hyk
      have HTK := hid htk
      clear htk hyk
      obtain ⟨sk, hsk⟩ : ∃ sk, sk = tk.size := ⟨_, rfl⟩
      rw [← hsk] at m1
      have i1 : (0 : Int) ≤ (k : Int) := by omega
      have i2 : (k : Int) < (n : Int) := by omega
      by_cases c1 : 1048576 < tk.size
      · go_wp2
        go_ret
        exact tells_no HW.out
      by_cases c2 : 1048576 < t + tk.size
      · go_wp2
        go_ret
        exact tells_no HW.out
      by_cases c3 : 1048576 < yk
      · go_wp2
        go_ret
        exact tells_no HW.out
      by_cases c4 : 1048576 < t + tk.size + yk
      · go_wp2
        go_ret
        exact tells_no HW.out
      have HY' : Hid (∀ j, j < k + 1 → (T j).size ≤ 1048576 ∧ Y j ≤ 1048576) := by
        intro j hj
        by_cases e : j = k
        · subst e; rw [← HYK.out, ← HTK.out]; omega
        · exact HY.out j (by omega)
      go_wp2
      go_roundw
      case rel => exact ⟨k + 1, t + tk.size + yk, by omega, by go_num, rfl, by omega, by omega, HW, HY'⟩
      case measure => simp [intOf]; omega
    · have hkl : n = k := by omega
      subst hkl
      by_cases c1 : 1048576 < lt
      · go_wp2
        go_ret
        exact tells_no HW.out
      by_cases c2 : 1048576 < t + lt
      · go_wp2
        go_ret
        exact tells_no HW.out
      by_cases c3 : 1048576 < ls
      · go_wp2
        go_ret
        exact tells_no HW.out
      by_cases c4 : 1048576 < t + lt + ls
      · go_wp2
        go_ret
        exact tells_no HW.out
      go_wp2
      go_ret
      exact tells_yes HW.out ⟨by omega, by omega, HY.out⟩

set_option maxRecDepth 100000 in
set_option maxHeartbeats 1600000 in
theorem bytes_none (cap lt ct ls cs : Nat) (a at_ as_ : Option Addr) (width rows last : Int) (w : World) (hlt : lt ≤ maxLen) (hls : ls ≤ maxLen) :
    Calls Try.prog 11 #[.int .i64 width, .slice a 0 cap, .slice at_ lt ct, .slice as_ ls cs, .int .i64 rows, .int .i64 last] w (Tells (fun w' => w' = w) (lt ≤ 1048576 ∧ ls ≤ 1048576)) := by
  unfold maxLen at hlt hls
  by_cases c1 : 1048576 < lt
  · go_enter Try.func11, Try.ntmps11
    go_wp2
    refine wp_loop_rounds 1 ?_
    rw [rounds_succ]
    go_wp2
    go_ret
    exact tells_no rfl
  by_cases c3 : 1048576 < ls
  · go_enter Try.func11, Try.ntmps11
    go_wp2
    refine wp_loop_rounds 1 ?_
    rw [rounds_succ]
    go_wp2
    go_ret
    exact tells_no rfl
  by_cases c4 : 1048576 < (lt : Int) + ls
  · go_enter Try.func11, Try.ntmps11
    go_wp2
    refine wp_loop_rounds 1 ?_
    rw [rounds_succ]
    go_wp2
    go_ret
    exact tells_no rfl
  go_enter Try.func11, Try.ntmps11
  go_wp2
  refine wp_loop_rounds 1 ?_
  rw [rounds_succ]
  go_wp2
  go_ret
  exact tells_yes rfl ⟨by omega, by omega⟩

set_option maxRecDepth 100000 in
set_option maxHeartbeats 1600000 in
theorem bytes_far (n cap lt ct ls cs : Nat) (a at_ as_ : Option Addr) (width rows last : Int) (w : World) {A : Prop} (hn : 1048576 < n) (hm : n ≤ maxLen) :
    Calls Try.prog 11 #[.int .i64 width, .slice a n cap, .slice at_ lt ct, .slice as_ ls cs, .int .i64 rows, .int .i64 last] w (Tells (fun w' => w' = w) A) := by
  unfold maxLen at hm
  go_enter Try.func11, Try.ntmps11
  go_wp2
  go_ret
  exact tells_no rfl

theorem cells2_of {w : World} {lo hi b off n : Nat} {T : Nat → ByteArray} {Y : Nat → Nat} {Z : Nat → Nat → Int} (h : ∀ i, i < n → w.cell? ⟨b, off + i * 2, none⟩ = some (.string (T i)) ∧ ∃ vi, w.cell? ⟨b, off + i * 2 + 1, none⟩ = some vi ∧ IsBy w lo hi vi (Y i) (Z i)) : Cells2 w b off n T Y := by
  intro i hi
  obtain ⟨h1, vi, h2, a, c, rfl, _⟩ := h i hi
  exact ⟨h1, a, c, h2⟩

theorem bytes_of {w : World} {lo hi n cap lt ct ls cs : Nat} {a at_ as_ : Option Addr} {width rows last : Int} {T : Nat → ByteArray} {Y : Nat → Nat} {Z : Nat → Nat → Int} (hn : n ≤ maxLen) (hlt : lt ≤ maxLen) (hls : ls ≤ maxLen) (hm : ∀ i, i < n → (T i).size ≤ maxLen ∧ Y i ≤ maxLen) (hC : Chs w lo hi (.slice a n cap) n T Y Z) :
    Calls Try.prog 11 #[.int .i64 width, .slice a n cap, .slice at_ lt ct, .slice as_ ls cs, .int .i64 rows, .int .i64 last] w (Tells (fun w' => w' = w) (lt ≤ 1048576 ∧ ls ≤ 1048576 ∧ n ≤ 1048576 ∧ ∀ i, i < n → (T i).size ≤ 1048576 ∧ Y i ≤ 1048576)) := by
  obtain ⟨_, _, e, hC⟩ := hC
  cases e
  by_cases h1 : 1048576 < n
  · exact bytes_far n cap lt ct ls cs a at_ as_ width rows last w h1 hn
  by_cases h0 : n = 0
  · subst h0
    refine (bytes_none cap lt ct ls cs a at_ as_ width rows last w hlt hls).mono ?_
    rintro e w' ⟨h, r, h2, h3⟩
    exact ⟨h, r, h2, fun hr => ⟨(h3 hr).1, (h3 hr).2, Nat.zero_le _, fun i hi => absurd hi (Nat.not_lt_zero _)⟩⟩
  · rcases hC with hC | ⟨b, off, rfl, _, _, hC⟩
    · exact absurd hC h0
    refine (bytes_some b off n cap lt ct ls cs at_ as_ width rows last T Y w (by omega) (by omega) hlt hls hm (cells2_of hC)).mono ?_
    rintro e w' ⟨h, r, h2, h3⟩
    exact ⟨h, r, h2, fun hr => ⟨(h3 hr).1, (h3 hr).2.1, by omega, (h3 hr).2.2⟩⟩

end Go.Proofs.Qxb6602660a
