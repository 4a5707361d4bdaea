/-
  'simB1CopyU16' (function 13).
-/
import Derived.Test.Qxb6600900aMem
import Derived.WalkSpells
namespace Go.Proofs.Qxb6600900a
open Go.RowKit

def u16F (z : Nat → Int) (k : Nat) : Nat → Value := fun t => .int .u16 (if t < k then z t else 0)

theorem Try.info40 : (Try.prog.info? 40).map (fun i => (i.zero, i.size, i.bytes)) = some (some (.int .u16 0), 1, 2) := by kernel_rfl

theorem u16_start (w : World) (z : Nat → Int) (len : Nat) : Holds (w.alloc (.cells (madeCells #[.int .u16 0] len) 40)) w.heap.size 0 len (u16F z 0) := by
  have := holds_new w (madeCells #[.int .u16 0] len) 40 (u16F z 0) (by
    intro i hi
    have hi' : i < len := by simpa [madeCells] using hi
    simp [madeCells, hi', u16F, Nat.mod_one])
  have hs : (madeCells #[.int .u16 0] len).size = len := by simp [madeCells]
  rw [hs] at this
  exact this

set_option maxHeartbeats 800000 in
theorem copyU_some (b off len cap : Nat) (z : Nat → Int) (w : World) (hl : len ≤ 1048576) (hc : ∀ i, i < len → w.cell? ⟨b, off + i, none⟩ = some (.int .u16 (z i))) (hbw : b < w.heap.size) :
    Calls Try.prog 13 #[.slice (some ⟨b, off, none⟩) len cap] w fun e w' => e = .returned (.slice (some ⟨w.heap.size, 0, none⟩) len len) ∧ Holds w' w.heap.size 0 len (fun t => .int .u16 (z t)) ∧ Below w.heap.size w w' := by
  have hnn := fun w => Lib.run_eql_slice_nil (P := Try.prog) w 38 40 (some ⟨b, off, none⟩) len cap 0 0 Try.underlying38
  obtain ⟨i40, hi40, hz0, hz1, hz2⟩ := info_parts Try.info40
  have hmk : ∀ w, (Instr.makeSlice 38 (.int .i64 (len : Int)) (.int .i64 (len : Int))).run Try.prog w = .ok (.slice (some ⟨w.heap.size, 0, none⟩) len len) (w.alloc (.cells (madeCells #[.int .u16 0] len) 40)) := fun w => by
    have := run_make (P := Try.prog) w 38 40 i40 _ Try.underlying38 hi40 hz0 .i64 .i64 (len : Int) (len : Int) (by omega) (by omega) (by rw [hz2]; omega) (by omega)
    simpa [hz1, Value.cells] using this
  have HC := hid hc
  clear hc hz0 hz1 hz2 hi40
  go_enter Try.func13, Try.ntmps13
  go_wp2
  clear hmk hnn
  go_loopw [4] (fun i wr => ∃ k : Nat, k ≤ len ∧ i = .int .i64 k ∧ Hid (Holds wr w.heap.size 0 len (u16F z k)) ∧ Hid (Below w.heap.size w wr)) (fun i _ => len - (intOf i).toNat)
  case atStart => exact ⟨0, Nat.zero_le _, rfl, u16_start w z len, (Below.refl _ _).alloc (Nat.le_refl _) _⟩
  case round =>
    obtain ⟨k, hk, rfl, HH, HB⟩ := hrel
    by_cases hlt : k < len
    · have g0 : wr.cell? ⟨b, off + k, none⟩ = some (.int .u16 (z k)) := by
        rw [HB.out.cell (p := ⟨b, off + k, none⟩) hbw]
        exact HC.out k hlt
      have q0 := HH.out.cell k hlt
      have z0 := HH.out.free k hlt
      rw [Nat.zero_add] at q0 z0
      have hn := hid ((HH.out.set k hlt (.int .u16 (z k))).congr (G := u16F z (k + 1)) (fun t ht => by
        unfold upd u16F
        by_cases e : t = k
        · subst e; simp
        · simp only [e, if_false]
          by_cases e2 : t < k
          · rw [if_pos e2, if_pos (by omega)]
          · rw [if_neg e2, if_neg (by omega)]))
      rw [Nat.zero_add] at hn
      obtain ⟨zk, hzk⟩ : ∃ zk, zk = z k := ⟨_, rfl⟩
      rw [← hzk] at g0 hn
      have HB' : Hid (Below w.heap.size w (wr.setCell ⟨w.heap.size, k, none⟩ (.int .u16 zk))) := HB.out.setCell (Nat.le_refl _) _
      clear hzk
      go_wp2
      go_roundw
      case rel => exact ⟨k + 1, by omega, rfl, hn, HB'⟩
      case measure => simp [intOf]; omega
    · have hkl : k = len := by omega
      subst hkl
      have HX := hid (HH.out.congr (G := fun t => .int .u16 (z t)) (fun t ht => by unfold u16F; rw [if_pos ht]))
      go_wp2
      go_ret
      exact ⟨rfl, HX.out, HB.out⟩

set_option maxHeartbeats 800000 in
theorem copyU_empty (x : Addr) (cap : Nat) (w : World) :
    Calls Try.prog 13 #[.slice (some x) 0 cap] w fun e w' => ∃ a' c', e = .returned (.slice a' 0 c') ∧ Below w.heap.size w w' := by
  have hnn := fun w => Lib.run_eql_slice_nil (P := Try.prog) w 38 40 (some x) 0 cap 0 0 Try.underlying38
  obtain ⟨i40, hi40, hz0, hz1, hz2⟩ := info_parts Try.info40
  have hmk : ∀ w, (Instr.makeSlice 38 (.int .i64 0) (.int .i64 0)).run Try.prog w = .ok (.slice (some ⟨w.heap.size, 0, none⟩) 0 0) (w.alloc (.cells (madeCells #[.int .u16 0] 0) 40)) := fun w => by
    have := run_make (P := Try.prog) w 38 40 i40 _ Try.underlying38 hi40 hz0 .i64 .i64 (0 : Int) (0 : Int) (by omega) (by omega) (by rw [hz2]; omega) (by omega)
    simpa [hz1, Value.cells] using this
  clear hz0 hz1 hz2 hi40
  go_enter Try.func13, Try.ntmps13
  go_wp2
  refine wp_loop_rounds 1 ?_
  rw [rounds_succ]
  go_wp2
  go_ret
  exact ⟨_, _, rfl, (Below.refl _ _).alloc (Nat.le_refl _) _⟩

set_option maxHeartbeats 800000 in
theorem copyU_nil (cap : Nat) (w : World) :
    Calls Try.prog 13 #[.slice none 0 cap] w fun e w' => ∃ a' c', e = .returned (.slice a' 0 c') ∧ Below w.heap.size w w' := by
  have hnn := fun w => Lib.run_eql_slice_nil (P := Try.prog) w 38 40 none 0 cap 0 0 Try.underlying38
  go_enter Try.func13, Try.ntmps13
  go_wp2
  go_ret
  exact ⟨_, _, rfl, Below.refl _ _⟩

theorem copyU_zero (a : Option Addr) (cap : Nat) (w : World) : Calls Try.prog 13 #[.slice a 0 cap] w fun e w' => ∃ a' c', e = .returned (.slice a' 0 c') ∧ Below w.heap.size w w' := by
  cases a with
  | none => exact copyU_nil cap w
  | some x => exact copyU_empty x cap w

end Go.Proofs.Qxb6600900a
