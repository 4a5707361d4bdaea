/-
  'zzCopyBytes_table_b1' (14), 'zzBytesEq_table_b1' (21).
-/
import Derived.Test.Qxb6602660aMem
import Derived.WalkSpells
namespace Go.Proofs.Qxb6602660a
open Go.RowKit

def u8F (z : Nat → Int) (k : Nat) : Nat → Value := fun t => .int .u8 (if t < k then z t else 0)
def u8R (z : Nat → Int) : Nat → Value := fun t => .int .u8 (z t)

theorem Try.info5 : (Try.prog.info? 5).map (fun i => (i.zero, i.size, i.bytes)) = some (some (.int .u8 0), 1, 1) := by kernel_rfl

theorem u8_start (w : World) (z : Nat → Int) (len : Nat) : Holds (w.alloc (.cells (madeCells #[.int .u8 0] len) 5)) w.heap.size 0 len (u8F z 0) := by
  have := holds_new w (madeCells #[.int .u8 0] len) 5 (u8F z 0) (by
    intro i hi
    have hi' : i < len := by simpa [madeCells] using hi
    simp [madeCells, hi', u8F, Nat.mod_one])
  have hs : (madeCells #[.int .u8 0] len).size = len := by simp [madeCells]
  rw [hs] at this
  exact this

set_option maxHeartbeats 800000 in
theorem copyBy_some (b off len cap : Nat) (z : Nat → Int) (w : World) (hl : len ≤ 1048576) (hc : ∀ i, i < len → w.cell? ⟨b, off + i, none⟩ = some (.int .u8 (z i))) (hbw : b < w.heap.size) :
    Calls Try.prog 14 #[.slice (some ⟨b, off, none⟩) len cap] w fun e w' => e = .returned (.slice (some ⟨w.heap.size, 0, none⟩) len len) ∧ Holds w' w.heap.size 0 len (u8R z) ∧ Below w.heap.size w w' ∧ w'.heap.size = w.heap.size + 1 := by
  have hnn := fun w => Lib.run_eql_slice_nil (P := Try.prog) w 26 5 (some ⟨b, off, none⟩) len cap 0 0 Try.underlying26
  obtain ⟨i5, hi5, hz0, hz1, hz2⟩ := info_parts Try.info5
  have hmk : ∀ w, (Instr.makeSlice 26 (.int .i64 (len : Int)) (.int .i64 (len : Int))).run Try.prog w = .ok (.slice (some ⟨w.heap.size, 0, none⟩) len len) (w.alloc (.cells (madeCells #[.int .u8 0] len) 5)) := fun w => by
    have := run_make (P := Try.prog) w 26 5 i5 _ Try.underlying26 hi5 hz0 .i64 .i64 (len : Int) (len : Int) (by omega) (by omega) (by rw [hz2]; omega) (by omega)
    simpa [hz1, Value.cells] using this
  have HC := hid hc
  clear hc hz0 hz1 hz2 hi5
  go_enter Try.func14, Try.ntmps14
  go_wp2
  clear hmk hnn
  go_loopw [4] (fun i wr => ∃ k : Nat, k ≤ len ∧ i = .int .i64 k ∧ Hid (Holds wr w.heap.size 0 len (u8F z k)) ∧ Hid (Below w.heap.size w wr) ∧ Hid (wr.heap.size = w.heap.size + 1)) (fun i _ => len - (intOf i).toNat)
  case atStart => exact ⟨0, Nat.zero_le _, rfl, u8_start w z len, (Below.refl _ _).alloc (Nat.le_refl _) _, hid (by simp)⟩
  case round =>
    obtain ⟨k, hk, rfl, HH, HB, HS⟩ := hrel
    by_cases hlt : k < len
    · have g0 : wr.cell? ⟨b, off + k, none⟩ = some (.int .u8 (z k)) := by
        rw [HB.out.cell (p := ⟨b, off + k, none⟩) hbw]
        exact HC.out k hlt
      have q0 := HH.out.cell k hlt
      have z0 := HH.out.free k hlt
      rw [Nat.zero_add] at q0 z0
      have hn := hid ((HH.out.set k hlt (.int .u8 (z k))).congr (G := u8F z (k + 1)) (fun t ht => by
        unfold upd u8F
        by_cases e : t = k
        · subst e; simp
        · simp only [e, if_false]
          by_cases e2 : t < k
          · rw [if_pos e2, if_pos (by omega)]
          · rw [if_neg e2, if_neg (by omega)]))
      rw [Nat.zero_add] at hn
      obtain ⟨zk, hzk⟩ : ∃ zk, zk = z k := ⟨_, rfl⟩
      rw [← hzk] at g0 hn
      have HB' : Hid (Below w.heap.size w (wr.setCell ⟨w.heap.size, k, none⟩ (.int .u8 zk))) := HB.out.setCell (Nat.le_refl _) _
      have HS' : Hid ((wr.setCell ⟨w.heap.size, k, none⟩ (.int .u8 zk)).heap.size = w.heap.size + 1) := by
        have := HS.out
        exact (show _ = _ by simpa [World.setCell] using this)
      clear hzk
      go_wp2
      go_roundw
      case rel => exact ⟨k + 1, by omega, rfl, hn, HB', HS'⟩
      case measure => simp [intOf]; omega
    · have hkl : k = len := by omega
      subst hkl
      have HX := hid (HH.out.congr (G := u8R z) (fun t ht => by unfold u8F u8R; rw [if_pos ht]))
      go_wp2
      go_ret
      exact ⟨rfl, HX.out, HB.out, HS.out⟩

end Go.Proofs.Qxb6602660a
