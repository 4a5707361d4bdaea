import Derived.Test.Qxb6600900aBatches
import Derived.WalkSpells
namespace Go.Proofs.Qxb6600900a
open Go.RowKit
attribute [local go_sem] run_store_float

/-- The batches' cells, one behind the other. -/
def bcell (B : Nat → Batch) (t : Nat) : Value := (B (t / 6)).cells.getD (t % 6) (.int .u64 0)
def zbatch : Batch := ⟨0, 0, 0, 0, 0, 0⟩

/-- The first k batches are copied; the rest are zero. -/
def copyF (B : Nat → Batch) (k : Nat) : Nat → Value := fun t => if t < k * 6 then bcell B t else bcell (fun _ => zbatch) t

theorem Try.info36 : (Try.prog.info? 36).map (fun i => (i.zero, i.size, i.bytes)) = some (some (.agg #[.int .u64 0, .float .f64 0, .float .f64 0, .float .f64 0, .float .f64 0, .float .f64 0]), 6, 48) := by kernel_rfl

theorem bcell_at (B : Nat → Batch) (k j : Nat) (hj : j < 6) : bcell B (k * 6 + j) = (B k).cells.getD j (.int .u64 0) := by
  unfold bcell
  rw [show (k * 6 + j) / 6 = k by omega, show (k * 6 + j) % 6 = j by omega]

theorem copy_start (w : World) (B : Nat → Batch) (len : Nat) : Holds (w.alloc (.cells (madeCells #[.int .u64 0, .float .f64 0, .float .f64 0, .float .f64 0, .float .f64 0, .float .f64 0] (len * 6)) 36)) w.heap.size 0 (len * 6) (copyF B 0) := by
  have := holds_new w (madeCells #[.int .u64 0, .float .f64 0, .float .f64 0, .float .f64 0, .float .f64 0, .float .f64 0] (len * 6)) 36 (copyF B 0) (by
    intro i hi
    have hi' : i < len * 6 := by simpa [madeCells] using hi
    unfold copyF
    rw [if_neg (by omega)]
    simp [madeCells, hi']
    unfold bcell Batch.cells zbatch
    rcases (show i % 6 = 0 ∨ i % 6 = 1 ∨ i % 6 = 2 ∨ i % 6 = 3 ∨ i % 6 = 4 ∨ i % 6 = 5 by omega) with h | h | h | h | h | h <;> rw [h] <;> simp)
  have hs : (madeCells #[.int .u64 0, .float .f64 0, .float .f64 0, .float .f64 0, .float .f64 0, .float .f64 0] (len * 6)).size = len * 6 := by simp [madeCells]
  rw [hs] at this
  exact this

theorem copy_step {w : World} {b n : Nat} (B : Nat → Batch) (k : Nat) (h : Holds w b 0 n (copyF B k)) (hk : k * 6 + 6 ≤ n) (x : Batch) (hx : x = B k) :
    Holds ((((((w.setCell ⟨b, k * 6, none⟩ (.int .u64 x.p)).setCell ⟨b, k * 6 + 1, none⟩ (.float .f64 x.u)).setCell ⟨b, k * 6 + 2, none⟩ (.float .f64 x.c0)).setCell ⟨b, k * 6 + 3, none⟩ (.float .f64 x.c1)).setCell ⟨b, k * 6 + 4, none⟩ (.float .f64 x.e0)).setCell ⟨b, k * 6 + 5, none⟩ (.float .f64 x.e1)) b 0 n (copyF B (k + 1)) := by
  have h1 := (((((h.set (k * 6) (by omega) (.int .u64 x.p)).set (k * 6 + 1) (by omega) (.float .f64 x.u)).set (k * 6 + 2) (by omega) (.float .f64 x.c0)).set (k * 6 + 3) (by omega) (.float .f64 x.c1)).set (k * 6 + 4) (by omega) (.float .f64 x.e0)).set (k * 6 + 5) (by omega) (.float .f64 x.e1)
  simp only [Nat.zero_add] at h1
  refine h1.congr ?_
  intro t ht
  have e0 := bcell_at B k 0 (by omega)
  have e1 := bcell_at B k 1 (by omega)
  have e2 := bcell_at B k 2 (by omega)
  have e3 := bcell_at B k 3 (by omega)
  have e4 := bcell_at B k 4 (by omega)
  have e5 := bcell_at B k 5 (by omega)
  rw [← hx] at e0 e1 e2 e3 e4 e5
  simp only [Nat.add_zero] at e0
  unfold copyF upd
  by_cases c5 : t = k * 6 + 5
  · subst c5; rw [if_pos rfl, if_pos (by omega), e5]; rfl
  rw [if_neg c5]
  by_cases c4 : t = k * 6 + 4
  · subst c4; rw [if_pos rfl, if_pos (by omega), e4]; rfl
  rw [if_neg c4]
  by_cases c3 : t = k * 6 + 3
  · subst c3; rw [if_pos rfl, if_pos (by omega), e3]; rfl
  rw [if_neg c3]
  by_cases c2 : t = k * 6 + 2
  · subst c2; rw [if_pos rfl, if_pos (by omega), e2]; rfl
  rw [if_neg c2]
  by_cases c1 : t = k * 6 + 1
  · subst c1; rw [if_pos rfl, if_pos (by omega), e1]; rfl
  rw [if_neg c1]
  by_cases c0 : t = k * 6
  · subst c0; rw [if_pos rfl, if_pos (by omega), e0]; rfl
  rw [if_neg c0]
  by_cases c : t < k * 6
  · dsimp only; rw [if_pos c, if_pos (by omega)]
  · dsimp only; rw [if_neg c, if_neg (by omega)]

theorem copy_below {w0 w : World} {b n : Nat} (hB : Below n w0 w) (hb : n ≤ b) (k : Nat) (x : Batch) :
    Below n w0 ((((((w.setCell ⟨b, k * 6, none⟩ (.int .u64 x.p)).setCell ⟨b, k * 6 + 1, none⟩ (.float .f64 x.u)).setCell ⟨b, k * 6 + 2, none⟩ (.float .f64 x.c0)).setCell ⟨b, k * 6 + 3, none⟩ (.float .f64 x.c1)).setCell ⟨b, k * 6 + 4, none⟩ (.float .f64 x.e0)).setCell ⟨b, k * 6 + 5, none⟩ (.float .f64 x.e1)) :=
  (((((hB.setCell hb _).setCell hb _).setCell hb _).setCell hb _).setCell hb _).setCell hb _

set_option maxHeartbeats 800000 in
theorem copyB_some (b off len cap : Nat) (B : Nat → Batch) (w : World) (hl : len ≤ 1048576) (hc : ∀ i, i < len → ∀ j v, (B i).cells[j]? = some v → w.cell? ⟨b, off + (i * 6 + j), none⟩ = some v) (hbw : b < w.heap.size) :
    Calls Try.prog 11 #[.slice (some ⟨b, off, none⟩) len cap] w fun e w' => e = .returned (.slice (some ⟨w.heap.size, 0, none⟩) len len) ∧ Holds w' w.heap.size 0 (len * 6) (bcell B) ∧ Below w.heap.size w w' := by
  have hnn := fun w => Lib.run_eql_slice_nil (P := Try.prog) w 33 36 (some ⟨b, off, none⟩) len cap 0 0 Try.underlying33
  obtain ⟨i36, hi36, hz0, hz1, hz2⟩ := info_parts Try.info36
  have hmk : ∀ w, (Instr.makeSlice 33 (.int .i64 (len : Int)) (.int .i64 (len : Int))).run Try.prog w = .ok (.slice (some ⟨w.heap.size, 0, none⟩) len len) (w.alloc (.cells (madeCells #[.int .u64 0, .float .f64 0, .float .f64 0, .float .f64 0, .float .f64 0, .float .f64 0] (len * 6)) 36)) := fun w => by
    have := run_make (P := Try.prog) w 33 36 i36 _ Try.underlying33 hi36 hz0 .i64 .i64 (len : Int) (len : Int) (by omega) (by omega) (by rw [hz2]; omega) (by omega)
    simpa [hz1, Value.cells] using this
  have HC := hid hc
  clear hc hz0 hz1 hz2 hi36
  go_enter Try.func11, Try.ntmps11
  go_wp2
  clear hmk hnn
  go_loopw [4] (fun i wr => ∃ k : Nat, k ≤ len ∧ i = .int .i64 k ∧ Hid (Holds wr w.heap.size 0 (len * 6) (copyF B k)) ∧ Hid (Below w.heap.size w wr)) (fun i _ => len - (intOf i).toNat)
  case atStart => exact ⟨0, Nat.zero_le _, rfl, copy_start w B len, (Below.refl _ _).alloc (Nat.le_refl _) _⟩
  case round =>
    obtain ⟨k, hk, rfl, HH, HB⟩ := hrel
    by_cases hlt : k < len
    · obtain ⟨⟨p, u, c0, c1, e0, e1⟩, hbt⟩ : ∃ x, x = B k := ⟨_, rfl⟩
      have hcc : ∀ j v, (⟨p, u, c0, c1, e0, e1⟩ : Batch).cells[j]? = some v → wr.cell? ⟨b, off + (k * 6 + j), none⟩ = some v := by
        intro j v hv
        rw [HB.out.cell (p := ⟨b, off + (k * 6 + j), none⟩) hbw]
        rw [hbt] at hv
        exact HC.out k hlt j v hv
      have g0 : wr.cell? ⟨b, off + k * 6, none⟩ = some (.int .u64 p) := hcc 0 _ rfl
      have g1 : wr.cell? ⟨b, off + k * 6 + 1, none⟩ = some (.float .f64 u) := hcc 1 _ rfl
      have g2 : wr.cell? ⟨b, off + k * 6 + 2, none⟩ = some (.float .f64 c0) := hcc 2 _ rfl
      have g3 : wr.cell? ⟨b, off + k * 6 + 3, none⟩ = some (.float .f64 c1) := hcc 3 _ rfl
      have g4 : wr.cell? ⟨b, off + k * 6 + 4, none⟩ = some (.float .f64 e0) := hcc 4 _ rfl
      have g5 : wr.cell? ⟨b, off + k * 6 + 5, none⟩ = some (.float .f64 e1) := hcc 5 _ rfl
      have q0 := HH.out.cell (k * 6) (by omega)
      have q1 := HH.out.cell (k * 6 + 1) (by omega)
      have q2 := HH.out.cell (k * 6 + 2) (by omega)
      have q3 := HH.out.cell (k * 6 + 3) (by omega)
      have q4 := HH.out.cell (k * 6 + 4) (by omega)
      have q5 := HH.out.cell (k * 6 + 5) (by omega)
      have z0 := HH.out.free (k * 6) (by omega)
      have z1 := HH.out.free (k * 6 + 1) (by omega)
      have z2 := HH.out.free (k * 6 + 2) (by omega)
      have z3 := HH.out.free (k * 6 + 3) (by omega)
      have z4 := HH.out.free (k * 6 + 4) (by omega)
      have z5 := HH.out.free (k * 6 + 5) (by omega)
      rw [Nat.zero_add] at q0 q1 q2 q3 q4 q5 z0 z1 z2 z3 z4 z5
      have HBT := hid hbt
      clear hcc hbt
      have HH' := hid (copy_step B k HH.out (by omega) ⟨p, u, c0, c1, e0, e1⟩ HBT.out)
      have HB' := hid (copy_below HB.out (Nat.le_refl _) k ⟨p, u, c0, c1, e0, e1⟩)
      go_wp2
      go_roundw
      case rel => exact ⟨k + 1, by omega, rfl, HH', HB'⟩
      case measure => simp [intOf]; omega
    · have hkl : k = len := by omega
      subst hkl
      have HX := hid (HH.out.congr (G := bcell B) (fun t ht => by unfold copyF; rw [if_pos ht]))
      go_wp2
      go_ret
      exact ⟨rfl, HX.out, HB.out⟩

set_option maxHeartbeats 800000 in
theorem copyB_empty (x : Addr) (cap : Nat) (w : World) :
    Calls Try.prog 11 #[.slice (some x) 0 cap] w fun e w' => ∃ a' c', e = .returned (.slice a' 0 c') ∧ Below w.heap.size w w' := by
  have hnn := fun w => Lib.run_eql_slice_nil (P := Try.prog) w 33 36 (some x) 0 cap 0 0 Try.underlying33
  obtain ⟨i36, hi36, hz0, hz1, hz2⟩ := info_parts Try.info36
  have hmk : ∀ w, (Instr.makeSlice 33 (.int .i64 0) (.int .i64 0)).run Try.prog w = .ok (.slice (some ⟨w.heap.size, 0, none⟩) 0 0) (w.alloc (.cells (madeCells #[.int .u64 0, .float .f64 0, .float .f64 0, .float .f64 0, .float .f64 0, .float .f64 0] (0 * 6)) 36)) := fun w => by
    have := run_make (P := Try.prog) w 33 36 i36 _ Try.underlying33 hi36 hz0 .i64 .i64 (0 : Int) (0 : Int) (by omega) (by omega) (by rw [hz2]; omega) (by omega)
    simpa [hz1, Value.cells] using this
  clear hz0 hz1 hz2 hi36
  go_enter Try.func11, Try.ntmps11
  go_wp2
  refine wp_loop_rounds 1 ?_
  rw [rounds_succ]
  go_wp2
  go_ret
  exact ⟨_, _, rfl, (Below.refl _ _).alloc (Nat.le_refl _) _⟩

set_option maxHeartbeats 800000 in
theorem copyB_nil (cap : Nat) (w : World) :
    Calls Try.prog 11 #[.slice none 0 cap] w fun e w' => ∃ a' c', e = .returned (.slice a' 0 c') ∧ Below w.heap.size w w' := by
  have hnn := fun w => Lib.run_eql_slice_nil (P := Try.prog) w 33 36 none 0 cap 0 0 Try.underlying33
  go_enter Try.func11, Try.ntmps11
  go_wp2
  go_ret
  exact ⟨_, _, rfl, Below.refl _ _⟩

end Go.Proofs.Qxb6600900a
