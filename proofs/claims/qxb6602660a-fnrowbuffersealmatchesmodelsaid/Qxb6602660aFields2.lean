/-
  'table.ZZRowBufferFields' (19) whole.
-/
import Derived.Test.Qxb6602660aFields
namespace Go.Proofs.Qxb6602660a
open Go.RowKit

set_option maxRecDepth 100000 in
set_option maxHeartbeats 1600000 in
theorem fields_none (P cc l1 c1 l2 c2 : Nat) (ca at_ as_ : Option Addr) (width rows last : Int) (w : World)
    (hH : Holds w P 0 6 (rbF width (.slice ca 0 cc) (.slice at_ l1 c1) (.slice as_ l2 c2) rows last)) :
    Calls Try.prog 19 #[.pointer (some ⟨P, 0, none⟩)] w fun e w' => e = .returned (.tuple #[.int .i64 width, .slice (some ⟨w.heap.size, 0, none⟩) 0 0, .slice (some ⟨w.heap.size + 1, 0, none⟩) 0 0, .slice at_ l1 c1, .slice as_ l2 c2, .int .i64 rows, .int .i64 last]) ∧ Below w.heap.size w w' := by
  obtain ⟨i9, hi9, hz0, hz1, hz2⟩ := info_parts Try.info9
  have hmk : ∀ w, (Instr.makeSlice 33 (.int .i64 0) (.int .i64 0)).run Try.prog w = .ok (.slice (some ⟨w.heap.size, 0, none⟩) 0 0) (w.alloc (.cells (madeCells #[.string ByteArray.empty] 0) 9)) := fun w => by
    have := run_make (P := Try.prog) w 33 9 i9 _ Try.underlying33 hi9 hz0 .i64 .i64 (0 : Int) (0 : Int) (by omega) (by omega) (by rw [hz2]; omega) (by omega)
    simpa [hz1, Value.cells] using this
  clear hz0 hz1 hz2 hi9
  obtain ⟨i26, hi26, hz0, hz1, hz2⟩ := info_parts Try.info26
  have hmk2 : ∀ w, (Instr.makeSlice 35 (.int .i64 0) (.int .i64 0)).run Try.prog w = .ok (.slice (some ⟨w.heap.size, 0, none⟩) 0 0) (w.alloc (.cells (madeCells #[.slice none 0 0] 0) 26)) := fun w => by
    have := run_make (P := Try.prog) w 35 26 i26 _ Try.underlying35 hi26 hz0 .i64 .i64 (0 : Int) (0 : Int) (by omega) (by omega) (by rw [hz2]; omega) (by omega)
    simpa [hz1, Value.cells] using this
  clear hz0 hz1 hz2 hi26
  have hPw : P < w.heap.size := hH.lt (by omega)
  obtain ⟨wb, hwb⟩ : ∃ wb, wb = (w.alloc (.cells (madeCells #[.string ByteArray.empty] 0) 9)).alloc (.cells (madeCells #[.slice none 0 0] 0) 26) := ⟨_, rfl⟩
  have hBb : Below w.heap.size w wb := by rw [hwb]; exact ((Below.refl _ _).alloc (Nat.le_refl _) _).alloc (by simp) _
  have HB := hid hBb
  have HW := hid hwb
  have p1 : w.cell? ⟨P, 1, none⟩ = some (.slice ca 0 cc) := hH.cell 1 (by omega)
  have p1' : (w.alloc (.cells (madeCells #[.string ByteArray.empty] 0) 9)).cell? ⟨P, 1, none⟩ = some (.slice ca 0 cc) := ((hH.alloc _).cell 1 (by omega))
  have q0 : wb.cell? ⟨P, 0, none⟩ = some (.int .i64 width) := (hBb.cell (p := ⟨P, 0, none⟩) hPw).trans (hH.cell 0 (by omega))
  have q1 : wb.cell? ⟨P, 1, none⟩ = some (.slice ca 0 cc) := (hBb.cell (p := ⟨P, 1, none⟩) hPw).trans p1
  have q2 : wb.cell? ⟨P, 2, none⟩ = some (.slice at_ l1 c1) := (hBb.cell (p := ⟨P, 2, none⟩) hPw).trans (hH.cell 2 (by omega))
  have q3 : wb.cell? ⟨P, 3, none⟩ = some (.slice as_ l2 c2) := (hBb.cell (p := ⟨P, 3, none⟩) hPw).trans (hH.cell 3 (by omega))
  have q4 : wb.cell? ⟨P, 4, none⟩ = some (.int .i64 rows) := (hBb.cell (p := ⟨P, 4, none⟩) hPw).trans (hH.cell 4 (by omega))
  have q5 : wb.cell? ⟨P, 5, none⟩ = some (.int .i64 last) := (hBb.cell (p := ⟨P, 5, none⟩) hPw).trans (hH.cell 5 (by omega))
  clear hH hBb hwb
  go_enter Try.func19, Try.ntmps19
  go_wp2
  rw [← HW.out]
  refine wp_loop_rounds 1 ?_
  rw [rounds_succ]
  go_wp2_with fail
  go_quiet (fail)
  go_wp2
  exact bodyPost_ret (v := .tuple #[.int .i64 width, .slice (some ⟨w.heap.size, 0, none⟩) 0 0, .slice (some ⟨w.heap.size + 1, 0, none⟩) 0 0, .slice at_ l1 c1, .slice as_ l2 c2, .int .i64 rows, .int .i64 last]) (by simp [results, Try.results19, go_sem]) rfl ⟨rfl, below_drewN HB.out nq⟩

theorem fields_of {w : World} {lo hi P n cc l1 c1 l2 c2 : Nat} {ca at_ as_ : Option Addr} {width rows last : Int} {T : Nat → ByteArray} {Y : Nat → Nat} {Z : Nat → Nat → Int} (hn : n ≤ 65537) (hhi : hi ≤ w.heap.size) (hlo : lo ≤ w.heap.size)
    (hH : Holds w P 0 6 (rbF width (.slice ca n cc) (.slice at_ l1 c1) (.slice as_ l2 c2) rows last)) (hC : Chs w lo hi (.slice ca n cc) n T Y Z) :
    Calls Try.prog 19 #[.pointer (some ⟨P, 0, none⟩)] w fun e w' => ∃ ga gb, e = .returned (.tuple #[.int .i64 width, .slice ga n n, .slice gb n n, .slice at_ l1 c1, .slice as_ l2 c2, .int .i64 rows, .int .i64 last]) ∧
      Strs w' w.heap.size w'.heap.size (.slice ga n n) n T ∧ Bss w' lo w'.heap.size (.slice gb n n) n Y Z ∧ Below w.heap.size w w' := by
  obtain ⟨_, _, e, hC⟩ := hC
  cases e
  by_cases h0 : n = 0
  · subst h0
    refine (fields_none P cc l1 c1 l2 c2 ca at_ as_ width rows last w hH).mono ?_
    rintro e w' ⟨rfl, hB⟩
    exact ⟨_, _, rfl, ⟨_, _, rfl, .inl rfl⟩, ⟨_, _, rfl, .inl rfl⟩, hB⟩
  · rcases hC with hC | ⟨cb, off, rfl, _, hcb, hC⟩
    · exact absurd hC h0
    obtain ⟨V, hV⟩ := pick_lt (fun i hi => (hC i hi).2)
    refine (fields_some P cb off n cc l1 c1 l2 c2 at_ as_ width rows last T V w hn (by omega) hH (fun i hi => (hC i hi).1) (fun i hi => (hV i hi).1) (fun i hi => isBy_slice (hV i hi).2)).mono ?_
    rintro e w' ⟨rfl, h1, h2, h3, h4⟩
    refine ⟨_, _, rfl, ⟨_, _, rfl, .inr ⟨_, _, rfl, Nat.le_refl _, by omega, fun i hi => ?_⟩⟩, ⟨_, _, rfl, .inr ⟨_, _, rfl, by omega, h4, fun i hi => ⟨V i, ?_, ?_⟩⟩⟩, h3⟩
    · rw [h1.cell i hi]; unfold stF; rw [if_pos hi]
    · rw [h2.cell i hi]; unfold szF; rw [if_pos hi]
    · exact ((hV i hi).2.agree (Agree.of_below h3 hhi)).wide (Nat.le_refl _) (by omega)

end Go.Proofs.Qxb6602660a
