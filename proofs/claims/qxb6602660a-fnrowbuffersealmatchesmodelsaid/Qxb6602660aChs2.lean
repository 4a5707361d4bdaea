/-
  'zzCopyChunks_table_b1' (13) whole; 'zzChunkTexts_table_b1' (16); 'zzChunkSizes_table_b1' (17).
-/
import Derived.Test.Qxb6602660aChs
namespace Go.Proofs.Qxb6602660a
open Go.RowKit

set_option maxHeartbeats 800000 in
theorem copyChs_empty (x : Addr) (cap : Nat) (w : World) :
    Calls Try.prog 13 #[.slice (some x) 0 cap] w fun e w' => ∃ a, e = .returned (.slice a 0 0) ∧ Below w.heap.size w w' := by
  have hnn := fun w => Lib.run_eql_slice_nil (P := Try.prog) w 25 43 (some x) 0 cap 0 0 Try.underlying25
  obtain ⟨i43, hi43, hz0, hz1, hz2⟩ := info_parts Try.info43
  have hmk : ∀ w, (Instr.makeSlice 25 (.int .i64 0) (.int .i64 0)).run Try.prog w = .ok (.slice (some ⟨w.heap.size, 0, none⟩) 0 0) (w.alloc (.cells (madeCells #[.string ByteArray.empty, .slice none 0 0] (0 * 2)) 43)) := fun w => by
    have := run_make (P := Try.prog) w 25 43 i43 _ Try.underlying25 hi43 hz0 .i64 .i64 (0 : Int) (0 : Int) (by omega) (by omega) (by rw [hz2]; omega) (by omega)
    simpa [hz1, Value.cells] using this
  clear hz0 hz1 hz2 hi43
  go_enter Try.func13, Try.ntmps13
  go_wp2
  refine wp_loop_rounds 1 ?_
  rw [rounds_succ]
  go_wp2
  go_ret
  exact ⟨_, rfl, (Below.refl _ _).alloc (Nat.le_refl _) _⟩

set_option maxHeartbeats 800000 in
theorem copyChs_nil (cap : Nat) (w : World) :
    Calls Try.prog 13 #[.slice none 0 cap] w fun e w' => ∃ a, e = .returned (.slice a 0 0) ∧ Below w.heap.size w w' := by
  have hnn := fun w => Lib.run_eql_slice_nil (P := Try.prog) w 25 43 none 0 cap 0 0 Try.underlying25
  go_enter Try.func13, Try.ntmps13
  go_wp2
  go_ret
  exact ⟨_, rfl, Below.refl _ _⟩

/-- A slice of chunks, its capacity its length. -/
def ChsL (w : World) (lo hi : Nat) (v : Value) (n : Nat) (T : Nat → ByteArray) (Y : Nat → Nat) (Z : Nat → Nat → Int) : Prop :=
  ∃ a, v = .slice a n n ∧ Chs w lo hi v n T Y Z

theorem chs_of_cp {w wr : World} {n : Nat} {T : Nat → ByteArray} {Y : Nat → Nat} {Z : Nat → Nat → Int} (h : CpI w n T Y Z n wr) : ChsL wr w.heap.size wr.heap.size (.slice (some ⟨w.heap.size, 0, none⟩) n n) n T Y Z := by
  obtain ⟨V, h1, h2, h3, h4⟩ := h
  refine ⟨_, rfl, _, _, rfl, .inr ⟨w.heap.size, 0, rfl, Nat.le_refl _, h4, fun i hi => ?_⟩⟩
  have c0 := h1.cell (i * 2) (by omega)
  have c1 := h1.cell (i * 2 + 1) (by omega)
  refine ⟨?_, V i, ?_, (h2 i hi).wide (by omega) (Nat.le_refl _)⟩
  · rw [c0]; unfold chF; rw [if_pos (by omega), if_pos (by omega), show i * 2 / 2 = i by omega]
  · rw [Nat.add_assoc, c1]; unfold chF; rw [if_pos (by omega), if_neg (by omega), show (i * 2 + 1) / 2 = i by omega]

theorem copyChs_of {w : World} {v : Value} {n : Nat} {T : Nat → ByteArray} {Y : Nat → Nat} {Z : Nat → Nat → Int} (hn : n ≤ 65536) (hY : ∀ i, i < n → Y i ≤ 1048576) (h : Chs w 0 w.heap.size v n T Y Z) :
    Calls Try.prog 13 #[v] w fun e w' => ∃ a', e = .returned (.slice a' n n) ∧ Chs w' w.heap.size w'.heap.size (.slice a' n n) n T Y Z ∧ Below w.heap.size w w' := by
  obtain ⟨a, ca, rfl, h⟩ := h
  by_cases h0 : n = 0
  · subst h0
    cases a with
    | none =>
      refine (copyChs_nil ca w).mono ?_
      rintro e w' ⟨a', rfl, hB⟩
      exact ⟨a', rfl, ⟨_, _, rfl, .inl rfl⟩, hB⟩
    | some x =>
      refine (copyChs_empty x ca w).mono ?_
      rintro e w' ⟨a', rfl, hB⟩
      exact ⟨a', rfl, ⟨_, _, rfl, .inl rfl⟩, hB⟩
  · rcases h with h | ⟨b, off, rfl, _, h2, h3⟩
    · exact absurd h h0
    · refine (copyChs_some b off n ca T Y Z w hn hY h2 h3).mono ?_
      rintro e w' ⟨rfl, hI⟩
      obtain ⟨_, _, hc⟩ := chs_of_cp hI
      exact ⟨_, rfl, hc, by obtain ⟨_, _, _, hB, _⟩ := hI; exact hB⟩

end Go.Proofs.Qxb6602660a
