/-
  'string(b)' of a byte slice; an empty row buffer made.
-/
import Derived.Test.Qxb6602660aMake
import Derived.Laws.BytesArg
namespace Go.Proofs.Qxb6602660a
open Go.RowKit

/-- The first len of the bytes z, as a string. -/
def strZ (z : Nat → Int) (len : Nat) : ByteArray := strOfNums ((List.range len).map z)

theorem conv_of {w : World} {lo hi : Nat} {v : Value} {len : Nat} {z : Nat → Int} (h : IsBy w lo hi v len z) : (convert 26 9 v).run Try.prog w = .ok (.string (strZ z len)) w := by
  obtain ⟨a, cap, rfl, h⟩ := h
  by_cases h0 : len = 0
  · subst h0
    have e : strZ z 0 = ByteArray.empty := rfl
    rw [e]
    cases a with
    | none => exact run_convert_bytes_nil w 26 5 Try.underlying26 Try.underlying5 0 cap 9 Try.underlying9
    | some x => exact run_convert_bytes_back w 26 9 5 x cap [] Try.underlying26 Try.underlying5 Try.underlying9 (fun j hj => absurd hj (by simp))
  · rcases h with h | ⟨b, off, rfl, _, _, h3⟩
    · exact absurd h h0
    · exact run_convert_bytes_arg w 26 5 Try.underlying26 Try.underlying5 b off len cap ((List.range len).map z) (by simp) (fun i hi => by rw [h3 i hi]; simp [hi]) 9 Try.underlying9

set_option maxRecDepth 100000 in
set_option maxHeartbeats 1600000 in
theorem make_none (lt ls ct cs : Nat) (bt bs at_ as_ : Option Addr) (width rows last : Int) (w : World) :
    Calls Try.prog 15 #[.int .i64 width, .slice bt 0 ct, .slice bs 0 cs, .slice at_ lt lt, .slice as_ ls ls, .int .i64 rows, .int .i64 last] w fun e w' =>
      ∃ P, e = .returned (.pointer (some ⟨P, 0, none⟩)) ∧ w.heap.size < P ∧ P < w'.heap.size ∧ Holds w' P 0 6 (rbF width (.slice (some ⟨w.heap.size, 0, none⟩) 0 0) (.slice at_ lt lt) (.slice as_ ls ls) rows last) ∧ Below w.heap.size w w' := by
  obtain ⟨i46, hi46, hz0, hz1, hz2⟩ := info_parts Try.info46
  have hmk : ∀ w, (Instr.makeSlice 44 (.int .i64 0) (.int .i64 0)).run Try.prog w = .ok (.slice (some ⟨w.heap.size, 0, none⟩) 0 0) (w.alloc (.cells (madeCells #[.string ByteArray.empty, .slice none 0 0] (0 * 2)) 46)) := fun w => by
    have := run_make (P := Try.prog) w 44 46 i46 _ Try.underlying44 hi46 hz0 .i64 .i64 (0 : Int) (0 : Int) (by omega) (by omega) (by rw [hz2]; omega) (by omega)
    simpa [hz1, Value.cells] using this
  clear hz0 hz1 hz2 hi46
  go_enter Try.func15, Try.ntmps15
  go_wp2
  refine wp_loop_rounds 1 ?_
  rw [rounds_succ]
  go_wp2
  go_ret
  have hr := rb_new (w.alloc (.cells (madeCells #[.string ByteArray.empty, .slice none 0 0] (0 * 2)) 46)) width rows last (.slice (some ⟨w.heap.size, 0, none⟩) 0 0) (.slice at_ lt lt) (.slice as_ ls ls)
  rw [World.size_alloc] at hr
  exact ⟨_, rfl, by omega, by simp, hr, ((Below.refl _ _).alloc (Nat.le_refl _) _).alloc (by simp) _⟩

end Go.Proofs.Qxb6602660a
