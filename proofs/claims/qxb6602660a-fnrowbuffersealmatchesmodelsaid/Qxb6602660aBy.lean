/-
  Byte slices whole: copies and comparisons, nil and empty ones with them.
-/
import Derived.Test.Qxb6602660aEq
namespace Go.Proofs.Qxb6602660a
open Go.RowKit

/-- A slice of the call's own: capacity as length; its block may be written. -/
def OwnBy (w : World) (lo hi : Nat) (v : Value) (len : Nat) (z : Nat → Int) : Prop :=
  ∃ a, v = .slice a len len ∧ (len = 0 ∨ ∃ b, a = some ⟨b, 0, none⟩ ∧ lo ≤ b ∧ b < hi ∧ Holds w b 0 len (u8R z))

theorem OwnBy.by {w : World} {lo hi : Nat} {v : Value} {len : Nat} {z : Nat → Int} (h : OwnBy w lo hi v len z) : IsBy w lo hi v len z := by
  obtain ⟨a, rfl, h | ⟨b, rfl, h1, h2, h3⟩⟩ := h
  · exact ⟨a, len, rfl, .inl h⟩
  · exact ⟨_, len, rfl, .inr ⟨b, 0, rfl, h1, h2, fun i hi => (h3 i hi).1⟩⟩

/-- Worlds that agree on the blocks from lo on and below hi. -/
def Agree (lo hi : Nat) (w w' : World) : Prop := ∀ k, lo ≤ k → k < hi → w'.heap[k]? = w.heap[k]?

theorem Agree.cell {lo hi : Nat} {w w' : World} (h : Agree lo hi w w') {b q : Nat} (h1 : lo ≤ b) (h2 : b < hi) : w'.cell? ⟨b, q, none⟩ = w.cell? ⟨b, q, none⟩ := World.cell?_of_block (a := ⟨b, q, none⟩) (h b h1 h2)
theorem Agree.frozen {lo hi : Nat} {w w' : World} (h : Agree lo hi w w') {b q : Nat} (h1 : lo ≤ b) (h2 : b < hi) : w'.frozen? ⟨b, q, none⟩ = w.frozen? ⟨b, q, none⟩ := World.frozen?_of_block (a := ⟨b, q, none⟩) (h b h1 h2)
theorem Agree.of_below {lo hi B : Nat} {w w' : World} (h : Below B w w') (hB : hi ≤ B) : Agree lo hi w w' := fun k _ h2 => h.block k (by omega)
theorem Agree.sub {lo hi lo' hi' : Nat} {w w' : World} (h : Agree lo hi w w') (h1 : lo ≤ lo') (h2 : hi' ≤ hi) : Agree lo' hi' w w' := fun k a b => h k (by omega) (by omega)

theorem IsBy.agree {w w' : World} {lo hi : Nat} {v : Value} {len : Nat} {z : Nat → Int} (h : IsBy w lo hi v len z) (hA : Agree lo hi w w') : IsBy w' lo hi v len z := by
  obtain ⟨a, cap, rfl, h | ⟨b, off, rfl, h1, h2, h3⟩⟩ := h
  · exact ⟨a, cap, rfl, .inl h⟩
  · exact ⟨_, cap, rfl, .inr ⟨b, off, rfl, h1, h2, fun i hi => (hA.cell h1 h2).trans (h3 i hi)⟩⟩

theorem OwnBy.agree {w w' : World} {lo hi : Nat} {v : Value} {len : Nat} {z : Nat → Int} (h : OwnBy w lo hi v len z) (hA : Agree lo hi w w') : OwnBy w' lo hi v len z := by
  obtain ⟨a, rfl, h | ⟨b, rfl, h1, h2, h3⟩⟩ := h
  · exact ⟨a, rfl, .inl h⟩
  · exact ⟨_, rfl, .inr ⟨b, rfl, h1, h2, fun i hi => ⟨(hA.cell h1 h2).trans (h3 i hi).1, (hA.frozen h1 h2).trans (h3 i hi).2⟩⟩⟩

theorem IsBy.wide {w : World} {lo hi lo' hi' : Nat} {v : Value} {len : Nat} {z : Nat → Int} (h : IsBy w lo hi v len z) (h1 : lo' ≤ lo) (h2 : hi ≤ hi') : IsBy w lo' hi' v len z := by
  obtain ⟨a, cap, rfl, h | ⟨b, off, rfl, h3, h4, h5⟩⟩ := h
  · exact ⟨a, cap, rfl, .inl h⟩
  · exact ⟨_, cap, rfl, .inr ⟨b, off, rfl, by omega, by omega, h5⟩⟩

set_option maxHeartbeats 800000 in
theorem bytesEq_none (a b : Option Addr) (ca cb : Nat) (w : World) :
    Calls Try.prog 21 #[.slice a 0 ca, .slice b 0 cb] w fun e w' => e = .returned (.bool true) ∧ ∃ n, w' = w.drewN n := by
  go_enter Try.func21, Try.ntmps21
  go_wp2
  refine wp_loop_rounds 1 ?_
  rw [rounds_succ]
  go_wp2
  go_ret
  exact ⟨rfl, 0, (World.drewN_zero w).symm⟩

theorem bytesEq_of {w : World} {lo hi lo' hi' : Nat} {v v' : Value} {len : Nat} {z : Nat → Int} (hl : len ≤ 1048576) (h : IsBy w lo hi v len z) (h' : IsBy w lo' hi' v' len z) :
    Calls Try.prog 21 #[v, v'] w fun e w' => e = .returned (.bool true) ∧ ∃ n, w' = w.drewN n := by
  obtain ⟨a, ca, rfl, h⟩ := h
  obtain ⟨b, cb, rfl, h'⟩ := h'
  by_cases h0 : len = 0
  · subst h0; exact bytesEq_none a b ca cb w
  · rcases h with h | ⟨ba, oa, rfl, _, _, hA⟩
    · exact absurd h h0
    · rcases h' with h' | ⟨bb, ob, rfl, _, _, hB⟩
      · exact absurd h' h0
      · exact bytesEq_some ba bb oa ob len ca cb z w (by omega) hl hA hB

set_option maxHeartbeats 800000 in
theorem copyBy_empty (x : Addr) (cap : Nat) (w : World) :
    Calls Try.prog 14 #[.slice (some x) 0 cap] w fun e w' => ∃ a, e = .returned (.slice a 0 0) ∧ Below w.heap.size w w' := by
  have hnn := fun w => Lib.run_eql_slice_nil (P := Try.prog) w 26 5 (some x) 0 cap 0 0 Try.underlying26
  obtain ⟨i5, hi5, hz0, hz1, hz2⟩ := info_parts Try.info5
  have hmk : ∀ w, (Instr.makeSlice 26 (.int .i64 0) (.int .i64 0)).run Try.prog w = .ok (.slice (some ⟨w.heap.size, 0, none⟩) 0 0) (w.alloc (.cells (madeCells #[.int .u8 0] 0) 5)) := fun w => by
    have := run_make (P := Try.prog) w 26 5 i5 _ Try.underlying26 hi5 hz0 .i64 .i64 (0 : Int) (0 : Int) (by omega) (by omega) (by rw [hz2]; omega) (by omega)
    simpa [hz1, Value.cells] using this
  clear hz0 hz1 hz2 hi5
  go_enter Try.func14, Try.ntmps14
  go_wp2
  refine wp_loop_rounds 1 ?_
  rw [rounds_succ]
  go_wp2
  go_ret
  exact ⟨_, rfl, (Below.refl _ _).alloc (Nat.le_refl _) _⟩

set_option maxHeartbeats 800000 in
theorem copyBy_nil (cap : Nat) (w : World) :
    Calls Try.prog 14 #[.slice none 0 cap] w fun e w' => ∃ a, e = .returned (.slice a 0 0) ∧ Below w.heap.size w w' := by
  have hnn := fun w => Lib.run_eql_slice_nil (P := Try.prog) w 26 5 none 0 cap 0 0 Try.underlying26
  go_enter Try.func14, Try.ntmps14
  go_wp2
  go_ret
  exact ⟨_, rfl, Below.refl _ _⟩

theorem copyBy_of {w : World} {lo hi : Nat} {v : Value} {len : Nat} {z : Nat → Int} (hl : len ≤ 1048576) (h : IsBy w lo hi v len z) :
    Calls Try.prog 14 #[v] w fun e w' => ∃ v', e = .returned v' ∧ OwnBy w' w.heap.size w'.heap.size v' len z ∧ Below w.heap.size w w' := by
  obtain ⟨a, ca, rfl, h⟩ := h
  by_cases h0 : len = 0
  · subst h0
    cases a with
    | none =>
      refine (copyBy_nil ca w).mono ?_
      rintro e w' ⟨a', rfl, hB⟩
      exact ⟨_, rfl, ⟨a', rfl, .inl rfl⟩, hB⟩
    | some x =>
      refine (copyBy_empty x ca w).mono ?_
      rintro e w' ⟨a', rfl, hB⟩
      exact ⟨_, rfl, ⟨a', rfl, .inl rfl⟩, hB⟩
  · rcases h with h | ⟨b, off, rfl, _, _, hA⟩
    · exact absurd h h0
    · refine (copyBy_some b off len ca z w hl hA (World.block_lt_of_cell? w _ (hA 0 (by omega)))).mono ?_
      rintro e w' ⟨rfl, hH, hB, hs⟩
      exact ⟨_, rfl, ⟨_, rfl, .inr ⟨w.heap.size, rfl, Nat.le_refl _, by omega, hH⟩⟩, hB⟩

end Go.Proofs.Qxb6602660a
