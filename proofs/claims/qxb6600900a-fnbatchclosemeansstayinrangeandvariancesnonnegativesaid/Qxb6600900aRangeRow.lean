import Derived.Test.Qxb6600900aRange
import Derived.ProofKit
import Derived.OpenShut
import Derived.ChangeOld
namespace Go.Proofs.Qxb6600900a
open Go.RowKit
open Go.ChangeShapes Go.WideShapes Go.ChangeAt

set_option maxRecDepth 100000 in
set_option maxHeartbeats 1600000 in
theorem range_far (a : Option Addr) (len cap : Nat) (w : World) (h : 18724 < len) (hm : len ≤ maxLen) :
    Calls Try.prog 4 #[.slice a len cap] w fun e w' => e = .returned (.bool true) ∧ Below w.heap.size w w' := by
  unfold maxLen at hm
  by_cases h1 : 1048576 < len
  · go_enter Try.func4, Try.ntmps4
    go_wp2_with (go_in)
    go_ret
    exact ⟨rfl, Below.refl _ _⟩
  · go_enter Try.func4, Try.ntmps4
    go_wp2_with (go_in)
    go_ret
    exact ⟨rfl, Below.refl _ _⟩

theorem copyB_zero (a : Option Addr) (cap : Nat) (w : World) : Calls Try.prog 11 #[.slice a 0 cap] w fun e w' => ∃ a' c', e = .returned (.slice a' 0 c') ∧ Below w.heap.size w w' := by
  cases a with
  | none => exact copyB_nil cap w
  | some x => exact copyB_empty x cap w

set_option maxRecDepth 100000 in
set_option maxHeartbeats 1600000 in
theorem range_none (a : Option Addr) (cap : Nat) (w : World) :
    Calls Try.prog 4 #[.slice a 0 cap] w fun e w' => e = .returned (.bool true) ∧ Below w.heap.size w w' := by
  go_enter Try.func4, Try.ntmps4
  go_wp2_with (go_in)
  refine wp_loop_rounds 1 ?_
  rw [rounds_succ]
  go_wp2_with (go_at_call 11; refine (copyB_zero a cap w).mono ?_; rintro e wc ⟨a', c', rfl, hB⟩)
  refine wp_loop_rounds 1 ?_
  rw [rounds_succ]
  go_wp2
  go_ret
  have hs := hB.size
  exact ⟨rfl, ((hB.alloc hs _).alloc (by rw [World.size_alloc]; omega) _).alloc (by rw [World.size_alloc, World.size_alloc]; omega) _⟩

theorem range_walk (a : Option Addr) (len cap : Nat) (B : Nat → Batch) (w : World) (hb : IsBatches w a len cap B) :
    Calls Try.prog 4 #[.slice a len cap] w fun e w' => e = .returned (.bool true) ∧ Below w.heap.size w w' := by
  rcases hb with ⟨rfl, rfl⟩ | ⟨x, rfl, h1, h2, h3⟩
  · exact range_none none cap w
  · by_cases h0 : len = 0
    · subst h0; exact range_none _ cap w
    · by_cases hf : 18724 < len
      · exact range_far _ len cap w hf (by omega)
      · have h00 := h3 0 (by omega) 0 _ rfl
        rw [show x.add (0 * 6 + 0) = x from rfl] at h00
        obtain ⟨b, off, spot⟩ := x
        have hs : spot = none := by
          cases spot with
          | none => rfl
          | some q =>
            exfalso
            unfold World.cell? at h00
            split at h00 <;> simp at h00
        subst hs
        refine range_some b off len cap B w (by omega) (by omega) ?_ (World.block_lt_of_cell? w _ h00)
        intro i hi j v hv
        have := h3 i hi j v hv
        rwa [show (⟨b, off, none⟩ : Addr).add (i * 6 + j) = ⟨b, off + (i * 6 + j), none⟩ by unfold Addr.add; split <;> simp_all] at this

namespace fnBatchCloseMeansStayInRangeAndVariancesNonnegative
set_option linter.unusedVariables false

theorem own : ownKnob Try.prog.godebug = none := by kernel_rfl
theorem laidOut : laidOutB Try.prog = true := by kernel_rfl

set_option maxRecDepth 100000 in
theorem lifted (os : Os) (started : os.Started) (H : Type) (enc : TypeId × Value → H) :
    ReturnsInHanded {} Try.checked os 4 .any (Rows.fnBatchCloseMeansStayInRangeAndVariancesNonnegativeSpec.pre6 enc Try.prog Try.f4 Rows.fnBatchCloseMeansStayInRangeAndVariancesNonnegativeRow.domain false) (Rows.fnBatchCloseMeansStayInRangeAndVariancesNonnegativeSpec.post enc Try.prog Try.f4 false true false false) := by
  refine returnsInHanded_of_change (C := Try.checked) own started (by kernel_rfl) Try.func4
    (ChangeSpec.witness6 (enc := enc) (C := Try.checked) false ⟨#[], #[.slice none 0 0], []⟩ 8 (by kernel_rfl) (by kernel_rfl) (by kernel_rfl) (by kernel_rfl)) ?_
  intro W base args ds gs before hval0 hW hcnd _
  have hval : ∀ (j : Nat) t v, Try.f4.params[j]? = some t → args[j]? = some v → Value.okWide Try.prog W .any base t v := hval0
  have hW' := hW
  obtain ⟨p, q, hA0, hV, rfl, hfz, hnd⟩ := hW
  have hA : DataW.TrodAll enc Try.prog W 0 (fun _ => true) true Try.f4.params.toList args.toList ds p := hA0
  rw [Try.params4] at hA hval
  obtain ⟨v0, vs0, d0, ds0, p0, q0, hargs, rfl, rfl, h0, r0⟩ := trodAll_cons hA
  obtain ⟨rfl, rfl, rfl⟩ := trodAll_nil r0
  obtain rfl : args = #[v0] := by cases args; simp_all
  obtain ⟨rfl, rfl⟩ := trodVars_none hV
  obtain ⟨a1, len1, cap1, rfl⟩ := okWide_slice Try.underlying33 (hval 0 33 v0 rfl rfl)
  have k1 := h0
  have lt1 : ∀ x ∈ p0, x.block < W.heap.size := by obtain ⟨m, hm⟩ := k1; exact DataW.trod_lt m _ _ _ hm
  obtain ⟨B, hB⟩ : ∃ B, IsBatches W a1 len1 cap1 B := by
    obtain ⟨fuel, hf⟩ := h0
    exact open_batches hf
  clear hA0 hval0
  refine (range_walk a1 len1 cap1 B W hB).mono fun e W' ⟨he, bel⟩ => ?_
  subst he
  exact ⟨_, rfl, _, _, _, [], _, [], hW', trodAll_mk1 (shut_bool Try.underlying4 _), (trodAll_cons_mk (Below.trod laidOut (by kernel_rfl) (of_decide_eq_true (by kernel_rfl)) k1 bel lt1) trodAll_mk0), rfl, bel.frame _, fun h => by cases h⟩

theorem over : Rows.fnBatchCloseMeansStayInRangeAndVariancesNonnegativeRow.holds Try.pinned (OpenSpec.ofChange Rows.fnBatchCloseMeansStayInRangeAndVariancesNonnegativeSpec) :=
  OpenClaim.holds_of_wide 4 Try.f4 rfl rfl rfl rfl rfl rfl rfl ⟨rfl, rfl, rfl, rfl, rfl⟩ rfl rfl rfl rfl rfl (by kernel_rfl) Try.func4 (by kernel_rfl)
    (of_decide_eq_true (by kernel_rfl)) (by unfold Func.isWrapper; first | (rw [if_pos (by decide +kernel)]; kernel_rfl) | (rw [if_neg (by decide +kernel)]; exact ⟨rfl, rfl⟩))
    (fun os started H enc _ => lifted os started H enc)

/-- THE STATEMENT -/
theorem proved : Rows.FnBatchCloseMeansStayInRangeAndVariancesNonnegativeSaid := over
end fnBatchCloseMeansStayInRangeAndVariancesNonnegative
end Go.Proofs.Qxb6600900a
