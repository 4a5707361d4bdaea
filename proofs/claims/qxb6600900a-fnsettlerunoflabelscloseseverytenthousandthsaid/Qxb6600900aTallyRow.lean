import Derived.Test.Qxb6600900aTally
import Derived.ProofKit
import Derived.OpenShut
import Derived.ChangeOld
namespace Go.Proofs.Qxb6600900a
open Go.RowKit
open Go.ChangeShapes Go.WideShapes Go.ChangeAt

set_option maxRecDepth 100000 in
set_option maxHeartbeats 1600000 in
theorem tally_far (a : Option Addr) (len cap : Nat) (act start : Int) (w : World) (hm : len ≤ maxLen) (h : 65536 < len ∨ act < 1 ∨ 65536 < act ∨ 16777216 < (len : Int) * act) :
    Calls Try.prog 5 #[.int .u64 start, .int .i64 act, .slice a len cap] w fun e w' => e = .returned (.bool true) ∧ Below w.heap.size w w' := by
  unfold maxLen at hm
  by_cases h1 : 1048576 < len
  · clear h
    go_enter Try.func5, Try.ntmps5
    go_wp2_with (go_in)
    go_ret
    exact ⟨rfl, Below.refl _ _⟩
  by_cases h2 : 65536 < len
  · clear h
    go_enter Try.func5, Try.ntmps5
    go_wp2_with (go_in)
    go_ret
    exact ⟨rfl, Below.refl _ _⟩
  by_cases h3 : act < 1
  · clear h
    go_enter Try.func5, Try.ntmps5
    go_wp2_with (go_in)
    go_ret
    exact ⟨rfl, Below.refl _ _⟩
  by_cases h4 : 65536 < act
  · clear h
    go_enter Try.func5, Try.ntmps5
    go_wp2_with (go_in)
    go_ret
    exact ⟨rfl, Below.refl _ _⟩
  have h5 : 16777216 < (len : Int) * act := by omega
  have h6 : (len : Int) * act ≤ 4294967296 := by
    have : (len : Int) * act ≤ 65536 * 65536 := Int.mul_le_mul (by omega) (by omega) (by omega) (by omega)
    omega
  have h7 : (0 : Int) ≤ (len : Int) * act := by omega
  clear h
  go_enter Try.func5, Try.ntmps5
  go_wp2_with (go_in)
  go_ret
  exact ⟨rfl, Below.refl _ _⟩

set_option maxRecDepth 100000 in
set_option maxHeartbeats 1600000 in
theorem tally_none (a : Option Addr) (cap act : Nat) (start : Int) (w : World) (ha1 : 1 ≤ act) (ha2 : act ≤ 65536) :
    Calls Try.prog 5 #[.int .u64 start, .int .i64 (act : Int), .slice a 0 cap] w fun e w' => e = .returned (.bool true) ∧ Below w.heap.size w w' := by
  obtain ⟨i4, hi4, hz0, hz1, hz2⟩ := info_parts Try.info4
  have hmk : ∀ w, (Instr.makeSlice 46 (.int .i64 (act : Int)) (.int .i64 (act : Int))).run Try.prog w = .ok (.slice (some ⟨w.heap.size, 0, none⟩) act act) (w.alloc (.cells (madeCells #[.bool false] act) 4)) := fun w => by
    have := run_make (P := Try.prog) w 46 4 i4 _ Try.underlying46 hi4 hz0 .i64 .i64 (act : Int) (act : Int) (by omega) (by omega) (by rw [hz2]; omega) (by omega)
    simpa [hz1, Value.cells] using this
  clear hz0 hz1 hz2 hi4
  go_enter Try.func5, Try.ntmps5
  go_wp2_with (go_in)
  refine wp_loop_rounds 1 ?_
  rw [rounds_succ]
  go_wp2_with (first | (go_at_call 13; refine (copyU_zero a cap w).mono ?_; rintro e w1 ⟨a', c', rfl, hB1⟩) | (go_at_call 14; refine (newT_any (act : Int) w1).mono ?_; rintro e w2 ⟨T, rfl, hT2, hB2, hH2⟩))
  refine wp_loop_rounds 1 ?_
  rw [rounds_succ]
  go_wp2
  go_ret
  have h1 := hB1.size
  have h2 := hB2.size
  exact ⟨rfl, (hB1.trans (hB2.mono h1)).alloc (by omega) _⟩

def IsRow16 (w : World) (a : Option Addr) (len cap : Nat) (zs : List Int) : Prop :=
  (a = none ∧ len = 0) ∨ ∃ x, a = some x ∧ len ≤ cap ∧ cap ≤ maxLen ∧ zs.length = cap ∧ (∀ i, i < zs.length → w.cell? (x.add i) = some (.int .u16 (zs.getD i 0))) ∧ ∀ n ∈ zs, (Lit.int .u16 n).wf = true

theorem wf16 {n : Int} (h : (Lit.int .u16 n).wf = true) : 0 ≤ n ∧ n ≤ 65535 := by
  have e1 : IntKind.u16.min = 0 := by decide
  have e2 : IntKind.u16.max = 65535 := by decide
  simp only [Lit.wf, Bool.and_eq_true, decide_eq_true_eq] at h
  omega

theorem tally_walk (a : Option Addr) (len cap : Nat) (act start : Int) (zs : List Int) (w : World) (hb : IsRow16 w a len cap zs) :
    Calls Try.prog 5 #[.int .u64 start, .int .i64 act, .slice a len cap] w fun e w' => e = .returned (.bool true) ∧ Below w.heap.size w w' := by
  have hm : len ≤ maxLen := by
    rcases hb with ⟨_, rfl⟩ | ⟨x, _, h1, h2, _⟩
    · exact Nat.zero_le _
    · omega
  by_cases h : 65536 < len ∨ act < 1 ∨ 65536 < act ∨ 16777216 < (len : Int) * act
  · exact tally_far a len cap act start w hm h
  · obtain ⟨act', rfl⟩ : ∃ n : Nat, act = n := ⟨act.toNat, by omega⟩
    by_cases h0 : len = 0
    · subst h0; exact tally_none a cap act' start w (by omega) (by omega)
    · rcases hb with ⟨_, e⟩ | ⟨x, rfl, h1, h2, h3, h4, h5⟩
      · exact absurd e h0
      · have h00 := h4 0 (by omega)
        rw [show x.add 0 = x from rfl] at h00
        obtain ⟨b, off, spot⟩ := x
        have hs : spot = none := by
          cases spot with
          | none => rfl
          | some q =>
            exfalso
            unfold World.cell? at h00
            split at h00 <;> simp at h00
        subst hs
        refine tally_some b off len cap act' start (fun i => zs.getD i 0) w (by omega) (by omega) (by omega) (by omega) (by omega) ?_ ?_ (World.block_lt_of_cell? w _ h00)
        · intro i hi
          have := h4 i (by omega)
          rwa [show (⟨b, off, none⟩ : Addr).add i = ⟨b, off + i, none⟩ by unfold Addr.add; split <;> simp_all] at this
        · intro i hi
          refine wf16 (h5 _ ?_)
          have hi' : i < zs.length := by omega
          show zs.getD i 0 ∈ zs
          rw [List.getD_eq_getElem?_getD, List.getElem?_eq_getElem hi']
          exact List.getElem_mem hi'

namespace fnSettleRunOfLabelsClosesEveryTenThousandth
set_option linter.unusedVariables false

theorem own : ownKnob Try.prog.godebug = none := by kernel_rfl
theorem laidOut : laidOutB Try.prog = true := by kernel_rfl

set_option maxRecDepth 100000 in
theorem lifted (os : Os) (started : os.Started) (H : Type) (enc : TypeId × Value → H) :
    ReturnsInHanded {} Try.checked os 5 .any (Rows.fnSettleRunOfLabelsClosesEveryTenThousandthSpec.pre6 enc Try.prog Try.f5 Rows.fnSettleRunOfLabelsClosesEveryTenThousandthRow.domain false) (Rows.fnSettleRunOfLabelsClosesEveryTenThousandthSpec.post enc Try.prog Try.f5 false true false false) := by
  refine returnsInHanded_of_change (C := Try.checked) own started (by kernel_rfl) Try.func5
    (ChangeSpec.witness6 (enc := enc) (C := Try.checked) false ⟨#[], #[.int .u64 0, .int .i64 0, .slice none 0 0], []⟩ 8 (by kernel_rfl) (by kernel_rfl) (by kernel_rfl) (by kernel_rfl)) ?_
  intro W base args ds gs before hval0 hW hcnd _
  have hval : ∀ (j : Nat) t v, Try.f5.params[j]? = some t → args[j]? = some v → Value.okWide Try.prog W .any base t v := hval0
  have hW' := hW
  obtain ⟨p, q, hA0, hV, rfl, hfz, hnd⟩ := hW
  have hA : DataW.TrodAll enc Try.prog W 0 (fun _ => true) true Try.f5.params.toList args.toList ds p := hA0
  rw [Try.params5] at hA hval
  obtain ⟨v0, vs0, d0, ds0, p0, q0, hargs, rfl, rfl, h0, r0⟩ := trodAll_cons hA
  obtain ⟨v1, vs1, d1, ds1, p1, q1, rfl, rfl, rfl, h1, r1⟩ := trodAll_cons r0
  obtain ⟨v2, vs2, d2, ds2, p2, q2, rfl, rfl, rfl, h2, r2⟩ := trodAll_cons r1
  obtain ⟨rfl, rfl, rfl⟩ := trodAll_nil r2
  obtain rfl : args = #[v0, v1, v2] := by cases args; simp_all
  obtain ⟨rfl, rfl⟩ := trodVars_none hV
  obtain ⟨a0, rfl, rfl, rfl, w0⟩ := open_int Try.underlying25 (hval 0 25 v0 rfl rfl) h0
  obtain ⟨a1, rfl, rfl, rfl, w1⟩ := open_int Try.underlying3 (hval 1 3 v1 rfl rfl) h1
  obtain ⟨a2, len2, cap2, rfl⟩ := okWide_slice Try.underlying38 (hval 2 38 v2 rfl rfl)
  have k2 := h2
  have lt2 : ∀ x ∈ p2, x.block < W.heap.size := by obtain ⟨m, hm⟩ := k2; exact DataW.trod_lt m _ _ _ hm
  obtain ⟨zs, hz⟩ : ∃ zs, IsRow16 W a2 len2 cap2 zs := by
    obtain ⟨fuel, hf⟩ := h2
    rcases open_ints Try.underlying38 Try.underlying40 (by kernel_rfl) hf with ⟨hcs, _⟩ | ⟨x, l, c, zs, hcs, _, hl, hm, hz, _, hcell, hwz⟩
    · simp [Value.cells] at hcs
      obtain ⟨rfl, rfl, rfl⟩ := hcs
      exact ⟨[], .inl ⟨rfl, rfl⟩⟩
    · simp [Value.cells] at hcs
      obtain ⟨rfl, rfl, rfl⟩ := hcs
      exact ⟨zs, .inr ⟨_, rfl, hl, hm, by simpa using hz, hcell, hwz⟩⟩
  clear hA0 hval0
  refine (tally_walk a2 len2 cap2 a1 a0 zs W hz).mono fun e W' ⟨he, bel⟩ => ?_
  subst he
  exact ⟨_, rfl, _, _, _, [], _, [], hW', trodAll_mk1 (shut_bool Try.underlying4 _), (trodAll_cons_mk (shut_int Try.underlying25 w0) (trodAll_cons_mk (shut_int Try.underlying3 w1) (trodAll_cons_mk (Below.trod laidOut (by kernel_rfl) (of_decide_eq_true (by kernel_rfl)) k2 bel lt2) trodAll_mk0))), rfl, bel.frame _, fun h => by cases h⟩

theorem over : Rows.fnSettleRunOfLabelsClosesEveryTenThousandthRow.holds Try.pinned (OpenSpec.ofChange Rows.fnSettleRunOfLabelsClosesEveryTenThousandthSpec) :=
  OpenClaim.holds_of_wide 5 Try.f5 rfl rfl rfl rfl rfl rfl rfl ⟨rfl, rfl, rfl, rfl, rfl⟩ rfl rfl rfl rfl rfl (by kernel_rfl) Try.func5 (by kernel_rfl)
    (of_decide_eq_true (by kernel_rfl)) (by unfold Func.isWrapper; first | (rw [if_pos (by decide +kernel)]; kernel_rfl) | (rw [if_neg (by decide +kernel)]; exact ⟨rfl, rfl⟩))
    (fun os started H enc _ => lifted os started H enc)

/-- THE STATEMENT -/
theorem proved : Rows.FnSettleRunOfLabelsClosesEveryTenThousandthSaid := over
end fnSettleRunOfLabelsClosesEveryTenThousandth
end Go.Proofs.Qxb6600900a
