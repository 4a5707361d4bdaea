/-
  No cell of these rows narrows 'for every input' (looked for: loops, veiled, ifaces, maps, wideKeys, modest, calm, conditions, laid).
  DERIVED. THE GIVEN ROWS OF THIS SEAT. 5 by the template 'for every input the law returns true; each argument reads behind the call as it read before'; 0 by the template 'total and deterministic' (their statements: Qxb6600900aTotals.lean).
  GIVEN WITH THE SEED: the statements are not yours to turn. If you find one false, say at which input.
  Laid BY PROGRAM, IN A SANDBOX (cutbox-rows.mjs): the forced cells as the released guide's own fill.sh prints them over the translation 8cac69b42c4cc665… (all of the seat's roots in one cut). By AI agents, Wed Nov 11 2026. No macro, syntax, notation, axiom, sorry.
-/
import Derived.Test.Qxb6600900aChecked
import GoSem.Claim
import GoSem.ClaimJoined
import GoSem.ClaimMapViews
import Derived.JoinedTies
import Derived.KernelRfl
namespace Go.Proofs.Qxb6600900a
/- THE CELL 'sum', in the pinned program and in every row, IS THE sha256 OF THE DUMP (.gsa) THAT Qxb6600900aProg.lean LOADS. Nothing in Lean hashes anything: it is a label: what it is worth is what the hold of that sum in a sandbox is worth. -/
noncomputable def Try.pinned : Pinned := { name := "qxb6600900a", sum := "8cac69b42c4cc665440b2f4ed45205624ebe38c1712cd0d4ff77746cca2d29dd", checked := Try.checked }
namespace Rows
def none {H : Type} : Left H := { results := [], args := [] }

/-- 'zzlaws_internal_sim_b1.FnBatchCloseIdenticalBatchesLeaveNoSpread': WHATEVER THE INPUT: true; the input reads as it did. -/
def fnBatchCloseIdenticalBatchesLeaveNoSpreadSpec : ChangeSpec := { name := "fnBatchCloseIdenticalBatchesLeaveNoSpread", fn := fun _ => fun
  | [d1, d2, d3, d4, d5, d6] => { results := [.lit (.bool true)], args := [d1, d2, d3, d4, d5, d6] }
  | _ => none }
def fnBatchCloseIdenticalBatchesLeaveNoSpreadRow : OpenClaim := { program := "qxb6600900a", sum := "8cac69b42c4cc665440b2f4ed45205624ebe38c1712cd0d4ff77746cca2d29dd", func := "example.com/quorumloop/quorumloop/zzlaws_internal_sim_b1.FnBatchCloseIdenticalBatchesLeaveNoSpread", spec := "fnBatchCloseIdenticalBatchesLeaveNoSpread", apart := false }
def FnBatchCloseIdenticalBatchesLeaveNoSpreadSaid : Prop := fnBatchCloseIdenticalBatchesLeaveNoSpreadRow.holds Try.pinned (OpenSpec.ofChange fnBatchCloseIdenticalBatchesLeaveNoSpreadSpec)

/-- ITS FALSE NEIGHBOUR: 'it returns false'. Refute it at one input. -/
def fnBatchCloseIdenticalBatchesLeaveNoSpreadWrong : ChangeSpec := { name := "fnBatchCloseIdenticalBatchesLeaveNoSpread", fn := fun _ => fun
  | [d1, d2, d3, d4, d5, d6] => { results := [.lit (.bool false)], args := [d1, d2, d3, d4, d5, d6] }
  | _ => none }
def FnBatchCloseIdenticalBatchesLeaveNoSpreadWrongFalsely : Prop := fnBatchCloseIdenticalBatchesLeaveNoSpreadRow.holds Try.pinned (OpenSpec.ofChange fnBatchCloseIdenticalBatchesLeaveNoSpreadWrong)

/-- 'zzlaws_internal_sim_b1.FnBatchCloseMeansStayInRangeAndVariancesNonnegative': WHATEVER THE INPUT: true; the input reads as it did. -/
def fnBatchCloseMeansStayInRangeAndVariancesNonnegativeSpec : ChangeSpec := { name := "fnBatchCloseMeansStayInRangeAndVariancesNonnegative", fn := fun _ => fun
  | [d] => { results := [.lit (.bool true)], args := [d] }
  | _ => none }
def fnBatchCloseMeansStayInRangeAndVariancesNonnegativeRow : OpenClaim := { program := "qxb6600900a", sum := "8cac69b42c4cc665440b2f4ed45205624ebe38c1712cd0d4ff77746cca2d29dd", func := "example.com/quorumloop/quorumloop/zzlaws_internal_sim_b1.FnBatchCloseMeansStayInRangeAndVariancesNonnegative", spec := "fnBatchCloseMeansStayInRangeAndVariancesNonnegative", apart := false }
def FnBatchCloseMeansStayInRangeAndVariancesNonnegativeSaid : Prop := fnBatchCloseMeansStayInRangeAndVariancesNonnegativeRow.holds Try.pinned (OpenSpec.ofChange fnBatchCloseMeansStayInRangeAndVariancesNonnegativeSpec)

/-- ITS FALSE NEIGHBOUR: 'it returns false'. Refute it at one input. -/
def fnBatchCloseMeansStayInRangeAndVariancesNonnegativeWrong : ChangeSpec := { name := "fnBatchCloseMeansStayInRangeAndVariancesNonnegative", fn := fun _ => fun
  | [d] => { results := [.lit (.bool false)], args := [d] }
  | _ => none }
def FnBatchCloseMeansStayInRangeAndVariancesNonnegativeWrongFalsely : Prop := fnBatchCloseMeansStayInRangeAndVariancesNonnegativeRow.holds Try.pinned (OpenSpec.ofChange fnBatchCloseMeansStayInRangeAndVariancesNonnegativeWrong)

/-- 'zzlaws_internal_sim_b1.FnSettleRunOfLabelsClosesEveryTenThousandth': WHATEVER THE INPUT: true; the input reads as it did. -/
def fnSettleRunOfLabelsClosesEveryTenThousandthSpec : ChangeSpec := { name := "fnSettleRunOfLabelsClosesEveryTenThousandth", fn := fun _ => fun
  | [d1, d2, d3] => { results := [.lit (.bool true)], args := [d1, d2, d3] }
  | _ => none }
def fnSettleRunOfLabelsClosesEveryTenThousandthRow : OpenClaim := { program := "qxb6600900a", sum := "8cac69b42c4cc665440b2f4ed45205624ebe38c1712cd0d4ff77746cca2d29dd", func := "example.com/quorumloop/quorumloop/zzlaws_internal_sim_b1.FnSettleRunOfLabelsClosesEveryTenThousandth", spec := "fnSettleRunOfLabelsClosesEveryTenThousandth", apart := false }
def FnSettleRunOfLabelsClosesEveryTenThousandthSaid : Prop := fnSettleRunOfLabelsClosesEveryTenThousandthRow.holds Try.pinned (OpenSpec.ofChange fnSettleRunOfLabelsClosesEveryTenThousandthSpec)

/-- ITS FALSE NEIGHBOUR: 'it returns false'. Refute it at one input. -/
def fnSettleRunOfLabelsClosesEveryTenThousandthWrong : ChangeSpec := { name := "fnSettleRunOfLabelsClosesEveryTenThousandth", fn := fun _ => fun
  | [d1, d2, d3] => { results := [.lit (.bool false)], args := [d1, d2, d3] }
  | _ => none }
def FnSettleRunOfLabelsClosesEveryTenThousandthWrongFalsely : Prop := fnSettleRunOfLabelsClosesEveryTenThousandthRow.holds Try.pinned (OpenSpec.ofChange fnSettleRunOfLabelsClosesEveryTenThousandthWrong)

/-- 'zzlaws_internal_sim_b1.FnCrashedSpreadCaseTable': WHATEVER THE INPUT: true; the input reads as it did. -/
def fnCrashedSpreadCaseTableSpec : ChangeSpec := { name := "fnCrashedSpreadCaseTable", fn := fun _ => fun
  | [d1, d2, d3, d4, d5] => { results := [.lit (.bool true)], args := [d1, d2, d3, d4, d5] }
  | _ => none }
def fnCrashedSpreadCaseTableRow : OpenClaim := { program := "qxb6600900a", sum := "8cac69b42c4cc665440b2f4ed45205624ebe38c1712cd0d4ff77746cca2d29dd", func := "example.com/quorumloop/quorumloop/zzlaws_internal_sim_b1.FnCrashedSpreadCaseTable", spec := "fnCrashedSpreadCaseTable", apart := false }
def FnCrashedSpreadCaseTableSaid : Prop := fnCrashedSpreadCaseTableRow.holds Try.pinned (OpenSpec.ofChange fnCrashedSpreadCaseTableSpec)

/-- ITS FALSE NEIGHBOUR: 'it returns false'. Refute it at one input. -/
def fnCrashedSpreadCaseTableWrong : ChangeSpec := { name := "fnCrashedSpreadCaseTable", fn := fun _ => fun
  | [d1, d2, d3, d4, d5] => { results := [.lit (.bool false)], args := [d1, d2, d3, d4, d5] }
  | _ => none }
def FnCrashedSpreadCaseTableWrongFalsely : Prop := fnCrashedSpreadCaseTableRow.holds Try.pinned (OpenSpec.ofChange fnCrashedSpreadCaseTableWrong)

/-- 'zzlaws_internal_sim_b1.FnCrashedSpreadGrowsWithChainMemory': WHATEVER THE INPUT: true; the input reads as it did. -/
def fnCrashedSpreadGrowsWithChainMemorySpec : ChangeSpec := { name := "fnCrashedSpreadGrowsWithChainMemory", fn := fun _ => fun
  | [d1, d2, d3, d4, d5, d6, d7] => { results := [.lit (.bool true)], args := [d1, d2, d3, d4, d5, d6, d7] }
  | _ => none }
def fnCrashedSpreadGrowsWithChainMemoryRow : OpenClaim := { program := "qxb6600900a", sum := "8cac69b42c4cc665440b2f4ed45205624ebe38c1712cd0d4ff77746cca2d29dd", func := "example.com/quorumloop/quorumloop/zzlaws_internal_sim_b1.FnCrashedSpreadGrowsWithChainMemory", spec := "fnCrashedSpreadGrowsWithChainMemory", apart := false }
def FnCrashedSpreadGrowsWithChainMemorySaid : Prop := fnCrashedSpreadGrowsWithChainMemoryRow.holds Try.pinned (OpenSpec.ofChange fnCrashedSpreadGrowsWithChainMemorySpec)

/-- ITS FALSE NEIGHBOUR: 'it returns false'. Refute it at one input. -/
def fnCrashedSpreadGrowsWithChainMemoryWrong : ChangeSpec := { name := "fnCrashedSpreadGrowsWithChainMemory", fn := fun _ => fun
  | [d1, d2, d3, d4, d5, d6, d7] => { results := [.lit (.bool false)], args := [d1, d2, d3, d4, d5, d6, d7] }
  | _ => none }
def FnCrashedSpreadGrowsWithChainMemoryWrongFalsely : Prop := fnCrashedSpreadGrowsWithChainMemoryRow.holds Try.pinned (OpenSpec.ofChange fnCrashedSpreadGrowsWithChainMemoryWrong)

end Rows
end Go.Proofs.Qxb6600900a
