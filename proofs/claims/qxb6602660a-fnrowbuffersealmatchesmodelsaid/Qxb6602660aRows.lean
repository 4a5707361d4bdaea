/-
  No cell of these rows narrows 'for every input' (looked for: loops, veiled, ifaces, maps, wideKeys, modest, calm, conditions, laid).
  DERIVED. THE GIVEN ROWS OF THIS SEAT. 4 by the template 'for every input the law returns true; each argument reads behind the call as it read before'; 0 by the template 'total and deterministic' (their statements: Qxb6602660aTotals.lean).
  GIVEN WITH THE SEED: the statements are not yours to turn. If you find one false, say at which input.
  Laid BY PROGRAM, IN A SANDBOX (cutbox-rows.mjs): the forced cells as the released guide's own fill.sh prints them over the translation 3b1596924f5e3a62… (all of the seat's roots in one cut). By AI agents, Wed Nov 11 2026. No macro, syntax, notation, axiom, sorry.
-/
import Derived.Test.Qxb6602660aChecked
import GoSem.Claim
import GoSem.ClaimJoined
import GoSem.ClaimMapViews
import Derived.JoinedTies
import Derived.KernelRfl
namespace Go.Proofs.Qxb6602660a
/- THE CELL 'sum', in the pinned program and in every row, IS THE sha256 OF THE DUMP (.gsa) THAT Qxb6602660aProg.lean LOADS. Nothing in Lean hashes anything: it is a label: what it is worth is what the hold of that sum in a sandbox is worth. -/
noncomputable def Try.pinned : Pinned := { name := "qxb6602660a", sum := "3b1596924f5e3a62864b4eb5dbdc2ae99a3ff4c5af5193d7fa165eac01c007c5", checked := Try.checked }
namespace Rows
def none {H : Type} : Left H := { results := [], args := [] }

/-- 'zzlaws_table_b1.FnGb18030CodeSizeSelfDelimiting': WHATEVER THE INPUT: true; the input reads as it did. -/
def fnGb18030CodeSizeSelfDelimitingSpec : ChangeSpec := { name := "fnGb18030CodeSizeSelfDelimiting", fn := fun _ => fun
  | [d1, d2] => { results := [.lit (.bool true)], args := [d1, d2] }
  | _ => none }
def fnGb18030CodeSizeSelfDelimitingRow : OpenClaim := { program := "qxb6602660a", sum := "3b1596924f5e3a62864b4eb5dbdc2ae99a3ff4c5af5193d7fa165eac01c007c5", func := "example.com/guanlian/guanlian/zzlaws_table_b1.FnGb18030CodeSizeSelfDelimiting", spec := "fnGb18030CodeSizeSelfDelimiting", unfollowed := true, recurses := true, apart := false }
def FnGb18030CodeSizeSelfDelimitingSaid : Prop := fnGb18030CodeSizeSelfDelimitingRow.holds Try.pinned (OpenSpec.ofChange fnGb18030CodeSizeSelfDelimitingSpec)

/-- ITS FALSE NEIGHBOUR: 'it returns false'. Refute it at one input. -/
def fnGb18030CodeSizeSelfDelimitingWrong : ChangeSpec := { name := "fnGb18030CodeSizeSelfDelimiting", fn := fun _ => fun
  | [d1, d2] => { results := [.lit (.bool false)], args := [d1, d2] }
  | _ => none }
def FnGb18030CodeSizeSelfDelimitingWrongFalsely : Prop := fnGb18030CodeSizeSelfDelimitingRow.holds Try.pinned (OpenSpec.ofChange fnGb18030CodeSizeSelfDelimitingWrong)

/-- 'zzlaws_table_b1.FnEditionCodeIsTwoByteCode': WHATEVER THE INPUT: true; the input reads as it did. -/
def fnEditionCodeIsTwoByteCodeSpec : ChangeSpec := { name := "fnEditionCodeIsTwoByteCode", fn := fun _ => fun
  | [d1, d2] => { results := [.lit (.bool true)], args := [d1, d2] }
  | _ => none }
def fnEditionCodeIsTwoByteCodeRow : OpenClaim := { program := "qxb6602660a", sum := "3b1596924f5e3a62864b4eb5dbdc2ae99a3ff4c5af5193d7fa165eac01c007c5", func := "example.com/guanlian/guanlian/zzlaws_table_b1.FnEditionCodeIsTwoByteCode", spec := "fnEditionCodeIsTwoByteCode", unfollowed := true, recurses := true, apart := false }
def FnEditionCodeIsTwoByteCodeSaid : Prop := fnEditionCodeIsTwoByteCodeRow.holds Try.pinned (OpenSpec.ofChange fnEditionCodeIsTwoByteCodeSpec)

/-- ITS FALSE NEIGHBOUR: 'it returns false'. Refute it at one input. -/
def fnEditionCodeIsTwoByteCodeWrong : ChangeSpec := { name := "fnEditionCodeIsTwoByteCode", fn := fun _ => fun
  | [d1, d2] => { results := [.lit (.bool false)], args := [d1, d2] }
  | _ => none }
def FnEditionCodeIsTwoByteCodeWrongFalsely : Prop := fnEditionCodeIsTwoByteCodeRow.holds Try.pinned (OpenSpec.ofChange fnEditionCodeIsTwoByteCodeWrong)

/-- 'zzlaws_table_b1.FnRowBufferSealMatchesModel': WHATEVER THE INPUT: true; the input reads as it did. -/
def fnRowBufferSealMatchesModelSpec : ChangeSpec := { name := "fnRowBufferSealMatchesModel", fn := fun _ => fun
  | [d1, d2, d3, d4, d5, d6] => { results := [.lit (.bool true)], args := [d1, d2, d3, d4, d5, d6] }
  | _ => none }
def fnRowBufferSealMatchesModelRow : OpenClaim := { program := "qxb6602660a", sum := "3b1596924f5e3a62864b4eb5dbdc2ae99a3ff4c5af5193d7fa165eac01c007c5", func := "example.com/guanlian/guanlian/zzlaws_table_b1.FnRowBufferSealMatchesModel", spec := "fnRowBufferSealMatchesModel", apart := false }
def FnRowBufferSealMatchesModelSaid : Prop := fnRowBufferSealMatchesModelRow.holds Try.pinned (OpenSpec.ofChange fnRowBufferSealMatchesModelSpec)

/-- ITS FALSE NEIGHBOUR: 'it returns false'. Refute it at one input. -/
def fnRowBufferSealMatchesModelWrong : ChangeSpec := { name := "fnRowBufferSealMatchesModel", fn := fun _ => fun
  | [d1, d2, d3, d4, d5, d6] => { results := [.lit (.bool false)], args := [d1, d2, d3, d4, d5, d6] }
  | _ => none }
def FnRowBufferSealMatchesModelWrongFalsely : Prop := fnRowBufferSealMatchesModelRow.holds Try.pinned (OpenSpec.ofChange fnRowBufferSealMatchesModelWrong)

/-- 'zzlaws_table_b1.FnRowBufferSealIdempotent': WHATEVER THE INPUT: true; the input reads as it did. -/
def fnRowBufferSealIdempotentSpec : ChangeSpec := { name := "fnRowBufferSealIdempotent", fn := fun _ => fun
  | [d1, d2, d3, d4, d5, d6] => { results := [.lit (.bool true)], args := [d1, d2, d3, d4, d5, d6] }
  | _ => none }
def fnRowBufferSealIdempotentRow : OpenClaim := { program := "qxb6602660a", sum := "3b1596924f5e3a62864b4eb5dbdc2ae99a3ff4c5af5193d7fa165eac01c007c5", func := "example.com/guanlian/guanlian/zzlaws_table_b1.FnRowBufferSealIdempotent", spec := "fnRowBufferSealIdempotent", apart := false }
def FnRowBufferSealIdempotentSaid : Prop := fnRowBufferSealIdempotentRow.holds Try.pinned (OpenSpec.ofChange fnRowBufferSealIdempotentSpec)

/-- ITS FALSE NEIGHBOUR: 'it returns false'. Refute it at one input. -/
def fnRowBufferSealIdempotentWrong : ChangeSpec := { name := "fnRowBufferSealIdempotent", fn := fun _ => fun
  | [d1, d2, d3, d4, d5, d6] => { results := [.lit (.bool false)], args := [d1, d2, d3, d4, d5, d6] }
  | _ => none }
def FnRowBufferSealIdempotentWrongFalsely : Prop := fnRowBufferSealIdempotentRow.holds Try.pinned (OpenSpec.ofChange fnRowBufferSealIdempotentWrong)

end Rows
end Go.Proofs.Qxb6602660a
