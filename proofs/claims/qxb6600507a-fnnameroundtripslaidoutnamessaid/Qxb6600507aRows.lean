/-
  No cell of these rows narrows 'for every input' (looked for: loops, veiled, ifaces, maps, wideKeys, modest, calm, conditions, laid).
  DERIVED. THE GIVEN ROWS OF THIS SEAT. 5 by the template 'for every input the law returns true; each argument reads behind the call as it read before'; 0 by the template 'total and deterministic' (their statements: Qxb6600507aTotals.lean).
  GIVEN WITH THE SEED: the statements are not yours to turn. If you find one false, say at which input.
  Laid BY PROGRAM, IN A SANDBOX (cutbox-rows.mjs): the forced cells as the released guide's own fill.sh prints them over the translation f708420fdcd2d80b… (all of the seat's roots in one cut). By AI agents, Wed Nov 11 2026. No macro, syntax, notation, axiom, sorry.
-/
import Derived.Test.Qxb6600507aChecked
import GoSem.Claim
import GoSem.ClaimJoined
import GoSem.ClaimMapViews
import Derived.JoinedTies
import Derived.KernelRfl
namespace Go.Proofs.Qxb6600507a
/- THE CELL 'sum', in the pinned program and in every row, IS THE sha256 OF THE DUMP (.gsa) THAT Qxb6600507aProg.lean LOADS. Nothing in Lean hashes anything: it is a label: what it is worth is what the hold of that sum in a sandbox is worth. -/
noncomputable def Try.pinned : Pinned := { name := "qxb6600507a", sum := "f708420fdcd2d80b7be17bc4440267d2069cc477ba0feb3cec5a19def32747f2", checked := Try.checked }
namespace Rows
def none {H : Type} : Left H := { results := [], args := [] }

/-- 'zzlaws_internal_certmap_b1.FnLowerASCIIMatchesAlphabetTable': WHATEVER THE INPUT: true; the input reads as it did. -/
def fnLowerASCIIMatchesAlphabetTableSpec : ChangeSpec := { name := "fnLowerASCIIMatchesAlphabetTable", fn := fun _ => fun
  | [d] => { results := [.lit (.bool true)], args := [d] }
  | _ => none }
def fnLowerASCIIMatchesAlphabetTableRow : OpenClaim := { program := "qxb6600507a", sum := "f708420fdcd2d80b7be17bc4440267d2069cc477ba0feb3cec5a19def32747f2", func := "example.com/certmap/certmap/zzlaws_internal_certmap_b1.FnLowerASCIIMatchesAlphabetTable", spec := "fnLowerASCIIMatchesAlphabetTable", apart := false }
def FnLowerASCIIMatchesAlphabetTableSaid : Prop := fnLowerASCIIMatchesAlphabetTableRow.holds Try.pinned (OpenSpec.ofChange fnLowerASCIIMatchesAlphabetTableSpec)

/-- ITS FALSE NEIGHBOUR: 'it returns false'. Refute it at one input. -/
def fnLowerASCIIMatchesAlphabetTableWrong : ChangeSpec := { name := "fnLowerASCIIMatchesAlphabetTable", fn := fun _ => fun
  | [d] => { results := [.lit (.bool false)], args := [d] }
  | _ => none }
def FnLowerASCIIMatchesAlphabetTableWrongFalsely : Prop := fnLowerASCIIMatchesAlphabetTableRow.holds Try.pinned (OpenSpec.ofChange fnLowerASCIIMatchesAlphabetTableWrong)

/-- 'zzlaws_internal_certmap_b1.FnLowerASCIIIsIdempotent': WHATEVER THE INPUT: true; the input reads as it did. -/
def fnLowerASCIIIsIdempotentSpec : ChangeSpec := { name := "fnLowerASCIIIsIdempotent", fn := fun _ => fun
  | [d] => { results := [.lit (.bool true)], args := [d] }
  | _ => none }
def fnLowerASCIIIsIdempotentRow : OpenClaim := { program := "qxb6600507a", sum := "f708420fdcd2d80b7be17bc4440267d2069cc477ba0feb3cec5a19def32747f2", func := "example.com/certmap/certmap/zzlaws_internal_certmap_b1.FnLowerASCIIIsIdempotent", spec := "fnLowerASCIIIsIdempotent", apart := false }
def FnLowerASCIIIsIdempotentSaid : Prop := fnLowerASCIIIsIdempotentRow.holds Try.pinned (OpenSpec.ofChange fnLowerASCIIIsIdempotentSpec)

/-- ITS FALSE NEIGHBOUR: 'it returns false'. Refute it at one input. -/
def fnLowerASCIIIsIdempotentWrong : ChangeSpec := { name := "fnLowerASCIIIsIdempotent", fn := fun _ => fun
  | [d] => { results := [.lit (.bool false)], args := [d] }
  | _ => none }
def FnLowerASCIIIsIdempotentWrongFalsely : Prop := fnLowerASCIIIsIdempotentRow.holds Try.pinned (OpenSpec.ofChange fnLowerASCIIIsIdempotentWrong)

/-- 'zzlaws_internal_certmap_b1.FnLowerASCIIEqualExactlyWhenFoldEqual': WHATEVER THE INPUT: true; the input reads as it did. -/
def fnLowerASCIIEqualExactlyWhenFoldEqualSpec : ChangeSpec := { name := "fnLowerASCIIEqualExactlyWhenFoldEqual", fn := fun _ => fun
  | [d1, d2] => { results := [.lit (.bool true)], args := [d1, d2] }
  | _ => none }
def fnLowerASCIIEqualExactlyWhenFoldEqualRow : OpenClaim := { program := "qxb6600507a", sum := "f708420fdcd2d80b7be17bc4440267d2069cc477ba0feb3cec5a19def32747f2", func := "example.com/certmap/certmap/zzlaws_internal_certmap_b1.FnLowerASCIIEqualExactlyWhenFoldEqual", spec := "fnLowerASCIIEqualExactlyWhenFoldEqual", apart := false }
def FnLowerASCIIEqualExactlyWhenFoldEqualSaid : Prop := fnLowerASCIIEqualExactlyWhenFoldEqualRow.holds Try.pinned (OpenSpec.ofChange fnLowerASCIIEqualExactlyWhenFoldEqualSpec)

/-- ITS FALSE NEIGHBOUR: 'it returns false'. Refute it at one input. -/
def fnLowerASCIIEqualExactlyWhenFoldEqualWrong : ChangeSpec := { name := "fnLowerASCIIEqualExactlyWhenFoldEqual", fn := fun _ => fun
  | [d1, d2] => { results := [.lit (.bool false)], args := [d1, d2] }
  | _ => none }
def FnLowerASCIIEqualExactlyWhenFoldEqualWrongFalsely : Prop := fnLowerASCIIEqualExactlyWhenFoldEqualRow.holds Try.pinned (OpenSpec.ofChange fnLowerASCIIEqualExactlyWhenFoldEqualWrong)

/-- 'zzlaws_internal_certmap_b1.FnNameRoundTripsLaidOutNames': WHATEVER THE INPUT: true; the input reads as it did. -/
def fnNameRoundTripsLaidOutNamesSpec : ChangeSpec := { name := "fnNameRoundTripsLaidOutNames", fn := fun _ => fun
  | [d] => { results := [.lit (.bool true)], args := [d] }
  | _ => none }
def fnNameRoundTripsLaidOutNamesRow : OpenClaim := { program := "qxb6600507a", sum := "f708420fdcd2d80b7be17bc4440267d2069cc477ba0feb3cec5a19def32747f2", func := "example.com/certmap/certmap/zzlaws_internal_certmap_b1.FnNameRoundTripsLaidOutNames", spec := "fnNameRoundTripsLaidOutNames", apart := false }
def FnNameRoundTripsLaidOutNamesSaid : Prop := fnNameRoundTripsLaidOutNamesRow.holds Try.pinned (OpenSpec.ofChange fnNameRoundTripsLaidOutNamesSpec)

/-- ITS FALSE NEIGHBOUR: 'it returns false'. Refute it at one input. -/
def fnNameRoundTripsLaidOutNamesWrong : ChangeSpec := { name := "fnNameRoundTripsLaidOutNames", fn := fun _ => fun
  | [d] => { results := [.lit (.bool false)], args := [d] }
  | _ => none }
def FnNameRoundTripsLaidOutNamesWrongFalsely : Prop := fnNameRoundTripsLaidOutNamesRow.holds Try.pinned (OpenSpec.ofChange fnNameRoundTripsLaidOutNamesWrong)

/-- 'zzlaws_internal_certmap_b1.FnNamesPartitionTheirText': WHATEVER THE INPUT: true; the input reads as it did. -/
def fnNamesPartitionTheirTextSpec : ChangeSpec := { name := "fnNamesPartitionTheirText", fn := fun _ => fun
  | [d1, d2] => { results := [.lit (.bool true)], args := [d1, d2] }
  | _ => none }
def fnNamesPartitionTheirTextRow : OpenClaim := { program := "qxb6600507a", sum := "f708420fdcd2d80b7be17bc4440267d2069cc477ba0feb3cec5a19def32747f2", func := "example.com/certmap/certmap/zzlaws_internal_certmap_b1.FnNamesPartitionTheirText", spec := "fnNamesPartitionTheirText", apart := false }
def FnNamesPartitionTheirTextSaid : Prop := fnNamesPartitionTheirTextRow.holds Try.pinned (OpenSpec.ofChange fnNamesPartitionTheirTextSpec)

/-- ITS FALSE NEIGHBOUR: 'it returns false'. Refute it at one input. -/
def fnNamesPartitionTheirTextWrong : ChangeSpec := { name := "fnNamesPartitionTheirText", fn := fun _ => fun
  | [d1, d2] => { results := [.lit (.bool false)], args := [d1, d2] }
  | _ => none }
def FnNamesPartitionTheirTextWrongFalsely : Prop := fnNamesPartitionTheirTextRow.holds Try.pinned (OpenSpec.ofChange fnNamesPartitionTheirTextWrong)

end Rows
end Go.Proofs.Qxb6600507a
