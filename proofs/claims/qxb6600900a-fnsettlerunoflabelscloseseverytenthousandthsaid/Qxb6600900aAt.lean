/-
  '(*ledger).at' (function 26), of a ring of one slot.
-/
import Derived.Test.Qxb6600900aHold
import Derived.Deep.QuietTactic
import Derived.BigQuiet
namespace Go.Proofs.Qxb6600900a
open Go.RowKit

set_option maxRecDepth 100000 in
set_option maxHeartbeats 1600000 in
theorem at_any (T lb ab act : Nat) (label : Int) (w : World) (ha : act ≤ 65536)
    (h1 : w.cell? ⟨T, 1, none⟩ = some (.int .i64 act)) (h2 : w.cell? ⟨T, 2, none⟩ = some (.int .u64 label)) (h3 : w.cell? ⟨T, 3, none⟩ = some (.int .i64 0)) (h5 : w.cell? ⟨T, 5, none⟩ = some (.slice (some ⟨lb, 0, none⟩) 1 1)) (h6 : w.cell? ⟨T, 6, none⟩ = some (.slice (some ⟨ab, 0, none⟩) act act)) :
    Calls Try.prog 26 #[.pointer (some ⟨T, 1, none⟩), .int .u64 label] w fun e w' => e = .returned (.tuple #[.pointer (some ⟨lb, 0, none⟩), .slice (some ⟨ab, 0, none⟩) act act]) ∧ ∃ n, w' = w.drewN n := by
  have i1 : (0 : Int) ≤ (act : Int) := by omega
  have i2 : (act : Int) ≤ 65536 := by omega
  have i3 : IntKind.i64.wrap (act : Int) = (act : Int) := by rw [IntKind.wrap_i64]; omega
  go_enter Try.func26, Try.ntmps26
  go_wp2_with fail
  go_quiet (fail)
  have hb : bits BinOp.and IntKind.i64 0 0 = 0 := by decide
  rw [hb]
  go_wp2_with fail
  go_quiet (fail)
  go_wp2
  go_ret2
  exact ⟨rfl, _, World.drewN_drewN ..⟩

end Go.Proofs.Qxb6600900a
