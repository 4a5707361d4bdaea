import Derived.Test.Qxb6600900aMem
namespace Go.Proofs.Qxb6600900a
open Go.RowKit

theorem eq22 (d : Nat) (a b : Nat) (w : World) : (Op.equalIn (d + 1) 22 (.float .f64 a) (.float .f64 b)).run Try.prog w = .ok (Op.floatEq .f64 a b) w := by
  simp [Op.equalIn, run_underlying Try.underlying22]

theorem eq24 (d : Nat) (a b c a' b' c' : Nat) (w : World) (h0 : Op.floatEq .f64 a a' = true) (h1 : Op.floatEq .f64 b b' = true) (h2 : Op.floatEq .f64 c c' = true) :
    (Op.equalIn (d + 2) 24 (.agg #[.float .f64 a, .float .f64 b, .float .f64 c]) (.agg #[.float .f64 a', .float .f64 b', .float .f64 c'])).run Try.prog w = .ok true w := by
  rw [Op.equalIn]
  simp [run_underlying Try.underlying24, part, eq22, h0, h1, h2, List.range']

theorem eq27 (d : Nat) (x y : Nat → Nat) (w : World) (h : ∀ t, t < 9 → Op.floatEq .f64 (x t) (y t) = true) :
    (Op.equalIn (d + 3) 27 (.agg #[.float .f64 (x 0), .float .f64 (x 1), .float .f64 (x 2), .float .f64 (x 3), .float .f64 (x 4), .float .f64 (x 5), .float .f64 (x 6), .float .f64 (x 7), .float .f64 (x 8)]) (.agg #[.float .f64 (y 0), .float .f64 (y 1), .float .f64 (y 2), .float .f64 (y 3), .float .f64 (y 4), .float .f64 (y 5), .float .f64 (y 6), .float .f64 (y 7), .float .f64 (y 8)])).run Try.prog w = .ok true w := by
  rw [Op.equalIn]
  simp [run_underlying Try.underlying27, part, List.range', eq24, h]

/-- '!=' on two [3]float64 that are equal, one by one. -/
theorem run_neq24 (a b c a' b' c' : Nat) (w : World) (h0 : Op.floatEq .f64 a a' = true) (h1 : Op.floatEq .f64 b b' = true) (h2 : Op.floatEq .f64 c c' = true) :
    (binOp .neq 24 (.agg #[.float .f64 a, .float .f64 b, .float .f64 c]) (.agg #[.float .f64 a', .float .f64 b', .float .f64 c'])).run Try.prog w = .ok (.bool false) w := by
  simp only [binOp]
  simp [Op.equal, Op.maxDepth, eq24 9998 a b c a' b' c' w h0 h1 h2]

theorem run_neq27 (x y : Nat → Nat) (w : World) (h : ∀ t, t < 9 → Op.floatEq .f64 (x t) (y t) = true) :
    (binOp .neq 27 (.agg #[.float .f64 (x 0), .float .f64 (x 1), .float .f64 (x 2), .float .f64 (x 3), .float .f64 (x 4), .float .f64 (x 5), .float .f64 (x 6), .float .f64 (x 7), .float .f64 (x 8)]) (.agg #[.float .f64 (y 0), .float .f64 (y 1), .float .f64 (y 2), .float .f64 (y 3), .float .f64 (y 4), .float .f64 (y 5), .float .f64 (y 6), .float .f64 (y 7), .float .f64 (y 8)])).run Try.prog w = .ok (.bool false) w := by
  simp only [binOp]
  simp [Op.equal, Op.maxDepth, eq27 9997 x y w h]

end Go.Proofs.Qxb6600900a
