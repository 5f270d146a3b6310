import Derived.Test.YbulkbnwuRows
import Derived.WalkKit
/-
  '==' on the struct Type, on a function value against nil.
-/
namespace Go.Proofs.Ybulkbnwu.eq
open Go.RowKit
theorem eqIn22 (d : Nat) (x y : Int) (w : World) : (Op.equalIn (d + 1) 22 (.int .u64 x) (.int .u64 y)).run Yba.prog w = .ok (x == y) w := by
  simp [Op.equalIn, run_underlying Yba.underlying22]
theorem eqIn23 (d : Nat) (w : World) : (Op.equalIn (d + 1) 23 (.pointer none) (.pointer none)).run Yba.prog w = .ok true w := by
  simp [Op.equalIn, run_underlying Yba.underlying23]
theorem part22 (x y : Value) (w : World) : (part 22 #[x, y] 0).run Yba.prog w = .ok x w := by
  simp [go_sem, part]
theorem part23 (x y : Value) (w : World) : (part 23 #[x, y] 1).run Yba.prog w = .ok y w := by
  simp [go_sem, part]
theorem eqIn25 (d : Nat) (x y : Int) (w : World) : (Op.equalIn (d + 2) 25 (.agg #[.int .u64 x, .pointer none]) (.agg #[.int .u64 y, .pointer none])).run Yba.prog w = .ok (x == y) w := by
  rw [Op.equalIn]
  simp [run_underlying Yba.underlying25, eqIn22, eqIn23, part22, part23]
  by_cases h : x = y
  · simp [h]
  · simp [h]
theorem neq25 (x : Int) (w : World) : (binOp .neq 25 (.agg #[.int .u64 x, .pointer none]) (.agg #[.int .u64 x, .pointer none])).run Yba.prog w = .ok (.bool false) w := by
  simp only [binOp]
  simp [Op.equal, Op.maxDepth, eqIn25 9998 x x w]
theorem eql30 (f : Fn) (a b : Array Value) (w : World) : (binOp .eql 30 (.func f a b) .nilFunc).run Yba.prog w = .ok (.bool false) w := by
  have h : ∀ d, (Op.equalIn (d + 1) 30 (.func f a b) .nilFunc).run Yba.prog w = .ok false w := fun d => by simp [Op.equalIn, run_underlying Yba.underlying30]
  simp only [binOp]
  simp [Op.equal, Op.maxDepth, h 9999]
end Go.Proofs.Ybulkbnwu.eq
