import Derived.Test.YbulkbnyyFlt
import Derived.LaidEqlPtr
namespace Go.Proofs.Ybulkbnyy.sd
open Go.RowKit

theorem cv (p : Int) (w : World) : (convert 21 24 (.int .i32 p)).run Yba.prog w = .ok (.float .f64 (FloatKind.f64.nearest p)) w := by
  simp [convert, run_underlying Yba.underlying21, run_underlying Yba.underlying24, Conv.intToFloat]
theorem vc (p : Int) (h0 : -2147483648 ≤ p) (h1 : p ≤ 2147483647) (w : World) : (convert 24 3 (.float .f64 (FloatKind.f64.nearest p))).run Yba.prog w = .ok (.int .i64 p) w := by
  have e : (convert 24 3 (.float .f64 (FloatKind.f64.nearest p))).run Yba.prog w = (Conv.floatToInt .f64 (FloatKind.f64.nearest p) .i64).run Yba.prog w := by
    simp [convert, run_underlying Yba.underlying24, run_underlying Yba.underlying3]
  have hm : IntKind.i64.min ≤ p ∧ p ≤ IntKind.i64.max := by
    simp [IntKind.min, IntKind.max, IntKind.signed, IntKind.bits]; omega
  rw [e]
  unfold Conv.floatToInt
  simp only [flt.back p h0 h1]
  rw [if_pos hm]
  rfl
theorem oo (p : Int) (h0 : -2147483648 ≤ p) (h1 : p ≤ 2147483647) : FloatKind.f64.format.order (FloatKind.f64.nearest p) (FloatKind.f64.nearest p) = some .eq := by
  have h := flt.self_eq p h0 h1
  simpa [Op.floatEq] using h
theorem ee (p : Int) (h0 : -2147483648 ≤ p) (h1 : p ≤ 2147483647) (w : World) : (binOp .eql 24 (.float .f64 (FloatKind.f64.nearest p)) (.float .f64 (FloatKind.f64.nearest p))).run Yba.prog w = .ok (.bool true) w := by
  simp only [binOp]
  simp [Op.floatCmp, oo p h0 h1]

theorem pe (a : Addr) (w : World) : (binOp .eql 25 (.pointer (some a)) (.pointer (some a))).run Yba.prog w = .ok (.bool true) w := by
  have h : (Yba.prog.info? 31).isSome = true := by kernel_rfl
  obtain ⟨j, hj⟩ := Option.isSome_iff_exists.1 h
  exact run_eql_ptr_same w a Yba.underlying25 hj

set_option maxHeartbeats 400000 in
theorem law_only (p d pr ask : Int) (h0 : -2147483648 ≤ p) (h1 : p ≤ 2147483647) (w : World) :
    Calls Yba.prog 4 #[.int .i32 p, .int .i64 d, .bool true, .int .i64 pr, .int .i64 ask] w fun e w' => e = .returned (.bool true) ∧ Below w.heap.size w w' := by
  have hcv := fun w => cv p w
  have hvc := fun w => vc p h0 h1 w
  have hee := fun w => ee p h0 h1 w
  have hoo := oo p h0 h1
  have hpe := pe
  generalize FloatKind.f64.nearest p = b at *
  go_enter Yba.func4, Yba.ntmps4
  go_wp2
  go_ret
  refine ⟨rfl, ?_⟩
  exact ((Below.refl _ _).alloc (Nat.le_refl _) _).alloc (by simp) _
set_option maxHeartbeats 400000 in
theorem law_not (p d pr ask : Int) (h0 : -2147483648 ≤ p) (h1 : p ≤ 2147483647) (w : World) :
    Calls Yba.prog 4 #[.int .i32 p, .int .i64 d, .bool false, .int .i64 pr, .int .i64 ask] w fun e w' => e = .returned (.bool true) ∧ Below w.heap.size w w' := by
  have hcv := fun w => cv p w
  have hee := fun w => ee p h0 h1 w
  have hoo := oo p h0 h1
  have hpe := pe
  generalize FloatKind.f64.nearest p = b at *
  go_enter Yba.func4, Yba.ntmps4
  go_wp2
  go_ret
  refine ⟨rfl, ?_⟩
  exact ((Below.refl _ _).alloc (Nat.le_refl _) _).alloc (by simp) _
end Go.Proofs.Ybulkbnyy.sd
