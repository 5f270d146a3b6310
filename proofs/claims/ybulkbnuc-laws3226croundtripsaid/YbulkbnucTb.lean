import Derived.Test.YbulkbnucCp
namespace Go.Proofs.Ybulkbnuc.tb
open Go.RowKit Go.Proofs.Ybulkbnuc.sl Go.Proofs.Ybulkbnuc.uv Go.Proofs.Ybulkbnuc.cp

set_option maxHeartbeats 400000 in
/-- zzs3226ctable. -/
theorem table (F : Nat → Int) (w : World) :
    Calls Yba.prog 16 #[.agg #[.int .i64 (F 0), .int .i64 (F 1), .int .i64 (F 2), .int .i64 (F 3), .int .i64 (F 4), .int .i64 (F 5), .int .i64 (F 6), .int .i64 (F 7)]] w fun e w' => e = .returned (.pointer (some ⟨w.heap.size + 1, 0, none⟩)) ∧ (∀ i, i < 8 → w'.cell? ⟨w.heap.size + 1, i + 1, none⟩ = some (.int .i64 (F i))) ∧ Below w.heap.size w w' ∧ w.heap.size + 1 < w'.heap.size := by
  go_enter Yba.func16, Yba.ntmps16
  go_wp2
  go_ret
  refine ⟨rfl, fun i hi => ?_, ((Below.refl _ _).alloc (Nat.le_refl _) _).alloc (by simp) _, by simp⟩
  have : i = 0 ∨ i = 1 ∨ i = 2 ∨ i = 3 ∨ i = 4 ∨ i = 5 ∨ i = 6 ∨ i = 7 := by omega
  rcases this with rfl | rfl | rfl | rfl | rfl | rfl | rfl | rfl <;> simp [go_sem]

set_option maxHeartbeats 400000 in
/-- zzs3226cvals. -/
theorem vals (F : Nat → Int) (w : World) :
    Calls Yba.prog 17 #[.agg #[.int .i64 (F 0), .int .i64 (F 1), .int .i64 (F 2), .int .i64 (F 3), .int .i64 (F 4), .int .i64 (F 5), .int .i64 (F 6), .int .i64 (F 7)]] w fun e w' => e = .returned (.agg #[.int .i64 (F 0), .int .i64 (F 1), .int .i64 (F 2), .int .i64 (F 3), .int .i64 (F 4), .int .i64 (F 5), .int .i64 (F 6), .int .i64 (F 7)]) ∧ Below w.heap.size w w' := by
  go_enter Yba.func17, Yba.ntmps17
  go_wp2
  exact bodyPost_ret (v := .agg #[.int .i64 (F 0), .int .i64 (F 1), .int .i64 (F 2), .int .i64 (F 3), .int .i64 (F 4), .int .i64 (F 5), .int .i64 (F 6), .int .i64 (F 7)]) (by simp [results, Yba.results17, go_sem]) rfl ⟨rfl, ((Below.refl _ _).alloc (Nat.le_refl _) _).alloc (by simp) _⟩

end Go.Proofs.Ybulkbnuc.tb
