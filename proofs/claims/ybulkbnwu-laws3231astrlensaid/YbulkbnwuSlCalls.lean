import Derived.Test.YbulkbnwuEq
import Derived.Deep.RegionWith
/-
  rule1[string,int], its apply and the law's closure by contracts.
-/
namespace Go.Proofs.Ybulkbnwu.st
open Go.RowKit

theorem run_store_func {P : Program} {w : World} {a : Addr} {m : Mode} (f : Fn) (x y : Array Value) : (store a (.func f x y) m).run P w = stored P w a (.func f x y) m := run_store P w a _ m rfl
theorem ta_str (v : Value) (w : World) : (Instr.typeAssert (.iface 9 v) 20 9 false).run Yba.prog w = .ok v w := by
  simp [Instr.typeAssert, run_underlying Yba.underlying9]
theorem ta_int_ok (v : Value) (w : World) : (Instr.typeAssert (.iface 3 v) 20 3 true).run Yba.prog w = .ok (.tuple #[v, .bool true]) w := by
  simp [Instr.typeAssert, run_underlying Yba.underlying3]
attribute [local go_sem] run_store_func ta_str ta_int_ok

set_option maxHeartbeats 400000 in
/-- rule1[string,int]. -/
theorem rule (xc rc : Int) (fv : Array Value) (w : World) :
    Calls Yba.prog 8 #[.agg #[.int .u64 xc, .pointer none], .agg #[.int .u64 rc, .pointer none], .func (.func 7) #[] fv] w fun e w' =>
      e = .returned (.agg #[.slice (some ⟨w.heap.size + 1 + 1 + 1 + 1, 0, none⟩) 1 1, .int .u64 rc, .pointer none, .bool false, .func (.func 11) #[] #[.pointer (some ⟨w.heap.size + 1 + 1, 0, none⟩)]]) ∧
      w'.cell? ⟨w.heap.size + 1 + 1 + 1 + 1, 0, none⟩ = some (.int .u64 xc) ∧ w'.cell? ⟨w.heap.size + 1 + 1 + 1 + 1, 1, none⟩ = some (.pointer none) ∧ w'.cell? ⟨w.heap.size + 1 + 1, 0, none⟩ = some (.func (.func 7) #[] fv) ∧ Below w.heap.size w w' ∧ w.heap.size + 1 + 1 + 1 + 1 < w'.heap.size := by
  go_enter Yba.func8, Yba.ntmps8
  go_wp2
  refine bodyPost_ret (v := .agg #[.slice (some ⟨w.heap.size + 1 + 1 + 1 + 1, 0, none⟩) 1 1, .int .u64 rc, .pointer none, .bool false, .func (.func 11) #[] #[.pointer (some ⟨w.heap.size + 1 + 1, 0, none⟩)]]) (by simp [results, Yba.results8, go_sem]) rfl ⟨rfl, ?_, ?_, ?_, ?_, ?_⟩
  · simp [go_sem]
  · simp [go_sem]
  · simp [go_sem]
  · exact (((((Below.refl _ _).alloc (Nat.le_refl _) _).alloc (by simp) _).alloc (by simp; omega) _).alloc (by simp; omega) _).alloc (by simp; omega) _
  · simp

/-- (fault).err at no fault. -/
theorem err0 (w : World) : Calls Yba.prog 10 #[.int .i64 0] w fun e w' => e = .returned .nilIface ∧ w' = w := by
  go_enter Yba.func10, Yba.ntmps10
  go_wp2
  go_ret
  exact ⟨rfl, rfl⟩

set_option maxHeartbeats 400000 in
theorem clos (B n : Nat) (s : ByteArray) (hn : n ≤ 10) (hs : s.size ≤ 4096) (w : World) (hB : w.heap[B]? = some (.cells #[.int .i64 n] 3 (0, 0))) :
    Calls Yba.prog 7 #[.string s, .pointer (some ⟨B, 0, none⟩)] w fun e w' => e = .returned (.tuple #[.int .i64 ((s.size : Int) + (n + 1)), .int .i64 0]) ∧ w' = w.setCell ⟨B, 0, none⟩ (.int .i64 ((n : Int) + 1)) := by
  have hc := cell_of_one hB
  have hf := free_of_one hB
  clear hB
  go_enter Yba.func7, Yba.ntmps7
  go_wp2
  go_ret2
  exact ⟨rfl, rfl⟩

/-- What one call leaves: the counter one higher; nothing else that was there has turned. -/
def Left (B n : Nat) (w w' : World) : Prop :=
  w'.heap[B]? = some (.cells #[.int .i64 (n + 1 : Nat)] 3 (0, 0)) ∧ (∀ b, b < w.heap.size → b ≠ B → w'.heap[b]? = w.heap[b]?) ∧ Below B w w'

set_option maxHeartbeats 400000 in
/-- apply. -/
theorem apply (A FB B n : Nat) (s : ByteArray) (hn : n ≤ 10) (hs : s.size ≤ 4096) (w : World) (hA : w.cell? ⟨A, 0, none⟩ = some (.iface 9 (.string s))) (hF : w.cell? ⟨FB, 0, none⟩ = some (.func (.func 7) #[] #[.pointer (some ⟨B, 0, none⟩)])) (hB : w.heap[B]? = some (.cells #[.int .i64 n] 3 (0, 0))) :
    Calls Yba.prog 11 #[.slice (some ⟨A, 0, none⟩) 1 1, .pointer (some ⟨FB, 0, none⟩)] w fun e w' => e = .returned (.tuple #[.iface 3 (.int .i64 ((s.size : Int) + (n + 1))), .nilIface]) ∧ Left B n w w' := by
  have R : Hid (Left B n w (w.drew.setCell ⟨B, 0, none⟩ (.int .i64 ((n : Int) + 1)))) := by
    refine ⟨?_, fun b hb hne => ?_, ?_⟩
    · exact one_setCell (w := w.drew) hB
    · exact Below.heap_setCell w.drew _ _ _ hne
    · exact Below.setCell (p := ⟨B, 0, none⟩) (Below.refl B w).drew (by exact Nat.le_refl B) _
  go_enter Yba.func11, Yba.ntmps11
  go_wp2_with fail
  go_region_with (go_at_call 7; refine (clos B n s hn hs _ (by exact hB)).mono ?_; rintro e w2 ⟨rfl, rfl⟩)
  all_goals
    clear hA hF hB
    go_wp2_with (go_at_call 10; refine (err0 _).mono ?_; rintro e w3 ⟨rfl, rfl⟩)
    go_ret2
    exact ⟨rfl, R.out⟩
end Go.Proofs.Ybulkbnwu.st
