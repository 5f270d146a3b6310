import Derived.Test.YbulkbnwuRows
import Derived.WalkKit
import Derived.BigQuiet
import Derived.Deep.QuietTactic
import Derived.Deep.RegionWith
namespace Go.Proofs.Ybulkbnwu.ap
open Go.RowKit

theorem run_store_func {P : Program} {w : World} {a : Addr} {m : Mode} (f : Fn) (x y : Array Value) : (store a (.func f x y) m).run P w = stored P w a (.func f x y) m := run_store P w a _ m rfl
theorem ta_int (v : Value) (w : World) : (Instr.typeAssert (.iface 2 v) 20 2 false).run Yba.prog w = .ok v w := by
  simp [Instr.typeAssert, run_underlying Yba.underlying2]
theorem ta_int_ok (v : Value) (w : World) : (Instr.typeAssert (.iface 2 v) 20 2 true).run Yba.prog w = .ok (.tuple #[v, .bool true]) w := by
  simp [Instr.typeAssert, run_underlying Yba.underlying2]
theorem ta_fault_ok (v : Value) (w : World) : (Instr.typeAssert (.iface 39 v) 35 39 true).run Yba.prog w = .ok (.tuple #[v, .bool true]) w := by
  simp [Instr.typeAssert, run_underlying Yba.underlying39]
attribute [local go_sem] run_store_func ta_int ta_int_ok ta_fault_ok

set_option maxHeartbeats 400000 in
/-- rule1[int64,int64]. -/
theorem rule (xc rc : Int) (fv : Array Value) (w : World) :
    Calls Yba.prog 6 #[.agg #[.int .u64 xc, .pointer none], .agg #[.int .u64 rc, .pointer none], .func (.func 5) #[] fv] w fun e w' =>
      e = .returned (.agg #[.slice (some ⟨w.heap.size + 1 + 1 + 1 + 1, 0, none⟩) 1 1, .int .u64 rc, .pointer none, .bool false, .func (.func 9) #[] #[.pointer (some ⟨w.heap.size + 1 + 1, 0, none⟩)]]) ∧
      w'.cell? ⟨w.heap.size + 1 + 1 + 1 + 1, 0, none⟩ = some (.int .u64 xc) ∧ w'.cell? ⟨w.heap.size + 1 + 1 + 1 + 1, 1, none⟩ = some (.pointer none) ∧ w'.cell? ⟨w.heap.size + 1 + 1, 0, none⟩ = some (.func (.func 5) #[] fv) ∧ Below w.heap.size w w' ∧ w.heap.size + 1 + 1 + 1 + 1 < w'.heap.size := by
  go_enter Yba.func6, Yba.ntmps6
  go_wp2
  refine bodyPost_ret (v := .agg #[.slice (some ⟨w.heap.size + 1 + 1 + 1 + 1, 0, none⟩) 1 1, .int .u64 rc, .pointer none, .bool false, .func (.func 9) #[] #[.pointer (some ⟨w.heap.size + 1 + 1, 0, none⟩)]]) (by simp [results, Yba.results6, go_sem]) rfl ⟨rfl, ?_, ?_, ?_, ?_, ?_⟩
  · simp [go_sem]
  · simp [go_sem]
  · simp [go_sem]
  · exact (((((Below.refl _ _).alloc (Nat.le_refl _) _).alloc (by simp) _).alloc (by simp; omega) _).alloc (by simp; omega) _).alloc (by simp; omega) _
  · simp

/-- (fault).err. -/
theorem err0 (w : World) : Calls Yba.prog 10 #[.int .i64 0] w fun e w' => e = .returned .nilIface ∧ w' = w := by
  go_enter Yba.func10, Yba.ntmps10
  go_wp2
  go_ret
  exact ⟨rfl, rfl⟩
theorem err1 (f : Int) (hf : f ≠ 0) (w : World) : Calls Yba.prog 10 #[.int .i64 f] w fun e w' => e = .returned (.iface 39 (.pointer (some ⟨w.heap.size, 0, none⟩))) ∧ w' = w.alloc (.cells #[.int .i64 f] 42) := by
  have hb : (f == 0) = false := by simpa using hf
  go_enter Yba.func10, Yba.ntmps10
  go_wp2
  go_ret
  exact ⟨rfl, rfl⟩

/-! ### the closure of the law: it logs its argument -/
theorem info2 : (Yba.prog.info? 2).map (fun i => (i.zero, i.size, i.bytes)) = some (some (.int .i64 0), 1, 8) := by kernel_rfl
theorem own_shape {w : World} {base e n : Nat} {v : Value} {xs : List Value} (h : w.ownsRow base e 1 v n xs) (hn : 0 < n) : ∃ g cap, v = .slice (some ⟨g, 0, none⟩) n cap := by
  obtain ⟨_, h2⟩ := h
  rcases h2 with ⟨_, h0⟩ | ⟨g, cap, _, rfl, _⟩
  · omega
  · exact ⟨g, cap, rfl⟩

set_option maxHeartbeats 400000 in
theorem clos (L K E : Nat) (v k fl : Int) (w : World) (hL : w.heap[L]? = some (.cells #[.slice none 0 0] 26 (0, 0))) (hK : w.cell? ⟨K, 0, none⟩ = some (.int .i64 k)) (hE : w.cell? ⟨E, 0, none⟩ = some (.int .i64 fl)) (hKL : K ≠ L) (hEL : E ≠ L) :
    Calls Yba.prog 5 #[.int .i64 v, .pointer (some ⟨L, 0, none⟩), .pointer (some ⟨K, 0, none⟩), .pointer (some ⟨E, 0, none⟩)] w fun e w' =>
      e = .returned (.tuple #[.int .i64 (bits .xor .i64 v k), .int .i64 fl]) ∧ (∃ g cap, w'.heap[L]? = some (.cells #[.slice (some ⟨g, 0, none⟩) 1 cap] 26 (0, 0)) ∧ w'.cell? ⟨g, 0, none⟩ = some (.int .i64 v) ∧ w.heap.size ≤ g ∧ g < w'.heap.size) ∧
      (∀ b, b < w.heap.size → b ≠ L → w'.heap[b]? = w.heap[b]?) ∧ Below L w w' := by
  obtain ⟨i0, hi, hz0, hz1, hz2⟩ := info_parts info2
  have hc := cell_of_one hL
  have hlt := lt_of_block hL
  go_enter Yba.func5, Yba.ntmps5
  go_wp2_with (at_builtin; refine wpList_append_own _ rfl _ _ 26 rfl w.heap.size 2 i0 (.int .i64 0) 1 8 Yba.underlying26 hi hz0 hz1 hz2 rfl (by decide) _ _ _ rfl (World.ownsRow_nil _ _ _ _) ⟨w.heap.size, 0, none⟩ 1 1 [.int .i64 v] rfl rfl ?c1 ?c2 ?c3 ?c4 ?c5 ?_)
  case c1 =>
    intro j u hj
    match j, hj with
    | 0, hj => simp at hj; subst hj; simp [Addr.add]
  case c2 => intro u hu; simp at hu; subst hu; rfl
  case c3 => unfold maxLen; omega
  case c4 => omega
  case c5 => simp
  · intro v' w1 hown' hgrow hiff
    have hb : ∀ b, b < w.heap.size → w1.heap[b]? = w.heap[b]? := fun b hb => by
      rw [hgrow.block b (by simp; omega) (by simp [Value.ownBlock]), Below.heap_alloc _ _ _ hb]
    have hgb : (w.alloc (.cells #[.int .i64 v] 2)).heap.size ≤ w1.heap.size := hgrow.size
    rw [World.size_alloc] at hgb
    rcases hown'.2 with ⟨_, h0⟩ | ⟨g, cap, cur, rfl, hbase, hcur, _⟩
    · omega
    have hcell : w1.cell? ⟨g, 0, none⟩ = some (.int .i64 v) := by
      rw [hown'.cellAt 0 (by omega)]; rfl
    have hL1 : w1.heap[L]? = some (.cells #[.slice none 0 0] 26 (0, 0)) := by rw [hb L hlt]; exact hL
    have hc1 := cell_of_one hL1
    have hf1 := free_of_one hL1
    have hgl := lt_of_block hcur
    have hbw : Below L w w1 := by
      have := (Below.refl L w).alloc (by omega) (.cells #[.int .i64 v] 2)
      exact this.grown hgrow (by simp; omega) (fun k h => by simp [Value.ownBlock] at h)
    generalize hW2 : w1.setCell ⟨L, 0, none⟩ (.slice (some ⟨g, 0, none⟩) 1 cap) = W2
    have hoth : ∀ b, b ≠ L → W2.heap[b]? = w1.heap[b]? := fun b hne => by rw [← hW2]; exact Below.heap_setCell _ _ _ _ hne
    have hK2 : W2.cell? ⟨K, 0, none⟩ = some (.int .i64 k) := by
      rw [← hK]
      exact World.cell?_of_block (w := w) ((hoth K hKL).trans (hb K (by
        rcases Nat.lt_or_ge K w.heap.size with h' | h'
        · exact h'
        · simp [World.cell?, Array.getElem?_eq_none h'] at hK)))
    have hE2 : W2.cell? ⟨E, 0, none⟩ = some (.int .i64 fl) := by
      rw [← hE]
      exact World.cell?_of_block (w := w) ((hoth E hEL).trans (hb E (by
        rcases Nat.lt_or_ge E w.heap.size with h' | h'
        · exact h'
        · simp [World.cell?, Array.getElem?_eq_none h'] at hE)))
    have R : Hid ((∃ g cap, W2.heap[L]? = some (.cells #[.slice (some ⟨g, 0, none⟩) 1 cap] 26 (0, 0)) ∧ W2.cell? ⟨g, 0, none⟩ = some (.int .i64 v) ∧ w.heap.size ≤ g ∧ g < W2.heap.size) ∧ (∀ b, b < w.heap.size → b ≠ L → W2.heap[b]? = w.heap[b]?) ∧ Below L w W2) := by
      refine ⟨⟨g, cap, ?_, ?_, hbase, ?_⟩, fun b h1 h2 => (hoth b h2).trans (hb b h1), ?_⟩
      · rw [← hW2]; exact one_setCell hL1
      · rw [← hcell]; exact World.cell?_of_block (w := w1) (hoth g (by omega))
      · rw [← hW2]; simpa [World.setCell] using hgl
      · rw [← hW2]; exact Below.setCell (p := ⟨L, 0, none⟩) hbw (by exact Nat.le_refl L) _
    have HW : Hid (w1.setCell ⟨L, 0, none⟩ (.slice (some ⟨g, 0, none⟩) 1 cap) = W2) := hW2
    clear hown' hgrow hiff hb hgb hcell hL1 hgl hbw hoth hW2 hL hK hE hc hi hz0 hz1 hz2 hcur
    go_wp2
    rw [HW.out]
    go_quiet (fail)
    go_wp2
    go_ret2
    exact ⟨rfl, R.out.1, R.out.2.1, R.out.2.2.trans ⟨rfl, rfl, rfl, Nat.le_refl _, fun _ _ => rfl⟩⟩

/-- What one call of the closure leaves: the log holds v alone; nothing else that was there has turned. -/
def Left (L : Nat) (w : World) (v : Int) (w' : World) : Prop :=
  (∃ g cap, w'.heap[L]? = some (.cells #[.slice (some ⟨g, 0, none⟩) 1 cap] 26 (0, 0)) ∧ w'.cell? ⟨g, 0, none⟩ = some (.int .i64 v) ∧ w.heap.size ≤ g ∧ g < w'.heap.size) ∧
  (∀ b, b < w.heap.size → b ≠ L → w'.heap[b]? = w.heap[b]?) ∧ Below L w w'
theorem Left.alloc {L : Nat} {w w' : World} {v : Int} (h : Left L w v w') (hL : L < w.heap.size) (o : Obj) : Left L w v (w'.alloc o) := by
  obtain ⟨⟨g, cap, h1, h2, h3, h4⟩, h5, h6⟩ := h
  have hs := h6.size
  refine ⟨⟨g, cap, ?_, ?_, h3, by simp; omega⟩, fun b hb hne => ?_, h6.alloc (by omega) o⟩
  · rw [Below.heap_alloc _ _ _ (by omega)]; exact h1
  · rw [← h2]; exact World.cell?_of_block (w := w') (Below.heap_alloc _ _ _ h4)
  · rw [Below.heap_alloc _ _ _ (by omega)]; exact h5 b hb hne

set_option maxHeartbeats 400000 in
/-- apply: the rule's own closure. -/
theorem apply0 (A FB L K E : Nat) (a k : Int) (w : World) (hA : w.cell? ⟨A, 0, none⟩ = some (.iface 2 (.int .i64 a))) (hF : w.cell? ⟨FB, 0, none⟩ = some (.func (.func 5) #[] #[.pointer (some ⟨L, 0, none⟩), .pointer (some ⟨K, 0, none⟩), .pointer (some ⟨E, 0, none⟩)]))
    (hL : w.heap[L]? = some (.cells #[.slice none 0 0] 26 (0, 0))) (hK : w.cell? ⟨K, 0, none⟩ = some (.int .i64 k)) (hE : w.cell? ⟨E, 0, none⟩ = some (.int .i64 0)) (hKL : K ≠ L) (hEL : E ≠ L) :
    Calls Yba.prog 9 #[.slice (some ⟨A, 0, none⟩) 2 2, .pointer (some ⟨FB, 0, none⟩)] w fun e w' => e = .returned (.tuple #[.iface 2 (.int .i64 (bits .xor .i64 a k)), .nilIface]) ∧ Left L w a w' := by
  go_enter Yba.func9, Yba.ntmps9
  go_wp2_with fail
  go_region_with (go_at_call 5; refine (clos L K E a k 0 _ (by exact hL) (by exact hK) (by exact hE) hKL hEL).mono ?_; rintro e w2 ⟨rfl, hlog, hoth, hbel⟩)
  all_goals
    have R : Hid (Left L w a w2) := ⟨hlog, hoth, (Below.refl L w).drew.trans hbel⟩
    clear hlog hoth hbel hA hF hL hK hE
    go_wp2_with (go_at_call 10; refine (err0 _).mono ?_; rintro e w3 ⟨rfl, rfl⟩)
    go_ret2
    exact ⟨rfl, R.out⟩

set_option maxHeartbeats 400000 in
theorem apply1 (A FB L K E : Nat) (a k fl : Int) (hfl : fl ≠ 0) (w : World) (hA : w.cell? ⟨A, 0, none⟩ = some (.iface 2 (.int .i64 a))) (hF : w.cell? ⟨FB, 0, none⟩ = some (.func (.func 5) #[] #[.pointer (some ⟨L, 0, none⟩), .pointer (some ⟨K, 0, none⟩), .pointer (some ⟨E, 0, none⟩)]))
    (hL : w.heap[L]? = some (.cells #[.slice none 0 0] 26 (0, 0))) (hK : w.cell? ⟨K, 0, none⟩ = some (.int .i64 k)) (hE : w.cell? ⟨E, 0, none⟩ = some (.int .i64 fl)) (hKL : K ≠ L) (hEL : E ≠ L) :
    Calls Yba.prog 9 #[.slice (some ⟨A, 0, none⟩) 2 2, .pointer (some ⟨FB, 0, none⟩)] w fun e w' => (∃ p, e = .returned (.tuple #[.iface 2 (.int .i64 (bits .xor .i64 a k)), .iface 39 (.pointer (some ⟨p, 0, none⟩))]) ∧ w'.cell? ⟨p, 0, none⟩ = some (.int .i64 fl)) ∧ Left L w a w' := by
  have hlt := lt_of_block hL
  go_enter Yba.func9, Yba.ntmps9
  go_wp2_with fail
  go_region_with (go_at_call 5; refine (clos L K E a k fl _ (by exact hL) (by exact hK) (by exact hE) hKL hEL).mono ?_; rintro e w2 ⟨rfl, hlog, hoth, hbel⟩)
  all_goals
    have R : Hid (Left L w a w2) := ⟨hlog, hoth, (Below.refl L w).drew.trans hbel⟩
    clear hlog hoth hbel hA hF hL hK hE
    go_wp2_with (go_at_call 10; refine (err1 fl hfl _).mono ?_; rintro e w3 ⟨rfl, rfl⟩)
    go_ret2
    exact ⟨⟨w2.heap.size, rfl, by simp [go_sem]⟩, R.out.alloc hlt _⟩
end Go.Proofs.Ybulkbnwu.ap
