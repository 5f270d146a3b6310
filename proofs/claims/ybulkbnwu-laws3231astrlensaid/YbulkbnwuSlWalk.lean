import Derived.Test.YbulkbnwuSlCalls
namespace Go.Proofs.Ybulkbnwu.st
open Go.RowKit
attribute [local go_sem] run_store_func ta_str ta_int_ok eq.neq25 eq.eql30

/-- The first call, and the second. -/
def Left1 (B : Nat) (m : Int) (w w' : World) : Prop :=
  w'.heap[B]? = some (.cells #[.int .i64 m] 3 (0, 0)) ∧ (∀ b, b < w.heap.size → b ≠ B → w'.heap[b]? = w.heap[b]?) ∧ Below B w w'
theorem applyA (A FB B : Nat) (s : ByteArray) (hs : s.size ≤ 4096) (w : World) (hA : w.cell? ⟨A, 0, none⟩ = some (.iface 9 (.string s))) (hF : w.cell? ⟨FB, 0, none⟩ = some (.func (.func 7) #[] #[.pointer (some ⟨B, 0, none⟩)])) (hB : w.heap[B]? = some (.cells #[.int .i64 0] 3 (0, 0))) :
    Calls Yba.prog 11 #[.slice (some ⟨A, 0, none⟩) 1 1, .pointer (some ⟨FB, 0, none⟩)] w fun e w' => e = .returned (.tuple #[.iface 3 (.int .i64 ((s.size : Int) + 1)), .nilIface]) ∧ Left1 B 1 w w' := by
  refine (apply A FB B 0 s (by omega) hs w hA hF hB).mono ?_
  rintro e w' ⟨rfl, h⟩
  exact ⟨by simp, h⟩
theorem applyB (A FB B : Nat) (s : ByteArray) (hs : s.size ≤ 4096) (w : World) (hA : w.cell? ⟨A, 0, none⟩ = some (.iface 9 (.string s))) (hF : w.cell? ⟨FB, 0, none⟩ = some (.func (.func 7) #[] #[.pointer (some ⟨B, 0, none⟩)])) (hB : w.heap[B]? = some (.cells #[.int .i64 1] 3 (0, 0))) :
    Calls Yba.prog 11 #[.slice (some ⟨A, 0, none⟩) 1 1, .pointer (some ⟨FB, 0, none⟩)] w fun e w' => e = .returned (.tuple #[.iface 3 (.int .i64 ((s.size : Int) + 2)), .nilIface]) ∧ Left1 B 2 w w' := by
  refine (apply A FB B 1 s (by omega) hs w hA hF hB).mono ?_
  rintro e w' ⟨rfl, h⟩
  refine ⟨?_, h⟩
  have : (s.size : Int) + (((1 : Nat) : Int) + 1) = (s.size : Int) + 2 := by omega
  rw [this]

set_option maxHeartbeats 1000000 in
set_option maxRecDepth 100000 in
theorem law (xc rc : Int) (s t : ByteArray) (hs : s.size ≤ 4096) (ht : t.size ≤ 4096) (w : World) :
    Calls Yba.prog 4 #[.int .u64 xc, .int .u64 rc, .string s, .string t] w fun e w' => e = .returned (.bool true) ∧ Below w.heap.size w w' := by
  have hb1 : Below w.heap.size w (w.alloc (.cells #[.int .i64 0] 3)) := (Below.refl _ _).alloc (Nat.le_refl _) _
  have HB1 : Hid (Below w.heap.size w (w.alloc (.cells #[.int .i64 0] 3))) := hb1
  have KB : Hid ((w.alloc (.cells #[.int .i64 0] 3)).heap[w.heap.size]? = some (.cells #[.int .i64 0] 3 (0, 0))) := heap_alloc_new _ _
  clear hb1
  go_enter Yba.func4, Yba.ntmps4
  go_wp2_with fail
  refine (rule xc rc _ _).mono ?_
  rintro e w6 ⟨rfl, ho0, ho1, hfb, hb6, hsz6⟩
  simp only [World.size_alloc] at ho0 ho1 hfb hb6 hsz6
  have KN : Hid (w6.heap[w.heap.size]? = some (.cells #[.int .i64 0] 3 (0, 0))) := (hb6.block _ (by omega)).trans KB.out
  have HB6 : Hid (Below w.heap.size w w6) := HB1.out.trans (hb6.mono (by omega))
  clear HB1 KB hb6
  have hp : ∀ w, (Op.equalIn 9999 23 (.pointer none) (.pointer none)).run Yba.prog w = .ok true w := eq.eqIn23 9998
  go_wp2_with fail
  clear hp
  generalize hW7 : w6.alloc (.cells #[.slice (some ⟨w.heap.size + 1 + 1 + 1 + 1 + 1, 0, none⟩) 1 1, .int .u64 rc, .pointer none, .bool false, .func (.func 11) #[] #[.pointer (some ⟨w.heap.size + 1 + 1 + 1, 0, none⟩)]] 32) = W7
  have hs7 : W7.heap.size = w6.heap.size + 1 := by rw [← hW7]; simp
  have b7 : ∀ b, b < w6.heap.size → W7.heap[b]? = w6.heap[b]? := fun b hb => by rw [← hW7]; exact Below.heap_alloc _ _ _ hb
  have l4 : W7.cell? ⟨w6.heap.size, 4, none⟩ = some (.func (.func 11) #[] #[.pointer (some ⟨w.heap.size + 1 + 1 + 1, 0, none⟩)]) := by
    have h := heap_alloc_new w6 (.cells #[.slice (some ⟨w.heap.size + 1 + 1 + 1 + 1 + 1, 0, none⟩) 1 1, .int .u64 rc, .pointer none, .bool false, .func (.func 11) #[] #[.pointer (some ⟨w.heap.size + 1 + 1 + 1, 0, none⟩)]] 32)
    rw [hW7] at h
    simp [World.cell?, h]
  have HB7 : Hid (Below w.heap.size w W7) := by rw [← hW7]; exact HB6.out.alloc (by omega) _
  have KN7 : W7.heap[w.heap.size]? = some (.cells #[.int .i64 0] 3 (0, 0)) := (b7 _ (by omega)).trans KN.out
  have fb7 : W7.cell? ⟨w.heap.size + 1 + 1 + 1, 0, none⟩ = some (.func (.func 7) #[] #[.pointer (some ⟨w.heap.size, 0, none⟩)]) := by
    rw [← hfb]; exact World.cell?_of_block (w := w6) (b7 _ (by show w.heap.size + 1 + 1 + 1 < _; omega))
  clear hW7 b7 KN HB6 ho0 ho1 hfb
  generalize w6.heap.size = RL at *
  clear w6
  generalize hW8 : W7.alloc (.cells #[.iface 9 (.string s)] 20) = W8
  have hs8 : W8.heap.size = W7.heap.size + 1 := by rw [← hW8]; simp
  have b8 : ∀ b, b < W7.heap.size → W8.heap[b]? = W7.heap[b]? := fun b hb => by rw [← hW8]; exact Below.heap_alloc _ _ _ hb
  have c8 : ∀ (b o : Nat), b < W7.heap.size → W8.cell? ⟨b, o, none⟩ = W7.cell? ⟨b, o, none⟩ := fun b o hb => World.cell?_of_block (w := W7) (b8 b hb)
  have hA : W8.cell? ⟨RL + 1, 0, none⟩ = some (.iface 9 (.string s)) := by
    rw [← hs7, ← hW8]; exact cell_of_one (heap_alloc_new _ _)
  have HB8 : Hid (Below w.heap.size w W8) := by rw [← hW8]; exact HB7.out.alloc (by omega) _
  have fb8 := (c8 _ 0 (by omega)).trans fb7
  have l48 := (c8 _ 4 (by omega)).trans l4
  have KN8 := (b8 _ (by omega)).trans KN7
  clear hW8 b8 c8 fb7 l4 KN7 HB7
  refine (applyA _ _ _ s hs W8 hA fb8 KN8).mono ?_
  rintro e w9 ⟨rfl, k9, o9, b9⟩
  have c9 : ∀ (b o : Nat), b < W8.heap.size → b ≠ w.heap.size → w9.cell? ⟨b, o, none⟩ = W8.cell? ⟨b, o, none⟩ := fun b o hb hne => World.cell?_of_block (w := W8) (o9 b hb hne)
  have fb9 := (c9 _ 0 (by omega) (by omega)).trans fb8
  have l49 := (c9 _ 4 (by omega) (by omega)).trans l48
  have HB9 : Hid (Below w.heap.size w w9) := HB8.out.trans b9
  have KN9 : Hid (w9.heap[w.heap.size]? = some (.cells #[.int .i64 1] 3 (0, 0))) := k9
  have hs9 : W8.heap.size ≤ w9.heap.size := b9.size
  clear k9 o9 b9 c9 hA fb8 l48 KN8 HB8
  go_wp2_with fail
  generalize hW10 : w9.alloc (.cells #[.iface 9 (.string t)] 20) = W10
  have b10 : ∀ b, b < w9.heap.size → W10.heap[b]? = w9.heap[b]? := fun b hb => by rw [← hW10]; exact Below.heap_alloc _ _ _ hb
  have hA : W10.cell? ⟨w9.heap.size, 0, none⟩ = some (.iface 9 (.string t)) := by
    rw [← hW10]; exact cell_of_one (heap_alloc_new _ _)
  have HB10 : Hid (Below w.heap.size w W10) := by rw [← hW10]; exact HB9.out.alloc (by omega) _
  have fb10 : W10.cell? ⟨w.heap.size + 1 + 1 + 1, 0, none⟩ = some (.func (.func 7) #[] #[.pointer (some ⟨w.heap.size, 0, none⟩)]) := by
    rw [← fb9]; exact World.cell?_of_block (w := w9) (b10 _ (by show w.heap.size + 1 + 1 + 1 < _; omega))
  have KN10 := (b10 w.heap.size (by omega)).trans KN9.out
  clear hW10 b10 fb9 l49 KN9 HB9
  refine (applyB _ _ _ t ht W10 hA fb10 KN10).mono ?_
  rintro e w11 ⟨rfl, k11, _, b11⟩
  have hn := cell_of_one k11
  have HB11 : Hid (Below w.heap.size w w11) := HB10.out.trans b11
  clear k11 b11 hA fb10 KN10 HB10
  go_wp2
  go_ret
  exact ⟨rfl, HB11.out⟩
end Go.Proofs.Ybulkbnwu.st
