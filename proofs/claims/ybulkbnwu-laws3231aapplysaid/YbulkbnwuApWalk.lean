import Derived.Test.YbulkbnwuApCalls
import Derived.Test.YbulkbnwuEq
namespace Go.Proofs.Ybulkbnwu.ap
open Go.RowKit
attribute [local go_sem] run_store_func ta_int ta_int_ok ta_fault_ok eq.neq25 eq.eql30

/-- The world behind the law's own five variables. -/
def five (w : World) (xc rc k fl : Int) : World :=
  ((((w.alloc (.cells #[.int .i64 k] 2)).alloc (.cells #[.int .i64 fl] 3)).alloc (.cells #[.int .u64 xc, .pointer none] 25)).alloc (.cells #[.int .u64 rc, .pointer none] 25)).alloc (.cells #[.slice none 0 0] 26)
theorem size_five (w : World) (xc rc k fl : Int) : (five w xc rc k fl).heap.size = w.heap.size + 1 + 1 + 1 + 1 + 1 := by simp [five]
theorem below_five (w : World) (xc rc k fl : Int) : Below w.heap.size w (five w xc rc k fl) :=
  (((((Below.refl _ _).alloc (Nat.le_refl _) _).alloc (by simp) _).alloc (by simp; omega) _).alloc (by simp; omega) _).alloc (by simp; omega) _
theorem blocks_five (w : World) (xc rc k fl : Int) : (five w xc rc k fl).heap[w.heap.size]? = some (.cells #[.int .i64 k] 2 (0, 0)) ∧ (five w xc rc k fl).heap[w.heap.size + 1]? = some (.cells #[.int .i64 fl] 3 (0, 0)) ∧ (five w xc rc k fl).heap[w.heap.size + 1 + 1]? = some (.cells #[.int .u64 xc, .pointer none] 25 (0, 0)) ∧
    (five w xc rc k fl).heap[w.heap.size + 1 + 1 + 1]? = some (.cells #[.int .u64 rc, .pointer none] 25 (0, 0)) ∧ (five w xc rc k fl).heap[w.heap.size + 1 + 1 + 1 + 1]? = some (.cells #[.slice none 0 0] 26 (0, 0)) := by
  unfold five
  refine ⟨?_, ?_, ?_, ?_, ?_⟩
  · rw [Below.heap_alloc _ _ _ (by simp <;> omega), Below.heap_alloc _ _ _ (by simp <;> omega), Below.heap_alloc _ _ _ (by simp <;> omega), Below.heap_alloc _ _ _ (by simp)]
    exact heap_alloc_new _ _
  · rw [Below.heap_alloc _ _ _ (by simp <;> omega), Below.heap_alloc _ _ _ (by simp <;> omega), Below.heap_alloc _ _ _ (by simp)]
    have := heap_alloc_new (w.alloc (.cells #[.int .i64 k] 2)) (.cells #[.int .i64 fl] 3)
    rwa [World.size_alloc] at this
  · rw [Below.heap_alloc _ _ _ (by simp <;> omega), Below.heap_alloc _ _ _ (by simp)]
    have := heap_alloc_new ((w.alloc (.cells #[.int .i64 k] 2)).alloc (.cells #[.int .i64 fl] 3)) (.cells #[.int .u64 xc, .pointer none] 25)
    rwa [World.size_alloc, World.size_alloc] at this
  · rw [Below.heap_alloc _ _ _ (by simp)]
    have := heap_alloc_new (((w.alloc (.cells #[.int .i64 k] 2)).alloc (.cells #[.int .i64 fl] 3)).alloc (.cells #[.int .u64 xc, .pointer none] 25)) (.cells #[.int .u64 rc, .pointer none] 25)
    rwa [World.size_alloc, World.size_alloc, World.size_alloc] at this
  · have := heap_alloc_new ((((w.alloc (.cells #[.int .i64 k] 2)).alloc (.cells #[.int .i64 fl] 3)).alloc (.cells #[.int .u64 xc, .pointer none] 25)).alloc (.cells #[.int .u64 rc, .pointer none] 25)) (.cells #[.slice none 0 0] 26)
    rwa [World.size_alloc, World.size_alloc, World.size_alloc, World.size_alloc] at this

theorem cells2_of {w : World} {b t : Nat} {x y : Value} (h : w.heap[b]? = some (.cells #[x, y] t (0, 0))) : w.cell? ⟨b, 0, none⟩ = some x ∧ w.cell? ⟨b, 1, none⟩ = some y := by
  constructor <;> simp [World.cell?, h]

set_option maxHeartbeats 1000000 in
set_option maxRecDepth 100000 in
theorem law (xc rc a k fl : Int) (w : World) :
    Calls Yba.prog 3 #[.int .u64 xc, .int .u64 rc, .int .i64 a, .int .i64 k, .int .i64 fl] w fun e w' => e = .returned (.bool true) ∧ Below w.heap.size w w' := by
  obtain ⟨W5, hW5⟩ : ∃ W5, W5 = five w xc rc k fl := ⟨_, rfl⟩
  have H5 : Hid (W5 = five w xc rc k fl) := hW5
  have hs5 : W5.heap.size = w.heap.size + 1 + 1 + 1 + 1 + 1 := by rw [hW5]; exact size_five _ _ _ _ _
  have hb5 : Below w.heap.size w W5 := by rw [hW5]; exact below_five _ _ _ _ _
  have hc5 := blocks_five w xc rc k fl
  rw [← hW5] at hc5
  obtain ⟨k1, k2, k3, k4, k5⟩ := hc5
  clear hW5
  have HB5 : Hid (Below w.heap.size w W5) := hb5
  have K1 : Hid (W5.heap[w.heap.size]? = some (.cells #[.int .i64 k] 2 (0, 0))) := k1
  have K2 : Hid (W5.heap[w.heap.size + 1]? = some (.cells #[.int .i64 fl] 3 (0, 0))) := k2
  have K3 : Hid (W5.heap[w.heap.size + 1 + 1]? = some (.cells #[.int .u64 xc, .pointer none] 25 (0, 0))) := k3
  have K4 : Hid (W5.heap[w.heap.size + 1 + 1 + 1]? = some (.cells #[.int .u64 rc, .pointer none] 25 (0, 0))) := k4
  have K5 : Hid (W5.heap[w.heap.size + 1 + 1 + 1 + 1]? = some (.cells #[.slice none 0 0] 26 (0, 0))) := k5
  clear k1 k2 k3 k4 k5 hb5
  go_enter Yba.func3, Yba.ntmps3
  go_wp2_with fail
  have e5 : ((((w.alloc (.cells #[.int .i64 k] 2)).alloc (.cells #[.int .i64 fl] 3)).alloc (.cells #[.int .u64 xc, .pointer none] 25)).alloc (.cells #[.int .u64 rc, .pointer none] 25)).alloc (.cells #[.slice none 0 0] 26) = W5 := H5.out.symm
  rw [e5]
  clear e5 H5
  refine (rule xc rc _ W5).mono ?_
  rintro e w6 ⟨rfl, ho0, ho1, hfb, hb6, hsz6⟩
  have b6 : ∀ b, b < W5.heap.size → w6.heap[b]? = W5.heap[b]? := hb6.block
  generalize hS : W5.heap.size = S at *
  have hx := cells2_of ((b6 _ (by omega)).trans K3.out)
  have hr := cells2_of ((b6 _ (by omega)).trans K4.out)
  have hk := cell_of_one ((b6 _ (by omega)).trans K1.out)
  have hf := cell_of_one ((b6 _ (by omega)).trans K2.out)
  have KL : Hid (w6.heap[w.heap.size + 1 + 1 + 1 + 1]? = some (.cells #[.slice none 0 0] 26 (0, 0))) := (b6 _ (by omega)).trans K5.out
  have hl := cell_of_one KL.out
  have HB6 : Hid (Below w.heap.size w w6) := HB5.out.trans (hb6.mono (by omega))
  obtain ⟨hx0, hx1⟩ := hx
  obtain ⟨hr0, hr1⟩ := hr
  clear K1 K2 K3 K4 K5 HB5 b6 hb6
  have HS5 : Hid (S = w.heap.size + 1 + 1 + 1 + 1 + 1) := hs5
  have hlow : w.heap.size + 1 + 1 + 1 + 1 < w6.heap.size := by omega
  clear hs5 hS
  go_wp2_with fail
  generalize hW7 : w6.alloc (.cells #[.slice (some ⟨S + 1 + 1 + 1 + 1, 0, none⟩) 1 1, .int .u64 rc, .pointer none, .bool false, .func (.func 9) #[] #[.pointer (some ⟨S + 1 + 1, 0, none⟩)]] 32) = W7
  have b7 : ∀ b, b < w6.heap.size → W7.heap[b]? = w6.heap[b]? := fun b hb => by rw [← hW7]; exact Below.heap_alloc _ _ _ hb
  have c7 : ∀ (b o : Nat), b < w6.heap.size → W7.cell? ⟨b, o, none⟩ = w6.cell? ⟨b, o, none⟩ := fun b o hb => World.cell?_of_block (w := w6) (b7 b hb)
  have hRL : W7.heap[w6.heap.size]? = some (.cells #[.slice (some ⟨S + 1 + 1 + 1 + 1, 0, none⟩) 1 1, .int .u64 rc, .pointer none, .bool false, .func (.func 9) #[] #[.pointer (some ⟨S + 1 + 1, 0, none⟩)]] 32 (0, 0)) := by rw [← hW7]; exact heap_alloc_new _ _
  have l0 : W7.cell? ⟨w6.heap.size, 0, none⟩ = some (.slice (some ⟨S + 1 + 1 + 1 + 1, 0, none⟩) 1 1) := by simp [World.cell?, hRL]
  have l1 : W7.cell? ⟨w6.heap.size, 1, none⟩ = some (.int .u64 rc) := by simp [World.cell?, hRL]
  have l2 : W7.cell? ⟨w6.heap.size, 2, none⟩ = some (.pointer none) := by simp [World.cell?, hRL]
  have l3 : W7.cell? ⟨w6.heap.size, 3, none⟩ = some (.bool false) := by simp [World.cell?, hRL]
  have l4 : W7.cell? ⟨w6.heap.size, 4, none⟩ = some (.func (.func 9) #[] #[.pointer (some ⟨S + 1 + 1, 0, none⟩)]) := by simp [World.cell?, hRL]
  have HB7 : Hid (Below w.heap.size w W7) := by rw [← hW7]; exact HB6.out.alloc (by omega) _
  have KL7 : Hid (W7.heap[w.heap.size + 1 + 1 + 1 + 1]? = some (.cells #[.slice none 0 0] 26 (0, 0))) := (b7 _ hlow).trans KL.out
  have hs7 : W7.heap.size = w6.heap.size + 1 := by rw [← hW7]; simp
  rw [← c7 _ _ (by omega)] at ho0 ho1 hfb hk hf hl hx0 hx1 hr0 hr1
  clear hRL c7 b7 hW7 KL HB6
  generalize w6.heap.size = RL at *
  clear w6
  have HS7 : Hid (W7.heap.size = RL + 1) := hs7
  clear hs7
  have hn25 := eq.neq25
  have he30 := eq.eql30
  go_quiet (fail)
  clear hn25 he30
  go_wp2_with fail
  generalize hW8 : (W7.drewN nq).alloc (.cells #[.iface 2 (.int .i64 a), .iface 9 (.string ⟨#[101, 120, 116, 114, 97]⟩)] 20) = W8
  have hs8 : W8.heap.size = W7.heap.size + 1 := by rw [← hW8]; simp
  have b8 : ∀ b, b < W7.heap.size → W8.heap[b]? = W7.heap[b]? := fun b hb => by rw [← hW8]; exact Below.heap_alloc (W7.drewN nq) _ _ hb
  have c8 : ∀ (b o : Nat), b < W7.heap.size → W8.cell? ⟨b, o, none⟩ = W7.cell? ⟨b, o, none⟩ := fun b o hb => World.cell?_of_block (w := W7) (b8 b hb)
  have hA : W8.cell? ⟨W7.heap.size, 0, none⟩ = some (.iface 2 (.int .i64 a)) := by
    have h : W8.heap[W7.heap.size]? = some (.cells #[.iface 2 (.int .i64 a), .iface 9 (.string ⟨#[101, 120, 116, 114, 97]⟩)] 20 (0, 0)) := by rw [← hW8]; exact heap_alloc_new (W7.drewN nq) _
    exact (cells2_of h).1
  have hsz := HS7.out
  have hfb8 := (c8 (S + 1 + 1) 0 (by omega)).trans hfb
  have hL8 := (b8 _ (by omega)).trans KL7.out
  have hk8 := (c8 _ 0 (by omega)).trans hk
  have hf8 := (c8 _ 0 (by omega)).trans hf
  have HB8 : Hid (Below w.heap.size w W8) := by
    rw [← hW8]
    have : Below w.heap.size w (W7.drewN nq) := HB7.out.trans ⟨rfl, rfl, rfl, Nat.le_refl _, fun _ _ => rfl⟩
    exact this.alloc (by show _ ≤ W7.heap.size; omega) _
  clear hW8 c8 b8 hr0 hr1 hx0 hx1 hl hf hk hfb ho0 ho1 l0 l1 l2 l3 l4 HB7 KL7
  by_cases hfl : fl = 0
  · subst hfl
    refine (apply0 _ _ _ _ _ a k W8 hA hfb8 hL8 hk8 hf8 (by omega) (by omega)).mono ?_
    rintro e w9 ⟨rfl, ⟨g, cap, h1, h2, h3, h4⟩, h5, h6⟩
    have hl9 := cell_of_one h1
    have hk9 : w9.cell? ⟨w.heap.size, 0, none⟩ = some (.int .i64 k) := by rw [← hk8]; exact World.cell?_of_block (w := W8) (h5 _ (by show w.heap.size < _; omega) (by show w.heap.size ≠ _; omega))
    have hf9 : w9.cell? ⟨w.heap.size + 1, 0, none⟩ = some (.int .i64 0) := by rw [← hf8]; exact World.cell?_of_block (w := W8) (h5 _ (by show w.heap.size + 1 < _; omega) (by show w.heap.size + 1 ≠ _; omega))
    have HB9 : Hid (Below w.heap.size w w9) := HB8.out.trans (h6.mono (by omega))
    clear h1 h5 h6 hA hfb8 hL8 hk8 hf8 HB8 hsz hs8 h3 h4
    go_wp2
    go_ret
    exact ⟨rfl, HB9.out⟩
  · refine (apply1 _ _ _ _ _ a k fl hfl W8 hA hfb8 hL8 hk8 hf8 (by omega) (by omega)).mono ?_
    rintro e w9 ⟨⟨p, rfl, hp⟩, ⟨g, cap, h1, h2, h3, h4⟩, h5, h6⟩
    have hl9 := cell_of_one h1
    have hk9 : w9.cell? ⟨w.heap.size, 0, none⟩ = some (.int .i64 k) := by rw [← hk8]; exact World.cell?_of_block (w := W8) (h5 _ (by show w.heap.size < _; omega) (by show w.heap.size ≠ _; omega))
    have hf9 : w9.cell? ⟨w.heap.size + 1, 0, none⟩ = some (.int .i64 fl) := by rw [← hf8]; exact World.cell?_of_block (w := W8) (h5 _ (by show w.heap.size + 1 < _; omega) (by show w.heap.size + 1 ≠ _; omega))
    have HB9 : Hid (Below w.heap.size w w9) := HB8.out.trans (h6.mono (by omega))
    have hflb : (fl == 0) = false := by simpa using hfl
    clear h1 h5 h6 hA hfb8 hL8 hk8 hf8 HB8 hsz hs8 h3 h4
    go_wp2
    go_quiet (fail)
    go_wp2
    go_ret
    exact ⟨rfl, HB9.out.trans ⟨rfl, rfl, rfl, Nat.le_refl _, fun _ _ => rfl⟩⟩
end Go.Proofs.Ybulkbnwu.ap
