import Derived.Test.YbulkbnucTb
import Derived.Deep.RegionHeld3
namespace Go.Proofs.Ybulkbnuc.tb
open Go.RowKit Go.Proofs.Ybulkbnuc.sl Go.Proofs.Ybulkbnuc.uv Go.Proofs.Ybulkbnuc.cp
/-- The uvarints of the first k fields, each of its 64 bits as an unsigned number. -/
def ua (F : Nat → Int) : Nat → List Int
  | 0 => []
  | k + 1 => ua F k ++ uv (IntKind.u64.wrap (F k))
theorem u64_bd (n : Int) : 0 ≤ IntKind.u64.wrap n ∧ IntKind.u64.wrap n < 18446744073709551616 := by
  have : IntKind.u64.wrap n = n % 18446744073709551616 := by simp [IntKind.wrap, IntKind.bits, IntKind.signed]
  rw [this]; omega
theorem uv_len (v : Int) : 1 ≤ (uv v).length ∧ (uv v).length ≤ 11 := uvF_len 10 v

set_option maxHeartbeats 1000000 in
/-- appendTable. -/
theorem apt (F : Nat → Int) (g cap T : Nat) (bs : List Int) (w : World) (hT : ∀ i, i < 8 → w.cell? ⟨T, i + 1, none⟩ = some (.int .i64 (F i))) (hs : Sl w g cap bs) (hlen : bs.length ≤ 2000) :
    Calls Yba.prog 15 #[.slice (some ⟨g, 0, none⟩) bs.length cap, .pointer (some ⟨T, 0, none⟩)] w fun e w' => ∃ g' cap', e = .returned (.slice (some ⟨g', 0, none⟩) (bs ++ ua F 8).length cap') ∧ Sl w' g' cap' (bs ++ ua F 8) ∧ Kp w g bs.length w' g' := by
  have c0 := hT 0 (by omega)
  have c1 := hT 1 (by omega)
  have c2 := hT 2 (by omega)
  have c3 := hT 3 (by omega)
  have c4 := hT 4 (by omega)
  have c5 := hT 5 (by omega)
  have c6 := hT 6 (by omega)
  have c7 := hT 7 (by omega)
  clear hT
  simp only [Nat.reduceAdd] at c0 c1 c2 c3 c4 c5 c6 c7
  obtain ⟨W1, hW1⟩ : ∃ W1, W1 = (w.alloc (.cells #[.int .i64 (F 0), .int .i64 (F 1), .int .i64 (F 2), .int .i64 (F 3), .int .i64 (F 4), .int .i64 (F 5), .int .i64 (F 6), .int .i64 (F 7)] 2)).drew := ⟨_, rfl⟩
  have hlt := hs.lt
  have HK : Hid (Kp w g bs.length W1 g) := by
    rw [hW1]
    have k := Kp.alloc w g bs.length (.cells #[.int .i64 (F 0), .int .i64 (F 1), .int .i64 (F 2), .int .i64 (F 3), .int .i64 (F 4), .int .i64 (F 5), .int .i64 (F 6), .int .i64 (F 7)] 2) hlt
    exact ⟨k.os, k.tape, k.output, k.size, k.other, k.cells, k.moved⟩
  have HS : Hid (Sl W1 g cap bs) := by
    rw [hW1]
    exact hs.of_block (by show (w.alloc _).heap[g]? = _; exact Below.heap_alloc _ _ _ hlt)
  have HN : Hid (w.heap.size < W1.heap.size ∧ ∀ i, i < 8 → W1.cell? ⟨w.heap.size, i, none⟩ = some (.int .i64 (F i))) := by
    rw [hW1]
    refine ⟨by show _ < (w.alloc _).heap.size; simp, fun i hi => ?_⟩
    have : i = 0 ∨ i = 1 ∨ i = 2 ∨ i = 3 ∨ i = 4 ∨ i = 5 ∨ i = 6 ∨ i = 7 := by omega
    rcases this with rfl | rfl | rfl | rfl | rfl | rfl | rfl | rfl <;> simp [go_sem]
  have HW : Hid (W1 = (w.alloc (.cells #[.int .i64 (F 0), .int .i64 (F 1), .int .i64 (F 2), .int .i64 (F 3), .int .i64 (F 4), .int .i64 (F 5), .int .i64 (F 6), .int .i64 (F 7)] 2)).drew) := hW1
  clear hW1 hs
  go_enter Yba.func15, Yba.ntmps15
  go_wp2
  have n0 := World.new_ne w _ c0
  go_region_held3 (fun w' => w'.cell? ⟨T, 1, none⟩ = some (.int .i64 (F 0)) ∧ w'.cell? ⟨T, 2, none⟩ = some (.int .i64 (F 1)) ∧ w'.cell? ⟨T, 3, none⟩ = some (.int .i64 (F 2)) ∧ w'.cell? ⟨T, 4, none⟩ = some (.int .i64 (F 3)) ∧ w'.cell? ⟨T, 5, none⟩ = some (.int .i64 (F 4)) ∧ w'.cell? ⟨T, 6, none⟩ = some (.int .i64 (F 5)) ∧ w'.cell? ⟨T, 7, none⟩ = some (.int .i64 (F 6)) ∧ w'.cell? ⟨T, 8, none⟩ = some (.int .i64 (F 7))) (go_keep) (fail)
  rw [← HW.out]
  clear HW c0 c1 c2 c3 c4 c5 c6 c7 n0
  go_wp2_with fail
  go_loopw [0, 43] (fun s i wr => ∃ (k g' cap' : Nat) (bs' : List Int), k ≤ 8 ∧ i = .int .i64 k ∧ s = .slice (some ⟨g', 0, none⟩) bs'.length cap' ∧ bs'.length ≤ 2000 + 11 * k ∧ Hid (bs' = bs ++ ua F k) ∧ Hid (Sl wr g' cap' bs') ∧ Hid (Kp W1 g bs.length wr g')) (fun _ i _ => 8 - (intOf i).toNat)
  case atStart => exact ⟨0, g, cap, bs, by omega, rfl, rfl, by omega, (by show bs = bs ++ []; simp), HS, Kp.refl _ _ _⟩
  case round =>
    clear HS
    obtain ⟨k, g', cap', bs', hk, rfl, rfl, hl, HB, HS, HK'⟩ := hrel
    by_cases h : k < 8
    · have hck : wr.cell? ⟨w.heap.size, k, none⟩ = some (.int .i64 (F k)) := by
        rw [← HN.out.2 k h]
        exact World.cell?_of_block (w := W1) (HK'.out.other w.heap.size HN.out.1 (by omega))
      go_wp2_with (go_at_call 21; refine (auv g' cap' bs' _ (u64_bd _).1 (u64_bd _).2 _ HS.out (by omega)).mono ?_; rintro e w2 ⟨g2, cap2, rfl, hsl2, hk2⟩)
      have hl2 := (uv_len (IntKind.u64.wrap (F k))).2
      have hK2 : Kp W1 g bs.length w2 g2 := HK'.out.trans hk2 (by rw [HB.out, List.length_append]; omega) (Nat.lt_of_lt_of_le hlt HK.out.size)
      go_roundw
      case rel => exact ⟨k + 1, g2, cap2, bs' ++ uv (IntKind.u64.wrap (F k)), by omega, by go_num, by rw [List.length_append], by rw [List.length_append]; omega, (by show _ = _; rw [HB.out, ua, List.append_assoc]), hsl2, hK2⟩
      case measure => simp [intOf]; omega
    · obtain rfl : k = 8 := by omega
      have hb := HB.out
      subst hb
      go_wp2
      go_ret
      exact ⟨g', cap', rfl, HS.out, HK.out.trans HK'.out (Nat.le_refl _) hlt⟩
end Go.Proofs.Ybulkbnuc.tb
