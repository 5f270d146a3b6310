import Derived.Test.YbulkbnucApt
import Derived.BigQuiet
import Derived.Deep.QuietTactic
namespace Go.Proofs.Ybulkbnuc.cb
open Go.RowKit Go.Proofs.Ybulkbnuc.sl Go.Proofs.Ybulkbnuc.uv Go.Proofs.Ybulkbnuc.cp Go.Proofs.Ybulkbnuc.tb

theorem ccopy0 (a : Option Addr) (len c : Nat) (zs : List Int) (w : World) (hlen : len ≤ 1024) (hr : Row w a len zs) :
    Calls Yba.prog 14 #[.slice a len c, .int .i64 0] w fun e w' => e = .returned (.slice (some ⟨w.heap.size, 0, none⟩) len len) ∧ Sl w' w.heap.size len zs ∧ Below w.heap.size w w' :=
  ccopy a len c 0 zs w hlen (by omega) hr

/-- The cells of a block that holds the eight fields. -/
theorem cells8 {w : World} {B t : Nat} {F : Nat → Int} (h : w.heap[B]? = some (.cells #[.int .i64 (F 0), .int .i64 (F 1), .int .i64 (F 2), .int .i64 (F 3), .int .i64 (F 4), .int .i64 (F 5), .int .i64 (F 6), .int .i64 (F 7)] t (0, 0))) :
    ∀ i, i < 8 → w.cell? ⟨B, i, none⟩ = some (.int .i64 (F i)) := by
  intro i hi
  have : i = 0 ∨ i = 1 ∨ i = 2 ∨ i = 3 ∨ i = 4 ∨ i = 5 ∨ i = 6 ∨ i = 7 := by omega
  rcases this with rfl | rfl | rfl | rfl | rfl | rfl | rfl | rfl <;> simp [World.cell?, h]

theorem ret_bool {a b : Bool} (h : a = b) : Ending.returned (.bool a) = .returned (.bool b) := by rw [h]
/-- The field block, where it lies. -/
def Box (w : World) (B t : Nat) (F : Nat → Int) : Prop := w.heap[B]? = some (.cells #[.int .i64 (F 0), .int .i64 (F 1), .int .i64 (F 2), .int .i64 (F 3), .int .i64 (F 4), .int .i64 (F 5), .int .i64 (F 6), .int .i64 (F 7)] t (0, 0))
theorem Box.of {w w' : World} {B t : Nat} {F : Nat → Int} (h : Box w B t F) (e : w'.heap[B]? = w.heap[B]?) : Box w' B t F := by
  unfold Box at *
  rw [e]; exact h

set_option maxHeartbeats 1000000 in
set_option maxRecDepth 100000 in
theorem law (a : Option Addr) (c : Nat) (zs : List Int) (F : Nat → Int) (w : World) (hlen : zs.length ≤ 1024) (hr : Row w a zs.length zs) :
    Calls Yba.prog 7 #[.slice a zs.length c, .agg #[.int .i64 (F 0), .int .i64 (F 1), .int .i64 (F 2), .int .i64 (F 3), .int .i64 (F 4), .int .i64 (F 5), .int .i64 (F 6), .int .i64 (F 7)]] w fun e w' => e = .returned (.bool true) ∧ Below w.heap.size w w' := by
  have HR : Hid (Row w a zs.length zs) := hr
  clear hr
  go_enter Yba.func7, Yba.ntmps7
  go_wp2_with fail
  have hb1 : Below w.heap.size w (w.alloc (.cells #[.int .i64 (F 0), .int .i64 (F 1), .int .i64 (F 2), .int .i64 (F 3), .int .i64 (F 4), .int .i64 (F 5), .int .i64 (F 6), .int .i64 (F 7)] 57)) := (Below.refl _ _).alloc (Nat.le_refl _) _
  refine (ccopy0 _ _ _ zs _ hlen (Row_below HR.out hb1)).mono ?_
  rintro e w2 ⟨rfl, hsl, hb2⟩
  simp only [World.size_alloc] at hsl hb2
  have HB : Hid (Box w2 w.heap.size 57 F) := by
    show _ = _
    rw [hb2.block _ (by omega)]; exact heap_alloc_new _ _
  have HS2 : Hid (Sl w2 (w.heap.size + 1) zs.length zs) := hsl
  have HB2 : Hid (Below w.heap.size w w2) := hb1.trans (hb2.mono (by omega))
  have hc8 := cells8 HB.out
  have d0 := hc8 0 (by omega)
  have d1 := hc8 1 (by omega)
  have d2 := hc8 2 (by omega)
  have d3 := hc8 3 (by omega)
  have d4 := hc8 4 (by omega)
  have d5 := hc8 5 (by omega)
  have d6 := hc8 6 (by omega)
  have d7 := hc8 7 (by omega)
  clear hc8 hsl hb1 hb2
  go_wp2_with fail
  refine (table F _).mono ?_
  rintro e w3 ⟨rfl, hT, hb3, hsz3⟩
  clear d0 d1 d2 d3 d4 d5 d6 d7
  have HS3 : Hid (Sl w3 (w.heap.size + 1) zs.length zs) := HS2.out.of_block (hb3.block _ HS2.out.lt)
  have HB3 : Hid (Box w3 w.heap.size 57 F) := HB.out.of (hb3.block _ (by have := HS2.out.lt; omega))
  have HT : Hid (∀ i, i < 8 → w3.cell? ⟨w2.heap.size + 1, i + 1, none⟩ = some (.int .i64 (F i))) := hT
  have HW3 : Hid (Below w.heap.size w w3) := HB2.out.trans (hb3.mono (by have := HS2.out.lt; omega))
  clear hT hb3 hsz3 HB HB2 HS2
  go_wp2_with fail
  refine (apt F _ _ _ zs _ HT.out HS3.out (by omega)).mono ?_
  rintro e w4 ⟨gg, capg, rfl, hsl4, hk4⟩
  generalize hO : zs ++ ua F 8 = O at hsl4
  have HO : Hid (zs ++ ua F 8 = O) := hO
  clear hO
  have hlt3 := HS3.out.lt
  have HSg : Hid (Sl w4 gg capg O) := hsl4
  have HB4 : Hid (Box w4 w.heap.size 57 F) := HB3.out.of (hk4.other _ (by omega) (by omega))
  have HC4 : Hid (∀ j, j < zs.length → w4.cell? ⟨w.heap.size + 1, j, none⟩ = some (.int .u8 (zs[j]?.getD 0))) := fun j hj => by rw [hk4.cells j hj]; exact HS3.out.cell j hj
  have HW4 : Hid (Below w.heap.size w w4) := HW3.out.trans (hk4.below (by omega) (by omega))
  have hc4 : w.heap.size + 1 < w4.heap.size := Nat.lt_of_lt_of_le hlt3 hk4.size
  clear hsl4 hk4 HT HS3 HB3 HW3 hlt3
  go_wp2_with fail
  refine (ccopy0 _ _ _ zs _ hlen (Row_below HR.out (by exact HW4.out))).mono ?_
  rintro e w5 ⟨rfl, hsl5, hb5⟩
  have hltg := HSg.out.lt
  have HSg5 : Hid (Sl w5 gg capg O) := HSg.out.of_block (hb5.block _ hltg)
  have HS5 : Hid (Sl w5 w4.heap.size zs.length zs) := hsl5
  have HB5 : Hid (Box w5 w.heap.size 57 F) := HB4.out.of (hb5.block _ (by omega))
  have HC5 : Hid (∀ j, j < zs.length → w5.cell? ⟨w.heap.size + 1, j, none⟩ = some (.int .u8 (zs[j]?.getD 0))) := fun j hj => by rw [hb5.cell (p := ⟨w.heap.size + 1, j, none⟩) hc4]; exact HC4.out j hj
  have HW5 : Hid (Below w.heap.size w w5) := HW4.out.trans (hb5.mono (by omega))
  have hc8 := cells8 HB5.out
  have d0 := hc8 0 (by omega)
  have d1 := hc8 1 (by omega)
  have d2 := hc8 2 (by omega)
  have d3 := hc8 3 (by omega)
  have d4 := hc8 4 (by omega)
  have d5 := hc8 5 (by omega)
  have d6 := hc8 6 (by omega)
  have d7 := hc8 7 (by omega)
  clear hc8 hsl5 hb5 HSg HB4 HC4 HW4
  go_wp2_with fail
  refine (vals F _).mono ?_
  rintro e w6 ⟨rfl, hb6⟩
  clear d0 d1 d2 d3 d4 d5 d6 d7
  have hltw := HS5.out.lt
  have HSg6 : Hid (Sl w6 gg capg O) := HSg5.out.of_block (hb6.block _ (by omega))
  have HS6 : Hid (Sl w6 w4.heap.size zs.length zs) := HS5.out.of_block (hb6.block _ hltw)
  have HC6 : Hid (∀ j, j < zs.length → w6.cell? ⟨w.heap.size + 1, j, none⟩ = some (.int .u8 (zs[j]?.getD 0))) := fun j hj => by rw [hb6.cell (p := ⟨w.heap.size + 1, j, none⟩) (by exact Nat.lt_trans hc4 hltw)]; exact HC5.out j hj
  have HW6 : Hid (Below w.heap.size w w6) := HW5.out.trans (hb6.mono (by omega))
  clear hb6 HSg5 HS5 HB5 HC5 HW5 hltw
  go_wp2_with fail
  generalize hW7 : w6.alloc (.cells #[.int .i64 (F 0), .int .i64 (F 1), .int .i64 (F 2), .int .i64 (F 3), .int .i64 (F 4), .int .i64 (F 5), .int .i64 (F 6), .int .i64 (F 7)] 62) = W7
  have hltw6 := HS6.out.lt
  have hs7 : w6.heap.size < W7.heap.size := by rw [← hW7]; simp
  have HS7 : Hid (Sl W7 w4.heap.size zs.length zs) := HS6.out.of_block (by rw [← hW7]; exact Below.heap_alloc _ _ _ hltw6)
  have HSg7 : Hid (Sl W7 gg capg O) := HSg6.out.of_block (by rw [← hW7]; exact Below.heap_alloc _ _ _ (by omega))
  have HC7 : Hid (∀ j, j < zs.length → W7.cell? ⟨w.heap.size + 1, j, none⟩ = some (.int .u8 (zs[j]?.getD 0))) := fun j hj => by
    rw [← HC6.out j hj, ← hW7]
    exact World.cell?_of_block (w := w6) (Below.heap_alloc _ _ _ (by show w.heap.size + 1 < _; omega))
  have HV : Hid (Box W7 w6.heap.size 62 F) := by
    show _ = _
    rw [← hW7]; exact heap_alloc_new _ _
  have HW7 : Hid (Below w.heap.size w W7) := by rw [← hW7]; exact HW6.out.alloc (by omega) _
  clear hW7 HS6 HSg6 HC6 HW6
  go_loopw [7, 9] (fun s i wr => ∃ (k g' cap' : Nat) (bs' : List Int), k ≤ 8 ∧ i = .int .i64 k ∧ s = .slice (some ⟨g', 0, none⟩) bs'.length cap' ∧ bs'.length ≤ 2000 + 11 * k ∧ Hid (bs' = zs ++ ua F k) ∧ Hid (Sl wr g' cap' bs') ∧ Hid (Kp W7 w4.heap.size zs.length wr g')) (fun _ i _ => 8 - (intOf i).toNat)
  case atStart => exact ⟨0, w4.heap.size, zs.length, zs, by omega, rfl, rfl, by omega, (by show zs = zs ++ []; simp), HS7, Kp.refl _ _ _⟩
  case round =>
    clear HS7
    obtain ⟨k, g', cap', bs', hk, rfl, rfl, hl, HBS, HS, HK'⟩ := hrel
    by_cases h : k < 8
    · have hck : wr.cell? ⟨w6.heap.size, k, none⟩ = some (.int .i64 (F k)) := by
        rw [← cells8 HV.out k h]
        exact World.cell?_of_block (w := W7) (HK'.out.other w6.heap.size hs7 (by omega))
      go_wp2_with (go_at_call 18; refine (cuv g' cap' bs' _ (u64_bd _).1 (u64_bd _).2 _ HS.out (by omega)).mono ?_; rintro e w8 ⟨g2, cap2, rfl, hsl2, hk2⟩)
      have hl2 := (uv_len (IntKind.u64.wrap (F k))).2
      have hK2 : Kp W7 w4.heap.size zs.length w8 g2 := HK'.out.trans hk2 (by rw [HBS.out, List.length_append]; omega) (by omega)
      go_roundw
      case rel => exact ⟨k + 1, g2, cap2, bs' ++ uv (IntKind.u64.wrap (F k)), by omega, by go_num, by rw [List.length_append], by rw [List.length_append]; omega, (by show _ = _; rw [HBS.out, ua, List.append_assoc]), hsl2, hK2⟩
      case measure => simp [intOf]; omega
    · obtain rfl : k = 8 := by omega
      obtain rfl : bs' = O := HBS.out.trans HO.out
      have HSg : Hid (Sl wr gg capg bs') := HSg7.out.of_block (HK'.out.other gg (by omega) (by omega))
      have HC : Hid (∀ j, j < zs.length → wr.cell? ⟨w.heap.size + 1, j, none⟩ = some (.int .u8 (zs[j]?.getD 0))) := fun j hj => by
        rw [← HC7.out j hj]
        exact World.cell?_of_block (w := W7) (HK'.out.other (w.heap.size + 1) (by omega) (by omega))
      have HW : Hid (Below w.heap.size w wr) := HW7.out.trans (HK'.out.below (by omega) (by omega))
      clear HSg7 HC7 HW7 HK' HV HBS HO h hk
      go_wp2_with fail
      obtain ⟨wz, hwz⟩ : ∃ wz : World, wz = wr := ⟨_, rfl⟩
      rw [← hwz]
      rw [← hwz] at HS HSg HC HW
      clear hwz
      go_loopw [10] (fun i wr => (∃ n, wr = wz.drewN n) ∧ ∃ q : Nat, q ≤ bs'.length ∧ i = .int .i64 q) (fun i _ => bs'.length - (intOf i).toNat)
      case atStart => exact ⟨⟨0, rfl⟩, 0, by omega, rfl⟩
      case round =>
        obtain ⟨⟨n, rfl⟩, q, hq, rfl⟩ := hrel
        by_cases h : q < bs'.length
        · have h1 := HS.out.cell q h
          have h2 := HSg.out.cell q h
          have hqi : (q : Int) < (bs'.length : Int) := by omega
          generalize bs'[q]?.getD 0 = b at h1 h2
          go_wp2
          go_quiet (fail)
          go_wp2
          go_roundw
          case rel => exact ⟨⟨_, rfl⟩, q + 1, by omega, by go_num⟩
          case measure => simp [intOf]; omega
        · have HR2 : Hid (Row wz a zs.length zs) := Row_below HR.out HW.out
          clear HS HSg
          go_wp2_with fail
          go_loopw [11] (fun i wr => (∃ n, wr = wz.drewN n) ∧ ∃ q : Nat, q ≤ zs.length ∧ i = .int .i64 q) (fun i _ => zs.length - (intOf i).toNat)
          case atStart => exact ⟨⟨_, rfl⟩, 0, by omega, rfl⟩
          case round =>
            obtain ⟨⟨n, rfl⟩, q, hq, rfl⟩ := hrel
            by_cases h : q < zs.length
            · have h1 := HC.out q h
              obtain ⟨x, rfl, h2⟩ := HR2.out.2 q h
              have hqi : (q : Int) < (zs.length : Int) := by omega
              generalize zs[q]?.getD 0 = b at h1 h2
              go_wp2
              go_quiet (fail)
              go_wp2
              go_roundw
              case rel => exact ⟨⟨_, rfl⟩, q + 1, by omega, by go_num⟩
              case measure => simp [intOf]; omega
            · go_wp2
              go_ret
              exact ⟨rfl, HW.out.trans ⟨rfl, rfl, rfl, Nat.le_refl _, fun _ _ => rfl⟩⟩
end Go.Proofs.Ybulkbnuc.cb
