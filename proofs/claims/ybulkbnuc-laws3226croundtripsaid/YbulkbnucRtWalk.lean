import Derived.Test.YbulkbnucCbWalk
import Derived.Test.YbulkbnucDv
namespace Go.Proofs.Ybulkbnuc.rt
open Go.RowKit Go.Proofs.Ybulkbnuc.sl Go.Proofs.Ybulkbnuc.uv Go.Proofs.Ybulkbnuc.cp Go.Proofs.Ybulkbnuc.tb Go.Proofs.Ybulkbnuc.cb Go.Proofs.Ybulkbnuc.dv

theorem ua_len (F : Nat → Int) : ∀ k, k ≤ (ua F k).length ∧ (ua F k).length ≤ 11 * k
  | 0 => ⟨Nat.zero_le _, Nat.zero_le _⟩
  | k + 1 => by
    have h1 := ua_len F k
    have h2 := uv_len (IntKind.u64.wrap (F k))
    rw [ua, List.length_append]
    omega
theorem ua_prefix (F : Nat → Int) (k : Nat) : ∀ d, ∃ t, ua F (k + d) = ua F k ++ t
  | 0 => ⟨[], by simp⟩
  | d + 1 => by
    obtain ⟨t, ht⟩ := ua_prefix F k d
    exact ⟨t ++ uv (IntKind.u64.wrap (F (k + d))), by rw [show k + (d + 1) = (k + d) + 1 by omega, ua, ht, List.append_assoc]⟩
theorem ua_grow (F : Nat → Int) (k : Nat) : ∀ d, (ua F k).length + d ≤ (ua F (k + d)).length
  | 0 => Nat.le_refl _
  | d + 1 => by
    have h1 := ua_grow F k d
    have h2 := (uv_len (IntKind.u64.wrap (F (k + d)))).1
    rw [show k + (d + 1) = (k + d) + 1 by omega, ua, List.length_append]
    omega
theorem back (f : Int) (h0 : -9223372036854775808 ≤ f) (h1 : f ≤ 9223372036854775807) : wrap64 (IntKind.u64.wrap f) = f := by
  have : IntKind.u64.wrap f = f % 18446744073709551616 := by simp [IntKind.wrap, IntKind.bits, IntKind.signed]
  rw [this]
  unfold wrap64
  omega
/-- Where field k's bytes lie. -/
theorem O_at (F : Nat → Int) (zs : List Int) (k j : Nat) (hk : k < 8) (hj : j < (uv (IntKind.u64.wrap (F k))).length) :
    (zs ++ ua F 8)[zs.length + (ua F k).length + j]? = (uv (IntKind.u64.wrap (F k)))[j]? := by
  obtain ⟨t, ht⟩ := ua_prefix F (k + 1) (8 - (k + 1))
  rw [show k + 1 + (8 - (k + 1)) = 8 by omega] at ht
  rw [ht, ua, Nat.add_assoc, List.getElem?_append_right (by omega), Nat.add_sub_cancel_left, List.append_assoc, List.getElem?_append_right (by omega), Nat.add_sub_cancel_left, List.getElem?_append_left hj]

set_option maxHeartbeats 1000000 in
set_option maxRecDepth 100000 in
theorem law (a : Option Addr) (c x x' : Nat) (zs : List Int) (F : Nat → Int) (w : World) (hxb : x < 256) (hx : (x : Int) % 80 = (x' : Int)) (hx' : x' < 80) (hlen : zs.length ≤ 1024) (hF : ∀ i, i < 8 → -9223372036854775808 ≤ F i ∧ F i ≤ 9223372036854775807) (hr : Row w a zs.length zs) :
    Calls Yba.prog 8 #[.slice a zs.length c, .agg #[.int .i64 (F 0), .int .i64 (F 1), .int .i64 (F 2), .int .i64 (F 3), .int .i64 (F 4), .int .i64 (F 5), .int .i64 (F 6), .int .i64 (F 7)], .int .u8 x] w fun e w' => e = .returned (.bool true) ∧ Below w.heap.size w w' := by
  have HR : Hid (Row w a zs.length zs) := hr
  have HF : Hid (∀ i, i < 8 → -9223372036854775808 ≤ F i ∧ F i ≤ 9223372036854775807) := hF
  clear hr hF
  go_enter Yba.func8, Yba.ntmps8
  go_wp2_with fail
  simp only [hx]
  have hb1 : Below w.heap.size w (w.alloc (.cells #[.int .i64 (F 0), .int .i64 (F 1), .int .i64 (F 2), .int .i64 (F 3), .int .i64 (F 4), .int .i64 (F 5), .int .i64 (F 6), .int .i64 (F 7)] 57)) := (Below.refl _ _).alloc (Nat.le_refl _) _
  refine (ccopy _ _ _ x' zs _ hlen hx' (Row_below HR.out hb1)).mono ?_
  rintro e w2 ⟨rfl, hsl, hb2⟩
  simp only [World.size_alloc] at hsl hb2
  have HB : Hid (Box w2 w.heap.size 57 F) := by
    show _ = _
    rw [hb2.block _ (by omega)]; exact heap_alloc_new _ _
  have HS2 : Hid (Sl w2 (w.heap.size + 1) (zs.length + x') zs) := hsl
  have HB2 : Hid (Below w.heap.size w w2) := hb1.trans (hb2.mono (by omega))
  have hc8 := cells8 HB.out
  have d0 := hc8 0 (by omega)
  have d1 := hc8 1 (by omega)
  have d2 := hc8 2 (by omega)
  have d3 := hc8 3 (by omega)
  have d4 := hc8 4 (by omega)
  have d5 := hc8 5 (by omega)
  have d6 := hc8 6 (by omega)
  have d7 := hc8 7 (by omega)
  clear hc8 hsl hb1 hb2
  go_wp2_with fail
  refine (table F _).mono ?_
  rintro e w3 ⟨rfl, hT, hb3, hsz3⟩
  clear d0 d1 d2 d3 d4 d5 d6 d7
  have HS3 : Hid (Sl w3 (w.heap.size + 1) (zs.length + x') zs) := HS2.out.of_block (hb3.block _ HS2.out.lt)
  have HB3 : Hid (Box w3 w.heap.size 57 F) := HB.out.of (hb3.block _ (by have := HS2.out.lt; omega))
  have HT : Hid (∀ i, i < 8 → w3.cell? ⟨w2.heap.size + 1, i + 1, none⟩ = some (.int .i64 (F i))) := hT
  have HW3 : Hid (Below w.heap.size w w3) := HB2.out.trans (hb3.mono (by have := HS2.out.lt; omega))
  clear hT hb3 hsz3 HB HB2 HS2
  go_wp2_with fail
  refine (apt F _ _ _ zs _ HT.out HS3.out (by omega)).mono ?_
  rintro e w4 ⟨gg, capg, rfl, hsl4, hk4⟩
  generalize hO : zs ++ ua F 8 = O at hsl4
  have HO : Hid (zs ++ ua F 8 = O) := hO
  clear hO
  have hlt3 := HS3.out.lt
  have HSg : Hid (Sl w4 gg capg O) := hsl4
  have HB4 : Hid (Box w4 w.heap.size 57 F) := HB3.out.of (hk4.other _ (by omega) (by omega))
  have HC4 : Hid (∀ j, j < zs.length → w4.cell? ⟨w.heap.size + 1, j, none⟩ = some (.int .u8 (zs[j]?.getD 0))) := fun j hj => by rw [hk4.cells j hj]; exact HS3.out.cell j hj
  have HW4 : Hid (Below w.heap.size w w4) := HW3.out.trans (hk4.below (by omega) (by omega))
  have hc4 : w.heap.size + 1 < w4.heap.size := Nat.lt_of_lt_of_le hlt3 hk4.size
  clear hsl4 hk4 HT HS3 HB3 HW3 hlt3
  have hcap1 : O.length ≤ capg := HSg.out.le
  have hcap2 : capg ≤ 9223372036854775807 := by
    obtain ⟨_, _, _, h2, _⟩ := HSg.out.block
    unfold maxLen at h2
    omega
  have hua := ua_len F 8
  have hO1 : zs.length + 8 ≤ O.length := by rw [← HO.out, List.length_append]; omega
  have hO2 : O.length ≤ 1200 := by rw [← HO.out, List.length_append]; omega
  have HR4 : Hid (Row w4 a zs.length zs) := Row_below HR.out HW4.out
  have HG : Hid (∀ j, j < O.length → w4.cell? ⟨gg, j, none⟩ = some (.int .u8 (O[j]?.getD 0))) := HSg.out.cell
  have HOZ : Hid (∀ j, j < zs.length → O[j]?.getD 0 = zs[j]?.getD 0) := fun j hj => by rw [← HO.out, List.getElem?_append_left hj]
  clear hua HC4 hx
  go_wp2_with fail
  go_loopw [9] (fun i wr => (∃ n, wr = w4.drewN n) ∧ ∃ q : Nat, q ≤ zs.length ∧ i = .int .i64 q) (fun i _ => zs.length - (intOf i).toNat)
  case atStart => exact ⟨⟨0, rfl⟩, 0, by omega, rfl⟩
  case round =>
    obtain ⟨⟨n, rfl⟩, q, hq, rfl⟩ := hrel
    by_cases h : q < zs.length
    · have h1 := HG.out q (by omega)
      obtain ⟨y, rfl, h2⟩ := HR4.out.2 q h
      rw [HOZ.out q h] at h1
      have hqi : (q : Int) < (zs.length : Int) := by omega
      have hqo : (q : Int) < (O.length : Int) := by omega
      generalize zs[q]?.getD 0 = b at h1 h2
      go_wp2
      go_quiet (fail)
      go_wp2
      go_roundw
      case rel => exact ⟨⟨_, rfl⟩, q + 1, by omega, by go_num⟩
      case measure => simp [intOf]; omega
    · have hc8 := cells8 HB4.out
      have d0 := hc8 0 (by omega)
      have d1 := hc8 1 (by omega)
      have d2 := hc8 2 (by omega)
      have d3 := hc8 3 (by omega)
      have d4 := hc8 4 (by omega)
      have d5 := hc8 5 (by omega)
      have d6 := hc8 6 (by omega)
      have d7 := hc8 7 (by omega)
      clear hc8
      go_wp2_with fail
      refine (vals F _).mono ?_
      rintro e w6 ⟨rfl, hb6⟩
      clear d0 d1 d2 d3 d4 d5 d6 d7
      have hltg := HSg.out.lt
      have hb6' : Below w4.heap.size w4 w6 := by
        have : Below w4.heap.size w4 (w4.drewN n) := ⟨rfl, rfl, rfl, Nat.le_refl _, fun _ _ => rfl⟩
        exact this.trans hb6
      have hs6 : w4.heap.size ≤ w6.heap.size := hb6'.size
      have HG6 : Hid (∀ j, j < O.length → w6.cell? ⟨gg, j, none⟩ = some (.int .u8 (O[j]?.getD 0))) := fun j hj => by rw [hb6'.cell (p := ⟨gg, j, none⟩) hltg]; exact HG.out j hj
      have HW6 : Hid (Below w.heap.size w w6) := HW4.out.trans (hb6'.mono (by omega))
      clear hb6 hb6' HB4 HR4 HG HOZ HSg HW4 h hq
      go_wp2_with fail
      generalize hW7 : w6.alloc (.cells #[.int .i64 (F 0), .int .i64 (F 1), .int .i64 (F 2), .int .i64 (F 3), .int .i64 (F 4), .int .i64 (F 5), .int .i64 (F 6), .int .i64 (F 7)] 62) = W7
      have HG7 : Hid (∀ j, j < O.length → W7.cell? ⟨gg, j, none⟩ = some (.int .u8 (O[j]?.getD 0))) := fun j hj => by
        rw [← HG6.out j hj, ← hW7]
        exact World.cell?_of_block (w := w6) (Below.heap_alloc _ _ _ (by show gg < _; omega))
      have HV : Hid (Box W7 w6.heap.size 62 F) := by
        show _ = _
        rw [← hW7]; exact heap_alloc_new _ _
      have HW7 : Hid (Below w.heap.size w W7) := by rw [← hW7]; exact HW6.out.alloc (by omega) _
      clear hW7 HG6 HW6
      go_loop [10, 12] (fun s i => ∃ (k p : Nat) (ao : Option Addr), k ≤ 8 ∧ i = .int .i64 k ∧ s = .slice ao (O.length - p) (capg - p) ∧ p ≤ O.length ∧ Hid (p = zs.length + (ua F k).length) ∧ Hid (k < 8 → ao = some ⟨gg, p, none⟩)) (fun _ i => 8 - (intOf i).toNat)
      case atStart => exact ⟨0, zs.length, some ⟨gg, zs.length, none⟩, by omega, rfl, rfl, by omega, (by show zs.length = zs.length + 0; omega), fun _ => rfl⟩
      case round =>
        obtain ⟨k, p, ao, hk, rfl, rfl, hp, HP, HA⟩ := hrel
        by_cases h : k < 8
        · obtain rfl := HA.out h
          have hck := cells8 HV.out k h
          obtain ⟨v0, v1⟩ := u64_bd (F k)
          have hm1 := (uv_len (IntKind.u64.wrap (F k))).1
          have HP1 : Hid (p + (uv (IntKind.u64.wrap (F k))).length = zs.length + (ua F (k + 1)).length) := by
            show _ = _
            rw [HP.out, ua, List.length_append]; omega
          have hpm : p + (uv (IntKind.u64.wrap (F k))).length ≤ O.length := by
            obtain ⟨t, ht⟩ := ua_prefix F (k + 1) (8 - (k + 1))
            rw [show k + 1 + (8 - (k + 1)) = 8 by omega] at ht
            rw [HP1.out, ← HO.out, ht]
            simp only [List.length_append]
            omega
          have HD : Hid (∀ j, j < (uv (IntKind.u64.wrap (F k))).length → W7.cell? ⟨gg, p + j, none⟩ = some (.int .u8 ((uv (IntKind.u64.wrap (F k)))[j]?.getD 0))) := fun j hj => by
            rw [HG7.out (p + j) (by omega), ← HO.out, HP.out, O_at F zs k j h hj]
          go_wp2_with fail
          refine (dec (IntKind.u64.wrap (F k)) v0 v1 gg p (O.length - p) (capg - p) _ (by omega) (by omega) HD.out).mono ?_
          rintro e w8 ⟨rfl, rfl⟩
          clear HD
          have hwv : (wrap64 (IntKind.u64.wrap (F k)) != F k) = false := by
            rw [back _ (HF.out k h).1 (HF.out k h).2]; simp
          have H7 : Hid (k < 7 → p + (uv (IntKind.u64.wrap (F k))).length < O.length) := fun h7 => by
            have := ua_grow F (k + 1) (8 - (k + 1))
            rw [show k + 1 + (8 - (k + 1)) = 8 by omega] at this
            rw [HP1.out, ← HO.out, List.length_append]
            omega
          have H8 : Hid (k = 7 → p + (uv (IntKind.u64.wrap (F k))).length = O.length) := fun h7 => by
            rw [HP1.out, ← HO.out, List.length_append, h7]
          generalize (uv (IntKind.u64.wrap (F k))).length = m at *
          generalize IntKind.u64.wrap (F k) = v at *
          by_cases h7 : k < 7
          · have hk7 := H7.out h7
            clear H7 H8
            go_wp2
            go_round
            case rel => exact ⟨k + 1, p + m, some ⟨gg, p + m, none⟩, by omega, by go_num, by rw [Nat.sub_sub, Nat.sub_sub], hpm, HP1, fun _ => rfl⟩
            case measure => simp [intOf]; omega
          · have hk7 := H8.out (by omega)
            clear H7 H8
            by_cases hce : capg - p = m
            · go_wp2
              go_round
              case rel => exact ⟨k + 1, p + m, some ⟨gg, p, none⟩, by omega, by go_num, by rw [Nat.sub_sub, show capg - (p + m) = 0 by omega], hpm, HP1, fun h => by omega⟩
              case measure => simp [intOf]; omega
            · go_wp2
              go_round
              case rel => exact ⟨k + 1, p + m, _, by omega, by go_num, by rw [Nat.sub_sub, Nat.sub_sub], hpm, HP1, fun h => by omega⟩
              case measure => simp [intOf]; omega
        · obtain rfl : k = 8 := by omega
          have hpe : p = O.length := by rw [HP.out, ← HO.out, List.length_append]
          have hpz : O.length - p = 0 := by omega
          go_wp2
          go_ret
          exact ⟨rfl, HW7.out⟩
end Go.Proofs.Ybulkbnuc.rt
