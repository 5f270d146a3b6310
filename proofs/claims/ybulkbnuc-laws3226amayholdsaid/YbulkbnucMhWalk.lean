import Derived.Test.YbulkbnucMhCalls
import Derived.Deep.DeepCutAuto
import Derived.Deep.RegionWith
namespace Go.Proofs.Ybulkbnuc.mh
open Go.RowKit Go.Proofs.Ybulkbnuc.fi

theorem info5 : (Yba.prog.info? 5).map (fun i => (i.zero, i.size, i.bytes)) = some (some (.int .u8 0), 1, 1) := by kernel_rfl

/-- What is asked of a slice of slices of bytes. -/
def Keys (w : World) (ka : Option Addr) (kl : Nat) (A : Nat → Option Addr) (L C : Nat → Nat) (Z : Nat → List Int) : Prop :=
  ∀ r, r < kl → (∃ x, ka = some x ∧ w.cell? (x.add r) = some (.slice (A r) (L r) (C r))) ∧ Row w (A r) (L r) (Z r)
theorem Keys_below {w w' : World} {ka : Option Addr} {kl : Nat} {A : Nat → Option Addr} {L C : Nat → Nat} {Z : Nat → List Int} (h : Keys w ka kl A L C Z) (hb : Below w.heap.size w w') : Keys w' ka kl A L C Z := by
  intro r hr
  obtain ⟨⟨x, hx, hc⟩, h2⟩ := h r hr
  exact ⟨⟨x, hx, (hb.cell (lt_of_cell hc)).trans hc⟩, Row_below h2 hb⟩

theorem mayHold_yes (G nb : Nat) (bs : List Int) (a : Option Addr) (len c : Nat) (zs : List Int) (w : World) (hnb0 : 0 < nb) (hnb : nb ≤ 256) (hb : Bys nb bs) (hf : FRow w G bs) (hlen : len ≤ 4096) (hrow : Row w a len zs) (h : ∀ j, j < 7 → has bs (ixs zs nb j) = true) :
    Calls Yba.prog 12 #[.slice (some ⟨G, 0, none⟩) nb nb, .slice a len c] w fun e w' => e = .returned (.bool true) ∧ Below w.heap.size w w' := by
  have := mayHold_any G nb bs a len c zs w (lt_of_block hf) hnb0 hnb hb hf hlen hrow
  rw [all_true 7 h] at this
  exact this
theorem mayHold_no (G nb : Nat) (a : Option Addr) (len c : Nat) (zs : List Int) (w : World) (hnb0 : 0 < nb) (hnb : nb ≤ 256) (hf : FRow w G (List.replicate nb 0)) (hlen : len ≤ 4096) (hrow : Row w a len zs) :
    Calls Yba.prog 12 #[.slice (some ⟨G, 0, none⟩) nb nb, .slice a len c] w fun e w' => e = .returned (.bool false) ∧ Below w.heap.size w w' := by
  have := mayHold_any G nb _ a len c zs w (lt_of_block hf) hnb0 hnb (bys_zeros nb) hf hlen hrow
  rw [all_zeros nb _ 6] at this
  exact this

theorem frow_of_made {w : World} {base g nb : Nat} (h : w.ownsRow base 5 1 (.slice (some ⟨g, 0, none⟩) nb nb) nb (madeCells (Value.int .u8 0).cells (nb * 1)).toList) : FRow w g (List.replicate nb 0) := by
  obtain ⟨_, h2⟩ := h
  rcases h2 with ⟨h', _⟩ | ⟨g', cap, cur, h', _, hh, _, _, hs, ht⟩
  · simp at h'
  · simp only [Value.slice.injEq, Option.some.injEq, Addr.mk.injEq, and_true, true_and] at h'
    obtain ⟨rfl, rfl⟩ := h'
    unfold FRow
    rw [hh]
    have e1 : (Value.int .u8 0).cells = #[Value.int .u8 0] := rfl
    rw [e1, toList_madeCells_one, List.take_of_length_le (by rw [Array.length_toList, hs]; exact Nat.le_refl _)] at ht
    have e2 : cur = (List.replicate (nb * 1) (Value.int .u8 0)).toArray := by
      rw [← ht]
    rw [e2, List.map_replicate, Nat.mul_one]

set_option maxHeartbeats 400000 in
set_option maxRecDepth 100000 in
theorem law (ka : Option Addr) (kl kc : Nat) (A : Nat → Option Addr) (L C : Nat → Nat) (Z : Nat → List Int) (n nb : Nat) (hn : n < 256) (hnn : (n : Int) + 1 = (nb : Int)) (w : World) (hkl : kl ≤ 256) (hL : ∀ r, L r ≤ maxLen) (hk : Keys w ka kl A L C Z) :
    Calls Yba.prog 4 #[.slice ka kl kc, .int .u8 n] w fun e w' => e = .returned (.bool true) ∧ Below w.heap.size w w' := by
  have HK : Hid (Keys w ka kl A L C Z) := hk
  have HL : Hid (∀ r, L r ≤ maxLen) := hL
  clear hk hL
  obtain ⟨i0, hi, hz0, hz1, hz2⟩ := info_parts info5
  go_enter Yba.func4, Yba.ntmps4
  go_wp2_with fail
  go_loop [5] (fun i => ∃ k : Nat, k ≤ kl ∧ i = .int .i64 k ∧ Hid (∀ r, r < k → L r ≤ 1024)) (fun i => kl - (intOf i).toNat)
  case atStart => exact ⟨0, by omega, rfl, fun r hr => by omega⟩
  case round =>
    obtain ⟨k, hk, rfl, HS⟩ := hrel
    by_cases hlt : k < kl
    · obtain ⟨⟨x, rfl, hck⟩, _⟩ := HK.out k hlt
      have hlk := HL.out k
      unfold maxLen at hlk
      by_cases hs : L k ≤ 1024
      · have HS1 : Hid (∀ r, r < k + 1 → L r ≤ 1024) := fun r hr => by
          rcases Nat.lt_or_ge r k with h' | h'
          · exact HS.out r h'
          · obtain rfl : r = k := by omega
            exact hs
        generalize L k = lk at *
        go_wp2
        go_round
        case rel => exact ⟨k + 1, by omega, by go_num, HS1⟩
        case measure => simp [intOf]; omega
      · generalize L k = lk at *
        go_wp2
        go_ret
        exact ⟨rfl, Below.refl _ _⟩
    · obtain rfl : k = kl := by omega
      clear hlt hk
      go_wp2_with (first | (at_make; refine wpList_make_full _ rfl (.tmp 31) (.tmp 31) 22 rfl w.heap.size 5 i0 (.int .u8 0) 1 Yba.underlying22 hi hz0 hz1 .i64 .i64 _ _ nb rfl rfl rfl rfl (by rw [hz2]; omega) (by unfold maxLen; omega) (Nat.le_refl _) ?_; intro w1 hown1 hg1) | (at_make; refine wpList_make_full _ rfl (.tmp 33) (.tmp 33) 22 rfl w.heap.size 5 i0 (.int .u8 0) 1 Yba.underlying22 hi hz0 hz1 .i64 .i64 _ _ nb rfl rfl rfl rfl (by rw [hz2]; omega) (by unfold maxLen; omega) (by have := hg1.size; simp; omega) ?_; intro w2 hown2 hg2))
      have hF : w.heap.size < w1.heap.size := by
        have := lt_of_block (frow_of_made hown1)
        exact this
      have HM : Hid (Mem w w.heap.size w.heap.size w1.heap.size (w1.heap.size + 1) nb (List.replicate nb 0) w2) := by
        have b1 : Below w.heap.size w w1 := (Below.refl _ _).grown hg1 (Nat.le_refl _) (fun _ h => by cases h)
        have b2 : Below (w1.heap.size + 1) (w1.alloc (.cells #[.slice (some ⟨w.heap.size, 0, none⟩) nb nb] 22)) w2 := (Below.refl _ _).grown hg2 (by simp) (fun _ h => by cases h)
        refine ⟨?_, ?_, ?_, ?_⟩
        · refine FRow.below ?_ b2 (by omega)
          unfold FRow
          rw [Below.heap_alloc _ _ _ hF]
          exact frow_of_made hown1
        · rw [b2.block _ (by omega)]
          exact heap_alloc_new _ _
        · have := frow_of_made hown2
          rw [World.size_alloc] at this
          exact this
        · exact (b1.alloc (by omega) _).trans (b2.mono (by omega))
      have hnb0 : 0 < nb := by omega
      have hnb : nb ≤ 256 := by omega
      clear hown1 hown2 hg1 hg2 hi hz0 hz1 hz2 hnn
      generalize w1.heap.size = V at *
      clear w1
      go_loopw [10] (fun i wr => ∃ r : Nat, r ≤ k ∧ i = .int .i64 r ∧ Hid (∃ bs, Bys nb bs ∧ Mem w w.heap.size w.heap.size V (V + 1) nb bs wr ∧ ∀ r', r' < r → ∀ j, j < 7 → has bs (ixs (Z r') nb j) = true)) (fun i _ => k - (intOf i).toNat)
      case atStart => exact ⟨0, by omega, rfl, _, bys_zeros nb, HM, fun r' h => by omega⟩
      case round =>
        obtain ⟨r, hr, rfl, HB⟩ := hrel
        by_cases hlt : r < k
        · obtain ⟨bs, hbys, hmem, hhas⟩ := HB.out
          obtain ⟨⟨x, rfl, hck⟩, hrow⟩ := Keys_below HK.out hmem.2.2.2 r hlt
          have hlr := HS.out r hlt
          have HR : Hid (Row wr (A r) (L r) (Z r)) := hrow
          have HH : Hid (∀ r', r' < r → ∀ j, j < 7 → has bs (ixs (Z r') nb j) = true) := hhas
          have HMM : Hid (Mem w w.heap.size w.heap.size V (V + 1) nb bs wr) := hmem
          clear hhas hrow hmem HB HM
          go_wp2_with fail
          refine (fi_any 11 _ _ _ _ (Z r) _ (by omega) _ (by omega) HR.out (fun j w' => Mem w w.heap.size w.heap.size V (V + 1) nb (sets (ixs (Z r) nb) bs j) w') HMM.out (fun v w' => run_callFunc_body Yba.func11 (by kernel_rfl) rfl _ _) (fun j w' hj hI => ?_)).mono ?_
          · obtain ⟨e1, e2⟩ := ixs_spec (Z r) nb hnb0 j
            rw [e1]
            exact set_any w w.heap.size w.heap.size V (V + 1) nb _ _ w' (Nat.le_refl _) hF (by omega) hnb (sets_bys _ hbys j) e2 hI
          · rintro e w3 ⟨rfl, hM3⟩
            have HB3 : Hid (∃ bs, Bys nb bs ∧ Mem w w.heap.size w.heap.size V (V + 1) nb bs w3 ∧ ∀ r', r' < r + 1 → ∀ j, j < 7 → has bs (ixs (Z r') nb j) = true) := by
              refine ⟨_, sets_bys (ixs (Z r) nb) hbys 7, hM3, fun r' hr' j hj => ?_⟩
              rcases Nat.lt_or_ge r' r with h' | h'
              · exact sets_mono _ hbys _ (HH.out r' h' j hj) 7
              · obtain rfl : r' = r := by omega
                exact sets_has _ hbys (fun i => (ixs_spec (Z r') nb hnb0 i).2) j 7 hj
            clear hM3 HMM HH hbys HR
            go_wp2
            go_roundw
            case rel => exact ⟨r + 1, by omega, by go_num, HB3⟩
            case measure => simp [intOf]; omega
        · obtain rfl : r = k := by omega
          clear hlt hr
          obtain ⟨bs, hbys, hmem, hhas⟩ := HB.out
          have HH : Hid (∀ r', r' < r → ∀ j, j < 7 → has bs (ixs (Z r') nb j) = true) := hhas
          have HMM : Hid (Mem w w.heap.size w.heap.size V (V + 1) nb bs wr) := hmem
          clear hhas hmem HB HM
          go_wp2_with fail
          go_loopw [11] (fun i w4 => ∃ q : Nat, q ≤ r ∧ i = .int .i64 q ∧ Hid (Mem w w.heap.size w.heap.size V (V + 1) nb bs w4)) (fun i _ => r - (intOf i).toNat)
          case atStart => exact ⟨0, by omega, rfl, HMM⟩
          case round =>
            clear HMM
            obtain ⟨q, hq, rfl, HMM⟩ := hrel
            by_cases hlt : q < r
            · obtain ⟨⟨x, rfl, hck⟩, hrow⟩ := Keys_below HK.out HMM.out.2.2.2 q hlt
              have hlr := HS.out q hlt
              have hV := cell_of_one HMM.out.2.1
              have HR : Hid (Row wr (A q) (L q) (Z q)) := hrow
              clear hrow
              go_wp2_with fail
              go_region_with (go_at_call 12; refine (mayHold_yes w.heap.size nb bs _ _ _ (Z q) _ hnb0 hnb hbys (by exact HMM.out.1) (by omega) (by exact HR.out) (HH.out q hlt)).mono ?_; rintro e w5 ⟨rfl, hb5⟩)
              all_goals
                have hb6 : Below wr.heap.size wr w5 := (Below.refl wr.heap.size wr).drew.trans hb5
                have HM5 : Hid (Mem w w.heap.size w.heap.size V (V + 1) nb bs w5) := HMM.out.below (Nat.le_refl _) hb6
                have hck5 : w5.cell? (x.add q) = some (.slice (A q) (L q) (C q)) := (hb6.cell (lt_of_cell hck)).trans hck
                have HR5 : Hid (Row w5 (A q) (L q) (Z q)) := Row_below HR.out hb6
                clear hb5 hb6 HR HMM hck hV
                go_wp2_with (go_at_call 12; refine (mayHold_no (V + 1) nb _ _ _ (Z q) _ hnb0 hnb (by exact HM5.out.2.2.1) (by omega) (by exact HR5.out)).mono ?_; rintro e w6 ⟨rfl, hb7⟩)
                have HM6 : Hid (Mem w w.heap.size w.heap.size V (V + 1) nb bs w6) := HM5.out.below (Nat.le_refl _) hb7
                clear HM5 hb7 HR5 hck5
                go_roundw
                case rel => exact ⟨q + 1, by omega, by go_num, HM6⟩
                case measure => simp [intOf]; omega
            · obtain rfl : q = r := by omega
              have HO : Hid (∀ i, i < nb → wr.cell? ⟨V + 1, i, none⟩ = some (.int .u8 0)) := fun i hi => by
                have := HMM.out.2.2.1.cell i (by simpa using hi)
                rw [List.getElem?_replicate, if_pos hi] at this
                exact this
              have HBB : Hid (Below w.heap.size w wr) := HMM.out.2.2.2
              clear HMM HH HK HS hlt hq hbys
              go_wp2_with fail
              go_loop [12] (fun i => ∃ p : Nat, p ≤ nb ∧ i = .int .i64 p) (fun i => nb - (intOf i).toNat)
              case atStart => exact ⟨0, by omega, rfl⟩
              case round =>
                obtain ⟨p, hp, rfl⟩ := hrel
                by_cases hlt : p < nb
                · have hcp := HO.out p hlt
                  go_wp2
                  go_round
                  case rel => exact ⟨p + 1, by omega, by go_num⟩
                  case measure => simp [intOf]; omega
                · go_wp2
                  go_ret
                  exact ⟨rfl, HBB.out⟩
end Go.Proofs.Ybulkbnuc.mh
