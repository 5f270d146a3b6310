import Derived.Test.YbulkbnucSl
namespace Go.Proofs.Ybulkbnuc.uv
open Go.RowKit Go.Proofs.Ybulkbnuc.sl

/-- A byte that is not the last: the low seven bits, the high bit set. -/
def eb (v : Int) : Int := bits .or .u8 (v % 256) 128
/-- The uvarint of v, with fuel. -/
def uvF : Nat → Int → List Int
  | 0, v => [v]
  | f + 1, v => if v < 128 then [v] else eb v :: uvF f (v / 128)
def uv (v : Int) : List Int := uvF 10 v
theorem uvF_last (f : Nat) (v : Int) (h : v < 128) : uvF f v = [v] := by
  cases f with
  | zero => rfl
  | succ f => simp [uvF, h]
theorem uvF_more (f : Nat) (v : Int) (h : ¬ v < 128) : uvF (f + 1) v = eb v :: uvF f (v / 128) := by simp [uvF, h]
theorem uvF_len (f : Nat) : ∀ v, 1 ≤ (uvF f v).length ∧ (uvF f v).length ≤ f + 1 := by
  induction f with
  | zero => intro v; simp [uvF]
  | succ f ih =>
    intro v
    unfold uvF
    split
    · simp
    · have := ih (v / 128)
      simp
      omega
/-- What fuel is enough. -/
theorem fuel_step {f : Nat} {v : Int} (h : ¬ v < 128) (hf : 1 ≤ f) (hv : v < 128 ^ f) : ∃ f', f = f' + 1 ∧ 1 ≤ f' ∧ v / 128 < 128 ^ f' := by
  obtain ⟨f', rfl⟩ : ∃ f', f = f' + 1 := ⟨f - 1, by omega⟩
  refine ⟨f', rfl, ?_, ?_⟩
  · rcases Nat.eq_zero_or_pos f' with h0 | h0
    · subst h0
      simp at hv
      omega
    · exact h0
  · rw [Int.pow_succ] at hv
    exact Int.ediv_lt_of_lt_mul (by omega) hv

/-- The state of the loop of either encoder: what is still to be appended, by fuel f. -/
def Inv (w : World) (g : Nat) (bs out : List Int) (f : Nat) (g' cap' : Nat) (bs' : List Int) (v' : Int) (wr : World) : Prop :=
  1 ≤ f ∧ f ≤ 10 ∧ v' < 128 ^ f ∧ bs' ++ uvF f v' = out ∧ bs.length ≤ bs'.length ∧ bs'.length + f ≤ bs.length + 10 ∧ Sl wr g' cap' bs' ∧ Kp w g bs.length wr g'

theorem inv_step {w wr w2 : World} {g g' cap' f g2 cap2 : Nat} {bs out bs' : List Int} {v' : Int} {o : Obj} (hg : g < w.heap.size) (h : Inv w g bs out f g' cap' bs' v' wr) (hv : ¬ v' < 128) (hsl : Sl w2 g2 cap2 (bs' ++ [eb v'])) (hk : Kp (wr.alloc o) g' bs'.length w2 g2) :
    ∃ f', f = f' + 1 ∧ Inv w g bs out f' g2 cap2 (bs' ++ [eb v']) (v' / 128) w2 := by
  obtain ⟨h1, h2, h3, h4, h5, h6, h7, h8⟩ := h
  obtain ⟨f', rfl, hf', hv'⟩ := fuel_step hv h1 h3
  refine ⟨f', rfl, hf', by omega, hv', ?_, by simp; omega, by simp; omega, hsl, ?_⟩
  · rw [← h4, uvF_more f' v' hv]
    simp
  · exact h8.trans ((Kp.alloc wr g' _ o h7.lt).trans hk (Nat.le_refl _) h7.lt) h5 hg

theorem inv_last {w wr w2 : World} {g g' cap' f g2 cap2 : Nat} {bs out bs' : List Int} {v' : Int} {o : Obj} (hg : g < w.heap.size) (h : Inv w g bs out f g' cap' bs' v' wr) (hv : v' < 128) (hsl : Sl w2 g2 cap2 (bs' ++ [v'])) (hk : Kp (wr.alloc o) g' bs'.length w2 g2) :
    bs'.length + 1 = out.length ∧ Sl w2 g2 cap2 out ∧ Kp w g bs.length w2 g2 := by
  obtain ⟨h1, h2, h3, h4, h5, h6, h7, h8⟩ := h
  rw [uvF_last f v' hv] at h4
  rw [← h4]
  exact ⟨by simp, hsl, h8.trans ((Kp.alloc wr g' _ o h7.lt).trans hk (Nat.le_refl _) h7.lt) h5 hg⟩

theorem ret_len {g c n m : Nat} (h : n = m) : Ending.returned (.slice (some ⟨g, 0, none⟩) n c) = Ending.returned (.slice (some ⟨g, 0, none⟩) m c) := by rw [h]

set_option maxHeartbeats 400000 in
/-- binary.AppendUvarint. -/
theorem auv (g cap : Nat) (bs : List Int) (v : Int) (hv0 : 0 ≤ v) (hv1 : v < 18446744073709551616) (w : World) (hs : Sl w g cap bs) (hlen : bs.length ≤ 50000) :
    Calls Yba.prog 21 #[.slice (some ⟨g, 0, none⟩) bs.length cap, .int .u64 v] w fun e w' => ∃ g' cap', e = .returned (.slice (some ⟨g', 0, none⟩) (bs ++ uv v).length cap') ∧ Sl w' g' cap' (bs ++ uv v) ∧ Kp w g bs.length w' g' := by
  have HI : Hid (Inv w g bs (bs ++ uv v) 10 g cap bs v w) := ⟨by omega, by omega, by omega, rfl, by omega, by omega, hs, Kp.refl _ _ _⟩
  have HW : Hid (g < w.heap.size) := hs.lt
  clear hs
  generalize bs ++ uv v = out at *
  go_enter Yba.func21, Yba.ntmps21
  go_wp2_with fail
  go_loopw [0, 1] (fun s t wr => ∃ (f g' cap' : Nat) (bs' : List Int) (v' : Int), s = .slice (some ⟨g', 0, none⟩) bs'.length cap' ∧ t = .int .u64 v' ∧ 0 ≤ v' ∧ v' < 18446744073709551616 ∧ bs'.length ≤ 50010 ∧ g' < wr.heap.size ∧ Hid (Inv w g bs out f g' cap' bs' v' wr)) (fun _ t _ => (intOf t).toNat)
  case atStart => exact ⟨10, _, _, _, _, rfl, rfl, hv0, hv1, by omega, HW, HI⟩
  case round =>
    clear HI
    obtain ⟨f, g', cap', bs', v', rfl, rfl, h0, h1, hl, hg', HI⟩ := hrel
    have HS : Hid (∀ o, Sl (wr.alloc o) g' cap' bs') := fun o => HI.out.2.2.2.2.2.2.1.of_block (Below.heap_alloc _ _ _ hg')
    by_cases h : v' < 128
    · go_wp2_with (at_builtin; refine wpList_app1 _ rfl (.tmp 15) (.tmp 18) rfl g' cap' bs' rfl (HS.out _) v' wr.heap.size 1 rfl (by simp) (by omega) ?_; intro g2 cap2 w2 hsl2 hk2)
      have R := inv_last HW.out HI.out h hsl2 hk2
      go_ret
      exact ⟨g2, cap2, ret_len R.1, R.2⟩
    · go_wp2_with (at_builtin; refine wpList_app1 _ rfl (.tmp 7) (.tmp 11) rfl g' cap' bs' rfl (HS.out _) (eb v') wr.heap.size 1 rfl (by simp [eb]) (by omega) ?_; intro g2 cap2 w2 hsl2 hk2)
      obtain ⟨f', rfl, R⟩ := inv_step HW.out HI.out h hsl2 hk2
      have hlen2 := R.2.2.2.2.2.1
      have hsz := R.2.2.2.2.2.2.1.lt
      go_roundw
      case rel => exact ⟨f', g2, cap2, bs' ++ [eb v'], v' / 128, by simp, rfl, by omega, by omega, by omega, hsz, R⟩
      case measure => simp [intOf]; omega

set_option maxHeartbeats 400000 in
/-- zzs3226cuv. -/
theorem cuv (g cap : Nat) (bs : List Int) (v : Int) (hv0 : 0 ≤ v) (hv1 : v < 18446744073709551616) (w : World) (hs : Sl w g cap bs) (hlen : bs.length ≤ 50000) :
    Calls Yba.prog 18 #[.slice (some ⟨g, 0, none⟩) bs.length cap, .int .u64 v] w fun e w' => ∃ g' cap', e = .returned (.slice (some ⟨g', 0, none⟩) (bs ++ uv v).length cap') ∧ Sl w' g' cap' (bs ++ uv v) ∧ Kp w g bs.length w' g' := by
  have HI : Hid (Inv w g bs (bs ++ uv v) 10 g cap bs v w) := ⟨by omega, by omega, by omega, rfl, by omega, by omega, hs, Kp.refl _ _ _⟩
  have HW : Hid (g < w.heap.size) := hs.lt
  clear hs
  generalize bs ++ uv v = out at *
  go_enter Yba.func18, Yba.ntmps18
  go_wp2_with fail
  go_loopw [0, 1, 5] (fun s t i wr => ∃ (f g' cap' : Nat) (bs' : List Int) (v' : Int) (k : Nat), s = .slice (some ⟨g', 0, none⟩) bs'.length cap' ∧ t = .int .u64 v' ∧ i = .int .i64 k ∧ Hid (k + f = 10) ∧ k < 10 ∧ 0 ≤ v' ∧ v' < 18446744073709551616 ∧ bs'.length ≤ 50010 ∧ g' < wr.heap.size ∧ Hid (Inv w g bs out f g' cap' bs' v' wr)) (fun _ t _ _ => (intOf t).toNat)
  case atStart => exact ⟨10, _, _, _, _, 0, rfl, rfl, rfl, (by show 0 + 10 = 10; omega), by omega, hv0, hv1, by omega, HW, HI⟩
  case round =>
    clear HI
    obtain ⟨f, g', cap', bs', v', k, rfl, rfl, rfl, HF, hk, h0, h1, hl, hg', HI⟩ := hrel
    have HS : Hid (∀ o, Sl (wr.alloc o) g' cap' bs') := fun o => HI.out.2.2.2.2.2.2.1.of_block (Below.heap_alloc _ _ _ hg')
    by_cases h : v' < 128
    · go_wp2_with (at_builtin; refine wpList_app1 _ rfl (.tmp 22) (.tmp 25) rfl g' cap' bs' rfl (HS.out _) v' wr.heap.size 1 rfl (by simp) (by omega) ?_; intro g2 cap2 w2 hsl2 hk2)
      have R := inv_last HW.out HI.out h hsl2 hk2
      go_ret
      exact ⟨g2, cap2, ret_len R.1, R.2⟩
    · go_wp2_with (at_builtin; refine wpList_app1 _ rfl (.tmp 14) (.tmp 18) rfl g' cap' bs' rfl (HS.out _) (eb v') wr.heap.size 1 rfl (by simp [eb]) (by omega) ?_; intro g2 cap2 w2 hsl2 hk2)
      obtain ⟨f', rfl, R⟩ := inv_step HW.out HI.out h hsl2 hk2
      have hlen2 := R.2.2.2.2.2.1
      have hsz := R.2.2.2.2.2.2.1.lt
      have hf1 := R.1
      have hf := HF.out
      go_roundw
      case rel => exact ⟨f', g2, cap2, bs' ++ [eb v'], v' / 128, k + 1, by simp, rfl, by go_num, (by show k + 1 + f' = 10; omega), by omega, by omega, by omega, by omega, hsz, R⟩
      case measure => simp [intOf]; omega
end Go.Proofs.Ybulkbnuc.uv
