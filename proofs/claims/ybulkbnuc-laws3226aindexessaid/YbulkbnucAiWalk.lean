import Derived.Test.YbulkbnucAiLog
import Derived.BigQuiet
import Derived.Deep.QuietTactic
import Derived.Laws.Bits64b
import Derived.Deep.DeepCutAuto
namespace Go.Proofs.Ybulkbnuc.ai
open Go.RowKit Go.Proofs.Ybulkbnuc.fi

/-! ### the plain law -/
def xk (h : Int) (k : Nat) : Int := IntKind.u64.wrap (lo h + IntKind.u64.wrap (↑k * st h))
theorem lo_bd (h : Int) (h0 : 0 ≤ h) (h1 : h < 18446744073709551616) : 0 ≤ lo h ∧ lo h < 18446744073709551616 := by
  unfold lo
  obtain ⟨n, rfl⟩ := Int.eq_ofNat_of_zero_le h0
  have e := bits_and_u64_nat n 4294967295 (by omega) (by omega)
  have e2 : bits .and .u64 (n : Int) 4294967295 = ((n &&& 4294967295 : Nat) : Int) := e
  rw [e2]
  have : n &&& 4294967295 ≤ 4294967295 := Nat.and_le_right
  omega
theorem xk_zero (h : Int) (h0 : 0 ≤ h) (h1 : h < 18446744073709551616) : xk h 0 = lo h := by
  have := lo_bd h h0 h1
  unfold xk
  rw [IntKind.wrap_u64, IntKind.wrap_u64]
  simp only [Int.natCast_zero, Int.zero_mul]
  omega
theorem xk_succ (h : Int) (k : Nat) : xk h (k + 1) = IntKind.u64.wrap (xk h k + st h) := by
  unfold xk
  have e : ((k + 1 : Nat) : Int) * st h = ↑k * st h + st h := by
    rw [Int.natCast_add, Int.add_mul]; simp
  rw [e]
  generalize (k : Int) * st h = p
  simp only [IntKind.wrap_u64]
  omega
theorem xk_bd (h : Int) (k : Nat) : 0 ≤ xk h k ∧ xk h k < 18446744073709551616 := wrap_bd _
theorem idx_lt (h m : Int) (k : Nat) (hm : 0 < m) : 0 ≤ idx h m k ∧ idx h m k < m := by
  have e : idx h m k = (xk h k).tmod m := rfl
  rw [e, Int.tmod_eq_emod_of_nonneg (xk_bd h k).1]
  exact ⟨Int.emod_nonneg _ (by omega), Int.emod_lt_of_pos _ hm⟩

theorem lt_of_cell {w : World} {p : Addr} {v : Value} (h : w.cell? p = some v) : p.block < w.heap.size := by
  rcases Nat.lt_or_ge p.block w.heap.size with h' | h'
  · exact h'
  · simp [World.cell?, Array.getElem?_eq_none h'] at h
theorem Row_below {w w' : World} {a : Option Addr} {len : Nat} {zs : List Int} (h : Row w a len zs) (hb : Below w.heap.size w w') : Row w' a len zs :=
  ⟨h.1, fun i hi => let ⟨x, hx, hc⟩ := h.2 i hi; ⟨x, hx, (hb.cell (lt_of_cell hc)).trans hc⟩⟩

theorem run_callFunc_body {P : Program} {f : FuncId} {fn : Func} {c : Code} (hf : P.funcs[f]? = some fn) (hname : (fn.name == "runtime.NumGoroutine") = false) (hb : fn.body = some c) (args : Array Value) (w : World) :
    (callFunc f args).run P w = .ok (.enter f args) w := by
  have hn : ¬ (fn.name = "runtime.NumGoroutine") := by simpa using hname
  simp [go_sem, callFunc, hf, hn, hb]

set_option maxHeartbeats 400000 in
set_option maxRecDepth 100000 in
theorem law (a : Option Addr) (len c : Nat) (zs : List Int) (m0 : Int) (hm1 : 0 ≤ m0) (hm2 : m0 < 18446744073709551616) (w : World) (hlen : len ≤ 4096) (hrow : Row w a len zs) :
    Calls Yba.prog 3 #[.slice a len c, .int .u64 m0] w fun e w' => e = .returned (.bool true) ∧ Below w.heap.size w w' := by
  have hb0 : Below w.heap.size w (w.alloc (.cells #[.slice none 0 0] 24)) := (Below.refl _ _).alloc (Nat.le_refl _) _
  have HR : Hid (Row (w.alloc (.cells #[.slice none 0 0] 24)) a len zs) := Row_below hrow hb0
  have HL : Hid (Log w.heap.size w [] (w.alloc (.cells #[.slice none 0 0] 24))) := ⟨_, heap_alloc_new _ _, World.ownsRow_nil _ _ _ _, hb0⟩
  have HR0 : Hid (Row w a len zs) := hrow
  clear hb0 hrow
  go_enter Yba.func3, Yba.ntmps3
  go_upto_if 16 with fail
  go_cut [1] from 15 to 16 (fun s wx => wx = w ∧ ∃ m : Int, s = .int .u64 m ∧ 0 < m)
  case first =>
    by_cases h0 : m0 = 0
    · subst h0
      go_wp2
      go_meet
      case rel => exact ⟨rfl, 1, rfl, by omega⟩
    · have hb : (m0 == 0) = false := by simpa using h0
      go_wp2
      go_meet
      case rel => exact ⟨rfl, m0, rfl, by omega⟩
  case rest =>
    obtain ⟨rfl, m, rfl, hm⟩ := hcut
    go_wp2_with fail
    refine (fi_any 10 _ _ _ _ zs m hm _ hlen HR.out (fun j w' => Log wc.heap.size wc ((List.range j).map (idx (fi.hash zs) m)) w') HL.out (fun v w' => run_callFunc_body Yba.func10 (by kernel_rfl) rfl _ _) (fun j w' hj hI => ?_)).mono ?_
    · rw [List.range_succ, List.map_append]
      exact closure _ _ _ _ _ (by simp; omega) hI
    · rintro e w1 ⟨rfl, hL⟩
      clear HL
      obtain ⟨sv, hb, hown, hbl⟩ := hL
      obtain ⟨g, cap, rfl⟩ := own_shape hown (by simp)
      have hcl := cell_of_one hb
      have HR1 : Hid (Row w1 a len zs) := Row_below HR0.out hbl
      have HC : Hid (∀ k : Nat, k < 7 → w1.cell? ⟨g, k, none⟩ = some (.int .u64 (idx (fi.hash zs) m k))) := fun k hk => by
        rw [hown.cellAt k (by simp; omega)]
        simp [hk]
      simp only [List.length_map, List.length_range] at hcl
      clear hown hb
      have HBL : Hid (Below wc.heap.size wc w1) := hbl
      clear hbl
      clear HR HR0
      go_wp2_with fail
      go_loop [6, 7] (fun h i => ∃ k : Nat, k ≤ len ∧ i = .int .i64 k ∧ h = .int .u64 (fi.hash (zs.take k))) (fun _ i => len - (intOf i).toNat)
      case atStart => exact ⟨0, by omega, rfl, rfl⟩
      case round =>
        obtain ⟨k, hk, rfl, rfl⟩ := hrel
        by_cases hlt : k < len
        · obtain ⟨x, rfl, hck⟩ := HR1.out.2 k hlt
          have ht : Hid (fi.hash (zs.take (k + 1)) = hstep (fi.hash (zs.take k)) (zs[k]?.getD 0)) := hash_take zs k (by rw [HR1.out.1]; exact hlt)
          generalize fi.hash (zs.take k) = h at ht
          go_wp2
          go_round
          case rel => exact ⟨k + 1, by omega, by go_num, by rw [ht.out]; rfl⟩
          case measure => simp [intOf]; omega
        · obtain rfl : k = len := by omega
          rw [List.take_of_length_le (by rw [HR1.out.1]; exact Nat.le_refl _)]
          obtain ⟨hb1, hb2⟩ := hash_bd zs
          have HX0 : Hid (xk (fi.hash zs) 0 = lo (fi.hash zs)) := xk_zero _ hb1 hb2
          have HXS : Hid (∀ k, xk (fi.hash zs) (k + 1) = IntKind.u64.wrap (xk (fi.hash zs) k + st (fi.hash zs))) := xk_succ _
          have HIX : Hid (∀ k, idx (fi.hash zs) m k = (xk (fi.hash zs) k).tmod m ∧ idx (fi.hash zs) m k < m) := fun k => ⟨rfl, (idx_lt _ m k hm).2⟩
          have e1 : bits .and .u64 (fi.hash zs) 4294967295 = lo (fi.hash zs) := rfl
          have e2 : bits .or .u64 (fi.hash zs / 4294967296) 1 = st (fi.hash zs) := rfl
          clear HR1
          generalize idx (fi.hash zs) m = ix at HC HIX
          generalize fi.hash zs = h at *
          generalize lo h = l at HX0 e1
          generalize st h = s at HXS e2
          generalize xk h = X at HX0 HXS HIX
          clear hlt hk
          go_wp2_with fail
          clear e1 e2
          go_loopw [10, 11] (fun x i wr => (∃ n, wr = w1.drewN n) ∧ ∃ k : Nat, k ≤ 7 ∧ i = .int .i64 k ∧ x = .int .u64 (X k)) (fun _ i _ => 7 - (intOf i).toNat)
          case atStart => exact ⟨⟨0, rfl⟩, 0, by omega, rfl, by rw [HX0.out]⟩
          case round =>
            obtain ⟨⟨n, rfl⟩, k, hk, rfl, rfl⟩ := hrel
            by_cases hlt : k < 7
            · have hck := HC.out k hlt
              obtain ⟨hi1, hi2⟩ := HIX.out k
              generalize ix k = v at hck hi1 hi2
              have hi3 : (X k).tmod m = v := hi1.symm
              have hd : decide (m ≤ v) = false := by simp; omega
              have hk7 : (k : Int) < 7 := by omega
              clear hi1
              have HX1 : Hid (X (k + 1) = IntKind.u64.wrap (X k + s)) := HXS.out k
              clear HX0 HXS HIX HC
              go_wp2
              go_quiet (fail)
              go_wp2
              go_roundw
              case rel => exact ⟨⟨_, rfl⟩, k + 1, by omega, by go_num, by rw [HX1.out]⟩
              case measure => simp [intOf]; omega
            · go_wp2
              go_ret
              exact ⟨rfl, HBL.out.trans ⟨rfl, rfl, rfl, Nat.le_refl _, fun _ _ => rfl⟩⟩
end Go.Proofs.Ybulkbnuc.ai
