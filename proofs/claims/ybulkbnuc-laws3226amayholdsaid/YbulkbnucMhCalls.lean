import Derived.Test.YbulkbnucMhBits
/-
  The two closures and mayHold by contracts.
-/
namespace Go.Proofs.Ybulkbnuc.mh
open Go.RowKit Go.Proofs.Ybulkbnuc.fi

theorem run_callFunc_body {P : Program} {f : FuncId} {fn : Func} {c : Code} (hf : P.funcs[f]? = some fn) (hname : (fn.name == "runtime.NumGoroutine") = false) (hb : fn.body = some c) (args : Array Value) (w : World) :
    (callFunc f args).run P w = .ok (.enter f args) w := by
  have hn : ¬ (fn.name = "runtime.NumGoroutine") := by simpa using hname
  simp [go_sem, callFunc, hf, hn, hb]

/-- Block B holds the bytes bs. -/
def FRow (w : World) (B : Nat) (bs : List Int) : Prop := w.heap[B]? = some (.cells (bs.map (Value.int .u8)).toArray 5 (0, 0))
theorem FRow.cell {w : World} {B : Nat} {bs : List Int} (h : FRow w B bs) (i : Nat) (hi : i < bs.length) : w.cell? ⟨B, i, none⟩ = some (.int .u8 (bs[i]?.getD 0)) := by
  unfold FRow at h
  simp [World.cell?, h, hi]
theorem FRow.free {w : World} {B : Nat} {bs : List Int} (h : FRow w B bs) (i : Nat) : w.frozen? ⟨B, i, none⟩ = false := by
  unfold FRow at h
  simp [World.frozen?, h]
theorem FRow.set {w : World} {B : Nat} {bs : List Int} (h : FRow w B bs) (i : Nat) (u : Int) : FRow (w.setCell ⟨B, i, none⟩ (.int .u8 u)) B (bs.set i u) := by
  have hlt := lt_of_block h
  unfold FRow at h ⊢
  have h' := (Array.getElem?_eq_some_iff.1 h).2
  simp only [World.setCell, Array.getElem?_modify, if_true, h, Option.map_some]
  simp [List.map_set]
theorem FRow.other {w : World} {B : Nat} {bs : List Int} (h : FRow w B bs) {p : Addr} (hp : B ≠ p.block) (u : Value) : FRow (w.setCell p u) B bs := by
  unfold FRow at *
  rw [Below.heap_setCell _ _ _ _ hp]
  exact h
theorem FRow.below {w w' : World} {B X : Nat} {bs : List Int} (h : FRow w B bs) (hb : Below X w w') (hB : B < X) : FRow w' B bs := by
  unfold FRow at *
  rw [hb.block B hB]
  exact h

/-! ### set: 'filter[i/8] |= 1 << (i%8)' -/
/-- The filter's bytes in block F, the variable that holds the slice in block V, the bytes of 'zero' in block O. -/
def Mem (w0 : World) (B F V O nb : Nat) (bs : List Int) (w : World) : Prop :=
  FRow w F bs ∧ w.heap[V]? = some (.cells #[.slice (some ⟨F, 0, none⟩) nb nb] 22 (0, 0)) ∧ FRow w O (List.replicate nb 0) ∧ Below B w0 w

set_option maxHeartbeats 400000 in
theorem set_any (w0 : World) (B F V O nb i : Nat) (bs : List Int) (w : World) (hBF : B ≤ F) (hFV : F < V) (hFO : F < O) (hnb : nb ≤ 256) (hb : Bys nb bs) (hi : i / 8 < nb) (h : Mem w0 B F V O nb bs w) :
    Calls Yba.prog 11 #[.int .u64 i, .pointer (some ⟨V, 0, none⟩)] w fun e w' => e = .returned (.tuple #[]) ∧ Mem w0 B F V O nb (setB bs i) w' := by
  obtain ⟨h1, h2, h3, h4⟩ := h
  have hV := cell_of_one h2
  have hc := h1.cell (i / 8) (by rw [hb.1]; exact hi)
  have hf := h1.free (i / 8)
  have hi2 : i < 2048 := by omega
  obtain ⟨hv0, hv1⟩ := hb.2 (i / 8)
  have R : Hid (∀ u, u = orB (bs[i / 8]?.getD 0) i → Mem w0 B F V O nb (setB bs i) (w.setCell ⟨F, i / 8, none⟩ (.int .u8 u))) := by
    rintro u rfl
    refine ⟨h1.set _ _, ?_, h3.other (by simp; omega) _, ?_⟩
    · rw [Below.heap_setCell _ _ _ _ (by simp; omega)]
      exact h2
    · exact Below.setCell (p := ⟨F, i / 8, none⟩) h4 hBF _
  have HO : Hid (∀ v, orB v i = bits .or .u8 v (2 ^ (i % 8) % 256)) := fun _ => rfl
  generalize bs[i / 8]?.getD 0 = v at *
  clear h1 h2 h3 h4 hb
  go_enter Yba.func11, Yba.ntmps11
  go_wp2
  go_end0
  exact ⟨rfl, R.out _ (HO.out v).symm⟩

theorem Mem.below {w0 w w' : World} {B F V O nb : Nat} {bs : List Int} (h : Mem w0 B F V O nb bs w) (hBF : B ≤ F) (hb : Below w.heap.size w w') : Mem w0 B F V O nb bs w' := by
  obtain ⟨h1, h2, h3, h4⟩ := h
  refine ⟨h1.below hb (lt_of_block h1), ?_, h3.below hb (lt_of_block h3), ?_⟩
  · rw [hb.block V (lt_of_block h2)]
    exact h2
  · exact h4.trans (hb.mono (by have := lt_of_block h1; omega))

/-! ### the test: 'held = held && bits[i/8]&(1<<(i%8)) != 0' -/
/-- The variable 'held' in block S, the slice in block S + 1 less one .. : both new; the bytes lie in block G. -/
def Tst (w0 : World) (S G nb : Nat) (bs : List Int) (b : Bool) (w : World) : Prop :=
  w.heap[S + 1]? = some (.cells #[.bool b] 4 (0, 0)) ∧ w.heap[S]? = some (.cells #[.slice (some ⟨G, 0, none⟩) nb nb] 22 (0, 0)) ∧ FRow w G bs ∧ Below S w0 w

set_option maxHeartbeats 400000 in
theorem test_any (w0 : World) (S G nb i : Nat) (bs : List Int) (b : Bool) (w : World) (hG : G < S) (hnb : nb ≤ 256) (hb : Bys nb bs) (hi : i / 8 < nb) (h : Tst w0 S G nb bs b w) :
    Calls Yba.prog 20 #[.int .u64 i, .pointer (some ⟨S + 1, 0, none⟩), .pointer (some ⟨S, 0, none⟩)] w fun e w' => e = .returned (.tuple #[]) ∧ Tst w0 S G nb bs (b && has bs i) w' := by
  obtain ⟨h1, h2, h3, h4⟩ := h
  have hV := cell_of_one h2
  have hH := cell_of_one h1
  have hHf := free_of_one h1
  have hc := h3.cell (i / 8) (by rw [hb.1]; exact hi)
  have hi2 : i < 2048 := by omega
  obtain ⟨hv0, hv1⟩ := hb.2 (i / 8)
  have R : Hid (∀ u, u = (b && has bs i) → Tst w0 S G nb bs (b && has bs i) (w.setCell ⟨S + 1, 0, none⟩ (.bool u))) := by
    rintro u rfl
    refine ⟨one_setCell h1, ?_, h3.other (by simp; omega) _, ?_⟩
    · rw [Below.heap_setCell _ _ _ _ (by simp)]
      exact h2
    · exact Below.setCell (p := ⟨S + 1, 0, none⟩) h4 (by exact Nat.le_succ S) _
  have HO : Hid (has bs i = (bits .and .u8 (bs[i / 8]?.getD 0) (2 ^ (i % 8) % 256) != 0)) := rfl
  generalize has bs i = hs at *
  generalize bs[i / 8]?.getD 0 = v at *
  clear h1 h2 h3 h4 hb
  cases b
  · go_enter Yba.func20, Yba.ntmps20
    go_wp2
    go_end0
    exact ⟨rfl, R.out _ rfl⟩
  · go_enter Yba.func20, Yba.ntmps20
    go_wp2
    go_end0
    exact ⟨rfl, R.out _ (by rw [HO.out]; rfl)⟩

theorem lt_of_cell {w : World} {p : Addr} {v : Value} (h : w.cell? p = some v) : p.block < w.heap.size := by
  rcases Nat.lt_or_ge p.block w.heap.size with h' | h'
  · exact h'
  · simp [World.cell?, Array.getElem?_eq_none h'] at h
theorem Row_below {w w' : World} {a : Option Addr} {len : Nat} {zs : List Int} (h : Row w a len zs) (hb : Below w.heap.size w w') : Row w' a len zs :=
  ⟨h.1, fun i hi => let ⟨x, hx, hc⟩ := h.2 i hi; ⟨x, hx, (hb.cell (lt_of_cell hc)).trans hc⟩⟩

/-- The indexes of a key, as naturals. -/
def ixs (zs : List Int) (nb : Nat) (j : Nat) : Nat := (idx (fi.hash zs) ((nb : Int) * 8) j).toNat
theorem ixs_spec (zs : List Int) (nb : Nat) (hnb : 0 < nb) (j : Nat) : idx (fi.hash zs) ((nb : Int) * 8) j = (ixs zs nb j : Int) ∧ ixs zs nb j / 8 < nb := by
  have h1 : 0 ≤ idx (fi.hash zs) ((nb : Int) * 8) j ∧ idx (fi.hash zs) ((nb : Int) * 8) j < (nb : Int) * 8 := by
    unfold idx
    rw [Int.tmod_eq_emod_of_nonneg (wrap_bd _).1]
    exact ⟨Int.emod_nonneg _ (by omega), Int.emod_lt_of_pos _ (by omega)⟩
  unfold ixs
  omega

set_option maxHeartbeats 400000 in
theorem mayHold_any (G nb : Nat) (bs : List Int) (a : Option Addr) (len c : Nat) (zs : List Int) (w : World) (hG : G < w.heap.size) (hnb0 : 0 < nb) (hnb : nb ≤ 256) (hb : Bys nb bs) (hf : FRow w G bs) (hlen : len ≤ 4096) (hrow : Row w a len zs) :
    Calls Yba.prog 12 #[.slice (some ⟨G, 0, none⟩) nb nb, .slice a len c] w fun e w' => e = .returned (.bool (all bs (ixs zs nb) 7)) ∧ Below w.heap.size w w' := by
  have hb2 : Below w.heap.size w ((w.alloc (.cells #[.slice (some ⟨G, 0, none⟩) nb nb] 22)).alloc (.cells #[.bool true] 4)) := ((Below.refl _ _).alloc (Nat.le_refl _) _).alloc (by simp) _
  have HR : Hid (Row ((w.alloc (.cells #[.slice (some ⟨G, 0, none⟩) nb nb] 22)).alloc (.cells #[.bool true] 4)) a len zs) := Row_below hrow hb2
  have HT : Hid (Tst w w.heap.size G nb bs (all bs (ixs zs nb) 0) ((w.alloc (.cells #[.slice (some ⟨G, 0, none⟩) nb nb] 22)).alloc (.cells #[.bool true] 4))) := by
    refine ⟨?_, ?_, hf.below hb2 hG, hb2⟩
    · have := heap_alloc_new (w.alloc (.cells #[.slice (some ⟨G, 0, none⟩) nb nb] 22)) (.cells #[.bool true] 4)
      rw [World.size_alloc] at this
      exact this
    · rw [Below.heap_alloc _ _ _ (by simp)]
      exact heap_alloc_new _ _
  clear hb2 hrow hf
  go_enter Yba.func12, Yba.ntmps12
  go_wp2_with fail
  refine (fi_any 20 _ _ _ _ zs _ (by omega) _ hlen HR.out (fun j w' => Tst w w.heap.size G nb bs (all bs (ixs zs nb) j) w') HT.out (fun v w' => run_callFunc_body Yba.func20 (by kernel_rfl) rfl _ _) (fun j w' hj hI => ?_)).mono ?_
  · obtain ⟨e1, e2⟩ := ixs_spec zs nb hnb0 j
    rw [e1]
    exact test_any w w.heap.size G nb _ bs _ w' hG hnb hb e2 hI
  · rintro e w1 ⟨rfl, hT⟩
    obtain ⟨h1, _, _, h4⟩ := hT
    have hc := cell_of_one h1
    clear h1 HT HR hb
    go_wp2
    go_ret
    exact ⟨rfl, h4⟩
end Go.Proofs.Ybulkbnuc.mh
