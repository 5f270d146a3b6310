import Derived.Test.YbulkbnucUv
import Derived.Laws.CopyOwn
namespace Go.Proofs.Ybulkbnuc.cp
open Go.RowKit Go.Proofs.Ybulkbnuc.sl Go.Proofs.Ybulkbnuc.uv

/-- What is asked of a slice of bytes that came in: its first 'len' cells hold zs. -/
def Row (w : World) (a : Option Addr) (len : Nat) (zs : List Int) : Prop :=
  zs.length = len ∧ ∀ i, i < len → ∃ x, a = some x ∧ w.cell? (x.add i) = some (.int .u8 (zs[i]?.getD 0))
theorem lt_of_cell {w : World} {p : Addr} {v : Value} (h : w.cell? p = some v) : p.block < w.heap.size := by
  rcases Nat.lt_or_ge p.block w.heap.size with h' | h'
  · exact h'
  · simp [World.cell?, Array.getElem?_eq_none h'] at h
theorem Row_below {w w' : World} {a : Option Addr} {len : Nat} {zs : List Int} (h : Row w a len zs) (hb : Below w.heap.size w w') : Row w' a len zs :=
  ⟨h.1, fun i hi => let ⟨x, hx, hc⟩ := h.2 i hi; ⟨x, hx, (hb.cell (lt_of_cell hc)).trans hc⟩⟩

theorem info5b : (Yba.prog.info? 5).map (·.size) = some 1 := by kernel_rfl
theorem mk (l x : Nat) (h : l + x ≤ 100000) (w : World) : (Instr.makeSlice 22 (.int .i64 l) (.int .i64 ((l : Int) + x))).run Yba.prog w = .ok (.slice (some ⟨w.heap.size, 0, none⟩) l (l + x)) (w.alloc (.cells (List.replicate (l + x) (.int .u8 0)).toArray 5)) := by
  obtain ⟨i0, hi, hz0, hz1, hz2⟩ := info_parts info5
  have := run_make (P := Yba.prog) w 22 5 i0 (.int .u8 0) Yba.underlying22 hi hz0 .i64 .i64 l ((l : Int) + x) (by omega) (by omega) (by rw [hz2]; omega) (by omega)
  rw [this, hz1]
  have e1 : ((l : Int) + x).toNat = l + x := by omega
  have e2 : ((l : Int)).toNat = l := by omega
  have e3 : madeCells (Value.int .u8 0).cells ((l + x) * 1) = (List.replicate (l + x) (Value.int .u8 0)).toArray := by
    apply Array.toList_inj.1
    have e4 : (Value.int .u8 0).cells = #[Value.int .u8 0] := rfl
    rw [e4, toList_madeCells_one, Nat.mul_one]
  rw [e1, e2, e3]

/-- n zeros, behind a name. -/
def zeros (n : Nat) : List Value := List.replicate n (.int .u8 0)
theorem len_zeros (n : Nat) : (zeros n).length = n := by simp [zeros]

theorem sl_of_splice {w : World} {g len x : Nat} {zs : List Int} {X : List Value} (hX : X = zs.map (Value.int .u8)) (hl : X.length = len) (hs : len + x ≤ 100000) (h : w.heap[g]? = some (.cells (splice (zeros (len + x)) 0 X).toArray 5 (0, 0))) : Sl w g (len + x) zs := by
  have hzl : zs.length = len := by rw [← hl, hX, List.length_map]
  have hz := len_zeros (len + x)
  refine ⟨by simp, .inr ⟨g, len + x, _, rfl, Nat.zero_le _, h, by omega, by unfold maxLen; omega, ?_, ?_⟩⟩
  · rw [List.size_toArray, length_splice _ _ _ (by omega), hz, Nat.mul_one]
  · rw [hzl, Nat.mul_one]
    unfold splice
    rw [List.take_zero, List.nil_append, List.take_append_of_le_length (by omega), List.take_of_length_le (by omega)]
    exact hX

set_option maxHeartbeats 400000 in
/-- zzs3226ccopy. -/
theorem ccopy (a : Option Addr) (len c x : Nat) (zs : List Int) (w : World) (hlen : len ≤ 1024) (hx : x < 80) (hr : Row w a len zs) :
    Calls Yba.prog 14 #[.slice a len c, .int .i64 x] w fun e w' => e = .returned (.slice (some ⟨w.heap.size, 0, none⟩) len (len + x)) ∧ Sl w' w.heap.size (len + x) zs ∧ Below w.heap.size w w' := by
  have hmk : (Instr.makeSlice 22 (.int .i64 len) (.int .i64 ((len : Int) + x))).run Yba.prog w = .ok (.slice (some ⟨w.heap.size, 0, none⟩) len (len + x)) (w.alloc (.cells (zeros (len + x)).toArray 5)) := mk len x (by omega) w
  have hb0 : Below w.heap.size w (w.alloc (.cells (zeros (len + x)).toArray 5)) := (Below.refl _ _).alloc (Nat.le_refl _) _
  have HR : Hid (Row (w.alloc (.cells (zeros (len + x)).toArray 5)) a len zs) := Row_below hr hb0
  obtain ⟨X, hX⟩ : ∃ X, X = zs.map (Value.int .u8) := ⟨_, rfl⟩
  have HX : Hid (X = zs.map (Value.int .u8)) := hX
  have hXl : X.length = len := by rw [hX, List.length_map]; exact hr.1
  clear hX hr
  go_enter Yba.func14, Yba.ntmps14
  go_wp2_with (refine wpList_copy_splice rfl (.tmp 13) (.tmp 14) 22 22 rfl 5 Yba.underlying22 info5b _ _ _ _ _ _ rfl rfl w.heap.size 0 (zeros (len + x)) 5 (heap_alloc_new _ _) X (by rw [hXl]; simp) ?_ (by rw [hXl, len_zeros]; omega) (by rw [HX.out]; exact ints_oneCell _ _) w.heap.size w hb0 (Nat.le_refl _) ?_; rotate_right; intro w2 HG2 hB2)
  · go_ret
    exact ⟨rfl, sl_of_splice HX.out hXl (by omega) HG2.out, hB2⟩
  · intro hpos
    obtain ⟨y, rfl, _⟩ := HR.out.2 0 hpos
    refine ⟨y, rfl, fun j v hj => ?_⟩
    have hjl : j < len := by
      have := (List.getElem?_eq_some_iff.1 hj).1
      omega
    obtain ⟨y', hy', hc⟩ := HR.out.2 j hjl
    cases hy'
    rw [hc, ← hj, HX.out]
    have : j < zs.length := by rw [HR.out.1]; exact hjl
    simp [this]
end Go.Proofs.Ybulkbnuc.cp
