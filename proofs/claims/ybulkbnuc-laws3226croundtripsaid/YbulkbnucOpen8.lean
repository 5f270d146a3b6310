import Derived.Test.YbulkbnucRows
import Derived.WalkKit
import Derived.ProofKit
import Derived.OpenShut
import Derived.ChangeOld
import Derived.Below
/-
  The struct of eight int64s, opened. The bytes that came in, opened.
-/
namespace Go.Proofs.Ybulkbnuc.o8
open Go.ChangeShapes Go.WideShapes Go.ChangeAt Go.RowKit

theorem cell_of_take {l : List Value} {i : Nat} {v : Value} (h : (l.drop i).take 1 = [v]) : l[i]? = some v := by
  have e : ((l.drop i).take 1)[0]? = some v := by rw [h]; rfl
  rw [List.getElem?_take, if_pos (by omega), List.getElem?_drop] at e
  simpa using e

theorem cells57 : Yba.prog.cellsOf 57 = 8 := by kernel_rfl
theorem cells2 : Yba.prog.cellsOf 2 = 1 := by kernel_rfl

section
variable {H : Type} {enc : TypeId × Value → H} {w : World} {base : Nat} {spare : Nat → Bool} {held : Bool}
set_option maxRecDepth 100000 in
theorem open8 {r : Reach} {b0 : Nat} {v : Value} {d : DataW H} {p : List MemPlace} (hv : Value.okWide Yba.prog w r b0 57 v) (h : DataW.Trod enc Yba.prog w base spare held 57 v d p) :
    ∃ F : Nat → Int, v = .agg #[.int .i64 (F 0), .int .i64 (F 1), .int .i64 (F 2), .int .i64 (F 3), .int .i64 (F 4), .int .i64 (F 5), .int .i64 (F 6), .int .i64 (F 7)] ∧ ∀ i, i < 8 → (Lit.int .i64 (F i)).wf = true := by
  obtain ⟨cs, rfl, hsz⟩ := okWide_struct Yba.underlying57 hv
  rw [cells57] at hsz
  obtain ⟨fuel, hf⟩ := h
  obtain ⟨xs, n, _, _, _, hlen, hx⟩ := DataW.trod_struct Yba.underlying57 hf
  have hlen8 : xs.length = 8 := hlen
  have one : ∀ i, i < 8 → (∀ c : List Value, DataW.trod enc Yba.prog w base spare held n 2 c = xs[i]? → c = (cs.toList.drop i).take 1 → ∃ a, cs.toList[i]? = some (.int .i64 a) ∧ (Lit.int .i64 a).wf = true) := by
    intro i hi c hc e
    rw [List.getElem?_eq_getElem (by omega)] at hc
    obtain ⟨a, e', _, wa⟩ := DataW.trod_int Yba.underlying2 hc
    exact ⟨a, cell_of_take (by rw [← e]; exact e'), wa⟩
  have ec : (Value.agg cs).cells.toList = cs.toList := rfl
  have each : ∀ i, i < 8 → ∃ a, cs.toList[i]? = some (.int .i64 a) ∧ (Lit.int .i64 a).wf = true := by
    intro i hi
    have : i = 0 ∨ i = 1 ∨ i = 2 ∨ i = 3 ∨ i = 4 ∨ i = 5 ∨ i = 6 ∨ i = 7 := by omega
    rcases this with rfl | rfl | rfl | rfl | rfl | rfl | rfl | rfl
    · exact one 0 hi _ (hx 0 _ rfl) (by show ((Value.agg cs).cells.toList.drop 0).take (Yba.prog.cellsOf 2) = _; rw [cells2, ec])
    · exact one 1 hi _ (hx 1 _ rfl) (by show ((Value.agg cs).cells.toList.drop 1).take (Yba.prog.cellsOf 2) = _; rw [cells2, ec])
    · exact one 2 hi _ (hx 2 _ rfl) (by show ((Value.agg cs).cells.toList.drop 2).take (Yba.prog.cellsOf 2) = _; rw [cells2, ec])
    · exact one 3 hi _ (hx 3 _ rfl) (by show ((Value.agg cs).cells.toList.drop 3).take (Yba.prog.cellsOf 2) = _; rw [cells2, ec])
    · exact one 4 hi _ (hx 4 _ rfl) (by show ((Value.agg cs).cells.toList.drop 4).take (Yba.prog.cellsOf 2) = _; rw [cells2, ec])
    · exact one 5 hi _ (hx 5 _ rfl) (by show ((Value.agg cs).cells.toList.drop 5).take (Yba.prog.cellsOf 2) = _; rw [cells2, ec])
    · exact one 6 hi _ (hx 6 _ rfl) (by show ((Value.agg cs).cells.toList.drop 6).take (Yba.prog.cellsOf 2) = _; rw [cells2, ec])
    · exact one 7 hi _ (hx 7 _ rfl) (by show ((Value.agg cs).cells.toList.drop 7).take (Yba.prog.cellsOf 2) = _; rw [cells2, ec])
  obtain ⟨F, hF⟩ : ∃ F : Nat → Int, ∀ i, i < 8 → cs.toList[i]? = some (.int .i64 (F i)) ∧ (Lit.int .i64 (F i)).wf = true := by
    refine ⟨fun i => if h : i < 8 then Classical.choose (each i h) else 0, fun i hi => ?_⟩
    simp only [hi, dif_pos]
    exact Classical.choose_spec (each i hi)
  refine ⟨F, ?_, fun i hi => (hF i hi).2⟩
  congr 1
  apply Array.toList_inj.1
  apply List.ext_getElem?
  intro i
  rcases Nat.lt_or_ge i 8 with hi | hi
  · rw [(hF i hi).1]
    have : i = 0 ∨ i = 1 ∨ i = 2 ∨ i = 3 ∨ i = 4 ∨ i = 5 ∨ i = 6 ∨ i = 7 := by omega
    rcases this with rfl | rfl | rfl | rfl | rfl | rfl | rfl | rfl <;> rfl
  · rw [List.getElem?_eq_none (by rw [Array.length_toList, hsz]; exact hi), List.getElem?_eq_none (by simpa using hi)]

set_option maxRecDepth 100000 in
/-- A slice of bytes that came in. -/
theorem open_bytes {r : Reach} {b0 : Nat} {v : Value} {d : DataW H} {p : List MemPlace} (hv : Value.okWide Yba.prog w r b0 22 v) (h : DataW.Trod enc Yba.prog w base (fun _ => true) held 22 v d p) :
    ∃ (a : Option Addr) (c : Nat) (zs : List Int), v = .slice a zs.length c ∧ (∀ i, i < zs.length → ∃ x, a = some x ∧ w.cell? (x.add i) = some (.int .u8 (zs[i]?.getD 0))) := by
  obtain ⟨a0, len0, cap0, rfl⟩ := okWide_slice Yba.underlying22 hv
  obtain ⟨fuel, hf⟩ := h
  rcases open_ints Yba.underlying22 Yba.underlying5 (by kernel_rfl) hf with ⟨hcs, _⟩ | ⟨x, l, c, zs, hcs, _, hl, hm, hz, _, hcell, hwz⟩
  · simp [Value.cells] at hcs
    obtain ⟨rfl, rfl, rfl⟩ := hcs
    exact ⟨none, 0, [], rfl, fun i hi => by simp at hi⟩
  · simp [Value.cells] at hcs
    obtain ⟨rfl, rfl, rfl⟩ := hcs
    have hz' : zs.length = cap0 := by simpa using hz
    have hlen : (zs.take len0).length = len0 := by rw [List.length_take]; omega
    refine ⟨some x, cap0, zs.take len0, by rw [hlen], fun i hi => ⟨x, rfl, ?_⟩⟩
    rw [hlen] at hi
    rw [hcell i (by omega), List.getD_eq_getElem?_getD, List.getElem?_take, if_pos hi]
end
end Go.Proofs.Ybulkbnuc.o8
