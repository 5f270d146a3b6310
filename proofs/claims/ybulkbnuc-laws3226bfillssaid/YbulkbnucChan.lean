import Derived.Test.YbulkbnucRows
import Derived.WalkKit
import Derived.Conc.LoneCalls
import Derived.Conc.LoneSelectN
/-
  The kit's walk ('Code.wp') at a communication in one goroutine: a region is carried to its end by the machine's own steps.
-/
namespace Go.Proofs.Ybulkbnuc.chan
open Go.RowKit Go.Conc

section
variable {P : Program} {Q : Exit → Act → World → Prop} {ops : Array Oper}

/-- From inside a region: the operations of l are still to come. -/
def OpsTo (P : Program) (ops : Array Oper) (Q : Exit → Act → World → Prop) (l : List Nat) (a : Act) (w : World) : Prop :=
  ∀ (b : Frame) (k : List Item) (cs : List Frame), ∃ e a' w', Q e a' w' ∧ Arrives P (lone (b.at a (.inRegion ops l :: k)) cs w) b k cs e a' w'

theorem OpsTo.of_wpOps {l : List Nat} {a : Act} {w : World} (h : wpOps P ops Q l a w) : OpsTo P ops Q l a w := fun b k cs => wp_ops l a w h b k cs

/-- The rest of a region whose operations are written out, by the kit's walk. -/
theorem OpsTo.of_list {pre l : List Oper} {a : Act} {w : World} (h : wpList P (pre ++ l).toArray Q l a w) : OpsTo P (pre ++ l).toArray Q (List.range' pre.length l.length) a w :=
  .of_wpOps (by rw [wpOps_eq_wpList (ops := (pre ++ l).toArray) l pre.length (fun j => by simp [List.getElem?_append_right])]; exact h)

theorem OpsTo.region {id : Nat} {a : Act} {w : World} (h : OpsTo P ops Q (List.range ops.size) a w) : (Code.region id ops false).wp P Q a w :=
  fun b k cs => let ⟨e, a', w', q, r⟩ := h b k cs; ⟨e, a', w', q, .of_steps (.one step_region) r⟩

theorem OpsTo.nil {a : Act} {w : World} (h : Q .normal a w) : OpsTo P ops Q [] a w := fun _ _ _ => ⟨.normal, a, w, h, .one step_region_end⟩

theorem OpsTo.step {l l' : List Nat} {a a' : Act} {w w' : World}
    (hs : ∀ (b : Frame) (k : List Item) (cs : List Frame), step P (lone (b.at a (.inRegion ops l :: k)) cs w) = .next (lone (b.at a' (.inRegion ops l' :: k)) cs w'))
    (h : OpsTo P ops Q l' a' w') : OpsTo P ops Q l a w :=
  fun b k cs => let ⟨e, a₁, w₁, q, r⟩ := h b k cs; ⟨e, a₁, w₁, q, .of_steps (.one (hs b k cs)) r⟩

/-- A plain operation: it yields a value. -/
theorem OpsTo.value {i : Nat} {rest : List Nat} {a : Act} {w w' : World} {o : Oper} {v : Value} (ho : ops[i]? = some o) (hw : Region.wanted o (yielded ops a.tmps) = true)
    (hr : (execOp a.eval o).run P w = .ok (.value v) w') (h : OpsTo P ops Q rest (a.put o.dst v) w') : OpsTo P ops Q (i :: rest) a w := by
  refine OpsTo.step (fun b k cs => step_lone_go ?_) h
  have hfin : (b.at a (.inRegion ops (i :: rest) :: k)).finish v = b.at (a.put o.dst v) (.inRegion ops rest :: k) := by rw [Frame.finish_at, ho]; rfl
  rw [stepG_op ho hw, ← hfin]
  simp [stepG.apply, hr]

/-- A communication is handed up to the machine. -/
theorem comm_any {b : Frame} {a : Act} {k : List Item} {cs : List Frame} {w w' : World} {i : Nat} {rest : List Nat} {o : Oper} {cases : Array CommCase} {blocking : Bool} {shape : CommShape}
    (ho : ops[i]? = some o) (hw : Region.wanted o (yielded ops a.tmps) = true) (hr : (execOp a.eval o).run P w = .ok (.comm cases blocking shape) w') :
    ∃ es, stepG P true (G (b.at a (.inRegion ops (i :: rest) :: k)) cs) w = .comm (G (b.at a (.inRegion ops (i :: rest) :: k)) cs) cases blocking shape w' es := by
  rw [stepG_oper ho hw]
  simp [stepG.apply, hr, G, Frame.at, GStep.after]

theorem OpsTo.send {i : Nat} {rest : List Nat} {a : Act} {w w₁ : World} {o : Oper} {c cap s r : Nat} {buf : Array Value} {v z : Value} {tm : Bool}
    (ho : ops[i]? = some o) (hw : Region.wanted o (yielded ops a.tmps) = true)
    (hr : (execOp a.eval o).run P w = .ok (.comm #[scase c v z] true .send) w₁) (hc : w₁.heap[c]? = some (.chan cap buf false s r tm)) (hroom : buf.size < cap)
    (h : OpsTo P ops Q rest (a.put o.dst undef) (w₁.setChan c cap (buf.push v) false (s + 1) r tm)) : OpsTo P ops Q (i :: rest) a w := by
  refine OpsTo.step (fun b k cs => ?_) h
  obtain ⟨es, hs⟩ := comm_any (b := b) (k := k) (cs := cs) (rest := rest) ho hw hr
  have := step_lone_send_room hs hc hroom
  rw [Frame.finish_at, ho] at this
  rw [lone_eq_solo, this]
  rfl

theorem OpsTo.selSend {i : Nat} {rest : List Nat} {a : Act} {w w₁ : World} {o : Oper} {c cap s r : Nat} {buf : Array Value} {v z : Value} {tm : Bool} {blocking : Bool}
    (ho : ops[i]? = some o) (hw : Region.wanted o (yielded ops a.tmps) = true)
    (hr : (execOp a.eval o).run P w = .ok (.comm #[scase c v z] blocking .select) w₁) (hc : w₁.heap[c]? = some (.chan cap buf false s r tm)) (hroom : buf.size < cap)
    (h : OpsTo P ops Q rest (a.put o.dst (.tuple #[goInt 0, .bool false])) (w₁.setChan c cap (buf.push v) false (s + 1) r tm)) : OpsTo P ops Q (i :: rest) a w := by
  refine OpsTo.step (fun b k cs => ?_) h
  obtain ⟨es, hs⟩ := comm_any (b := b) (k := k) (cs := cs) (rest := rest) ho hw hr
  have := step_lone_sel_send_room (k := 0) hs rfl (fun m c' hm hc' => by
    rcases m with _ | m
    · exact absurd rfl hm
    · simp at hc') hc hroom
  rw [Frame.finish_at, ho] at this
  have e : commResult #[scase c v z] .select ((0 : Nat) : Int) undef false = .tuple #[goInt 0, .bool false] := by simp [commResult, scase, List.zipIdx_cons]
  rw [e] at this
  rw [lone_eq_solo, this]
  rfl

theorem OpsTo.selDefault {i : Nat} {rest : List Nat} {a : Act} {w w₁ : World} {o : Oper} {c cap s r : Nat} {buf : Array Value} {v z : Value} {tm : Bool}
    (ho : ops[i]? = some o) (hw : Region.wanted o (yielded ops a.tmps) = true)
    (hr : (execOp a.eval o).run P w = .ok (.comm #[scase c v z] false .select) w₁) (hc : w₁.heap[c]? = some (.chan cap buf false s r tm)) (hfull : cap ≤ buf.size)
    (h : OpsTo P ops Q rest (a.put o.dst (.tuple #[goInt (-1), .bool false])) w₁) : OpsTo P ops Q (i :: rest) a w := by
  refine OpsTo.step (fun b k cs => ?_) h
  obtain ⟨es, hs⟩ := comm_any (b := b) (k := k) (cs := cs) (rest := rest) ho hw hr
  have := step_lone_sel_default hs (fun cc hcc => by
    simp only [List.mem_toArray, List.mem_cons, List.not_mem_nil, or_false] at hcc
    subst hcc
    exact noWay_send hc hfull)
  rw [Frame.finish_at, ho] at this
  have e : commResult #[scase c v z] .select (-1) undef false = .tuple #[goInt (-1), .bool false] := by simp [commResult, scase, List.zipIdx_cons]
  rw [e] at this
  rw [lone_eq_solo, this]
  rfl
end

end Go.Proofs.Ybulkbnuc.chan
