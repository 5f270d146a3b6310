import Derived.Test.YbulkbnucRows
import Derived.WalkKit
import Derived.ArgAppend
/-
  A slice of bytes that the call made: one append of one byte, told with what it leaves alone.
-/
namespace Go.Proofs.Ybulkbnuc.sl
open Go.RowKit

theorem info5 : (Yba.prog.info? 5).map (fun i => (i.zero, i.size, i.bytes)) = some (some (.int .u8 0), 1, 1) := by kernel_rfl

/-- The slice at the head of block g, of capacity cap, holds bs. -/
def Sl (w : World) (g cap : Nat) (bs : List Int) : Prop := w.ownsRow 0 5 1 (.slice (some ⟨g, 0, none⟩) bs.length cap) bs.length (bs.map (Value.int .u8))

theorem Sl.block {w : World} {g cap : Nat} {bs : List Int} (h : Sl w g cap bs) : ∃ cur, w.heap[g]? = some (.cells cur 5 (0, 0)) ∧ bs.length ≤ cap ∧ cap ≤ maxLen ∧ cur.size = cap ∧ cur.toList.take bs.length = bs.map (Value.int .u8) := by
  obtain ⟨_, h2⟩ := h
  rcases h2 with ⟨h', _⟩ | ⟨g', cap', cur, h', _, hh, h1, h2, hs, ht⟩
  · simp at h'
  · simp only [Value.slice.injEq, Option.some.injEq, Addr.mk.injEq, and_true, true_and] at h'
    obtain ⟨rfl, rfl⟩ := h'
    exact ⟨cur, hh, h1, h2, by simpa using hs, by simpa using ht⟩
theorem Sl.lt {w : World} {g cap : Nat} {bs : List Int} (h : Sl w g cap bs) : g < w.heap.size := let ⟨_, hh, _⟩ := h.block; lt_of_block hh
theorem Sl.le {w : World} {g cap : Nat} {bs : List Int} (h : Sl w g cap bs) : bs.length ≤ cap := let ⟨_, _, h1, _⟩ := h.block; h1
theorem Sl.cell {w : World} {g cap : Nat} {bs : List Int} (h : Sl w g cap bs) (j : Nat) (hj : j < bs.length) : w.cell? ⟨g, j, none⟩ = some (.int .u8 (bs[j]?.getD 0)) := by
  have e : w.cell? ⟨g, j, none⟩ = (bs.map (Value.int .u8))[j]? := World.ownsRow.cellAt h j (by omega)
  rw [e]
  simp [hj]
theorem Sl.of_block {w w' : World} {g cap : Nat} {bs : List Int} (h : Sl w g cap bs) (e : w'.heap[g]? = w.heap[g]?) : Sl w' g cap bs := by
  refine ⟨h.1, ?_⟩
  rcases h.2 with h2 | ⟨g', cap', cur, h', h0, hh, r⟩
  · exact .inl h2
  · simp only [Value.slice.injEq, Option.some.injEq, Addr.mk.injEq, and_true, true_and] at h'
    obtain ⟨rfl, rfl⟩ := h'
    exact .inr ⟨g, cap, cur, rfl, h0, by rw [e]; exact hh, r⟩
theorem Sl.base {w : World} {b g cap : Nat} {bs : List Int} (h : w.ownsRow b 5 1 (.slice (some ⟨g, 0, none⟩) bs.length cap) bs.length (bs.map (Value.int .u8))) : Sl w g cap bs := by
  refine ⟨h.1, ?_⟩
  rcases h.2 with h2 | ⟨g', cap', cur, h', h0, r⟩
  · exact .inl h2
  · exact .inr ⟨g', cap', cur, h', Nat.zero_le _, r⟩

/-- From w to w' nothing turned but block g from cell n on; the slice lies at g still, or in a new block. -/
structure Kp (w : World) (g n : Nat) (w' : World) (g' : Nat) : Prop where
  os : w'.os = w.os
  tape : w'.tape = w.tape
  output : w'.output = w.output
  size : w.heap.size ≤ w'.heap.size
  other : ∀ k, k < w.heap.size → k ≠ g → w'.heap[k]? = w.heap[k]?
  cells : ∀ j, j < n → w'.cell? ⟨g, j, none⟩ = w.cell? ⟨g, j, none⟩
  moved : g' = g ∨ w.heap.size ≤ g'

theorem Kp.refl (w : World) (g n : Nat) : Kp w g n w g := ⟨rfl, rfl, rfl, Nat.le_refl _, fun _ _ _ => rfl, fun _ _ => rfl, .inl rfl⟩
theorem Kp.trans {w w1 w2 : World} {g g1 g2 n n1 : Nat} (h : Kp w g n w1 g1) (h' : Kp w1 g1 n1 w2 g2) (hn : n ≤ n1) (hg : g < w.heap.size) : Kp w g n w2 g2 := by
  have hs := h.size
  refine ⟨h'.os.trans h.os, h'.tape.trans h.tape, h'.output.trans h.output, Nat.le_trans h.size h'.size, fun k hk hne => ?_, fun j hj => ?_, ?_⟩
  · rw [h'.other k (by omega) (by rcases h.moved with e | e <;> omega), h.other k hk hne]
  · rw [← h.cells j hj]
    by_cases e : g1 = g
    · subst e
      exact h'.cells j (by omega)
    · exact World.cell?_of_block (w := w1) (h'.other g (by omega) (fun e' => e e'.symm))
  · rcases h'.moved with e | e
    · rw [e]; exact h.moved
    · exact .inr (Nat.le_trans hs e)
theorem Kp.alloc (w : World) (g n : Nat) (o : Obj) (hg : g < w.heap.size) : Kp w g n (w.alloc o) g :=
  ⟨rfl, rfl, rfl, by simp, fun k hk _ => Below.heap_alloc _ _ _ hk, fun j _ => World.cell?_of_block (w := w) (Below.heap_alloc _ _ _ hg), .inl rfl⟩
theorem Kp.below {w w' : World} {g n g' B : Nat} (h : Kp w g n w' g') (hB : B ≤ g) (hs : B ≤ w.heap.size) : Below B w w' :=
  ⟨h.os, h.tape, h.output, h.size, fun k hk => h.other k (by omega) (by omega)⟩

theorem wpList_app1 (w : World) {ops : Array Oper} {rest : List Oper} {o : Oper} {a : Act} {Q : Exit → Act → World → Prop}
    (hgd : o.guard = none) (s x : Operand) (hop : o.op = Op.call { callee := Callee.builtin Builtin.append, args := #[s, x], argTypes := #[22, 22] })
    (g cap : Nat) (bs : List Int) (hs : a.eval s = .slice (some ⟨g, 0, none⟩) bs.length cap) (hsl : Sl w g cap bs) (b : Int) (X c : Nat) (hx : a.eval x = .slice (some ⟨X, 0, none⟩) 1 c) (hc : w.cell? ⟨X, 0, none⟩ = some (.int .u8 b)) (hlen : bs.length ≤ 1000000)
    (hK : ∀ g' cap' w', Sl w' g' cap' (bs ++ [b]) → Kp w g bs.length w' g' → wpList Yba.prog ops Q rest (a.put o.dst (.slice (some ⟨g', 0, none⟩) (bs.length + 1) cap')) w') :
    wpList Yba.prog ops Q (o :: rest) a w := by
  obtain ⟨i0, hi, hz0, hz1, hz2⟩ := info_parts info5
  have hl : g < w.heap.size := hsl.lt
  have hnews : ∀ (j : Nat) (u : Value), [Value.int .u8 b][j]? = some u → w.cell? (Addr.add ⟨X, 0, none⟩ j) = some u := by
    intro j u hj
    match j, hj with
    | 0, hj => simp at hj; subst hj; simpa [Addr.add] using hc
  have h1c : ∀ u ∈ [Value.int .u8 b], u.oneCell' = true := by intro u hu; simp at hu; subst hu; rfl
  by_cases hroom : bs.length + 1 ≤ cap
  · refine wpList_append_fits w hgd s x 22 hop 0 5 i0 1 Yba.underlying22 hi hz1 g bs.length cap _ hs hsl ⟨X, 0, none⟩ 1 c [.int .u8 b] hx rfl hnews h1c hroom ?_
    intro w' hown hg
    have hsl' : Sl w' g cap (bs ++ [b]) := by
      have : w'.ownsRow 0 5 1 (.slice (some ⟨g, 0, none⟩) (bs ++ [b]).length cap) (bs ++ [b]).length ((bs ++ [b]).map (Value.int .u8)) := by simpa using hown
      exact this
    refine hK g cap w' hsl' ⟨hg.os, hg.tape, hg.output, hg.size, fun k hk hne => hg.block k hk (fun e => hne (Option.some.inj e)), fun j hj => ?_, .inl rfl⟩
    rw [hsl.cell j hj, hsl'.cell j (by simp; omega), List.getElem?_append_left hj]
  · refine wpList_append_grows w hgd s x 22 hop 5 i0 (.int .u8 0) 1 1 Yba.underlying22 hi hz0 hz1 hz2 rfl (by decide) (some ⟨g, 0, none⟩) bs.length cap (bs.map (Value.int .u8)) hs (fun h => by cases h) (by simp) ?_ ⟨X, 0, none⟩ 1 c [.int .u8 b] hx rfl hnews h1c (by omega) (by unfold maxLen; omega) (by omega) ?_
    · intro b' hb' j u hj
      cases hb'
      have hj' : j < bs.length := by
        have := (List.getElem?_eq_some_iff.1 hj).1
        simpa using this
      have hcc := hsl.cell j hj'
      have e : Addr.add ⟨g, 0, none⟩ j = ⟨g, j, none⟩ := by rw [Addr.add_lit, Nat.zero_add]
      rw [e, hcc, ← hj]
      simp [hj']
    · intro v' w' hown hg
      rcases hown.2 with ⟨_, h0⟩ | ⟨g', cap', cur, rfl, hbase, r⟩
      · omega
      · have hsl' : Sl w' g' cap' (bs ++ [b]) := by
          have : w'.ownsRow w.heap.size 5 1 (.slice (some ⟨g', 0, none⟩) (bs ++ [b]).length cap') (bs ++ [b]).length ((bs ++ [b]).map (Value.int .u8)) := by simpa using hown
          exact Sl.base this
        exact hK g' cap' w' hsl' ⟨hg.os, hg.tape, hg.output, hg.size, fun k hk _ => hg.block k hk (by simp), fun j _ => World.cell?_of_block (w := w) (hg.block g hl (by simp)), .inr hbase⟩
end Go.Proofs.Ybulkbnuc.sl
