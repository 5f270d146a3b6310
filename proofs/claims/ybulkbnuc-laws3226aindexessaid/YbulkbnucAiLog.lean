import Derived.Test.YbulkbnucFi
import Derived.BigQuiet
namespace Go.Proofs.Ybulkbnuc.ai
open Go.RowKit Go.Proofs.Ybulkbnuc.fi

theorem info23 : (Yba.prog.info? 23).map (fun i => (i.zero, i.size, i.bytes)) = some (some (.int .u64 0), 1, 8) := by kernel_rfl

/-- The log: block B holds the slice; the slice owns the numbers xs. -/
def Log (B : Nat) (w0 : World) (xs : List Int) (w : World) : Prop :=
  ∃ sv, w.heap[B]? = some (.cells #[sv] 24 (0, 0)) ∧ w.ownsRow (B + 1) 23 1 sv xs.length (xs.map (Value.int .u64)) ∧ Below B w0 w

theorem log_step {B : Nat} {w0 w w1 : World} {xs : List Int} {sv sv' : Value} {v : Int} {o : Obj} (hb : w.heap[B]? = some (.cells #[sv] 24 (0, 0))) (hown : w.ownsRow (B + 1) 23 1 sv xs.length (xs.map (Value.int .u64))) (hbl : Below B w0 w)
    (hown' : w1.ownsRow (B + 1) 23 1 sv' (xs.length + 1) (xs.map (Value.int .u64) ++ [.int .u64 v])) (hg : (w.alloc o).grownBy w1 sv.ownBlock) :
    w1.heap[B]? = some (.cells #[sv] 24 (0, 0)) ∧ Log B w0 (xs ++ [v]) (w1.setCell ⟨B, 0, none⟩ sv') := by
  have hlt := lt_of_block hb
  have hne : ∀ k, sv.ownBlock = some k → B + 1 ≤ k := by
    intro k hk
    obtain ⟨_, h2⟩ := hown
    rcases h2 with ⟨rfl, _⟩ | ⟨g, cap, cur, rfl, hg, _⟩
    · simp [Value.ownBlock] at hk
    · simp [Value.ownBlock] at hk; omega
  have h1 : w1.heap[B]? = some (.cells #[sv] 24 (0, 0)) := by
    rw [hg.block B (by simp; omega) (fun e => by have := hne B e.symm; omega), Below.heap_alloc _ _ _ hlt]
    exact hb
  refine ⟨h1, sv', one_setCell h1, ?_, ?_⟩
  · have := ownsRow_setCell_below hown' (a := ⟨B, 0, none⟩) (by simp) sv'
    simpa using this
  · refine Below.setCell (p := ⟨B, 0, none⟩) ?_ (by exact Nat.le_refl B) _
    exact ((hbl.alloc (by omega) o).grown hg (by simp; omega) (fun k hk => by have := hne k hk; omega))

theorem own_shape {w : World} {base e n : Nat} {v : Value} {xs : List Value} (h : w.ownsRow base e 1 v n xs) (hn : 0 < n) : ∃ g cap, v = .slice (some ⟨g, 0, none⟩) n cap := by
  obtain ⟨_, h2⟩ := h
  rcases h2 with ⟨_, h0⟩ | ⟨g, cap, _, rfl, _⟩
  · omega
  · exact ⟨g, cap, rfl⟩

set_option maxHeartbeats 400000 in
theorem closure (B : Nat) (w0 : World) (xs : List Int) (v : Int) (w : World) (hx : xs.length < 100) (h : Log B w0 xs w) :
    Calls Yba.prog 10 #[.int .u64 v, .pointer (some ⟨B, 0, none⟩)] w fun e w' => e = .returned (.tuple #[]) ∧ Log B w0 (xs ++ [v]) w' := by
  obtain ⟨sv, hb, hown, hbl⟩ := h
  obtain ⟨i0, hi, hz0, hz1, hz2⟩ := info_parts info23
  have hc := cell_of_one hb
  have hlt := lt_of_block hb
  go_enter Yba.func10, Yba.ntmps10
  go_wp2_with (at_builtin; refine wpList_append_own _ rfl _ _ 24 rfl (B + 1) 23 i0 (.int .u64 0) 1 8 Yba.underlying24 hi hz0 hz1 hz2 rfl (by decide) _ _ _ rfl (hown.alloc _) ⟨w.heap.size, 0, none⟩ 1 1 [.int .u64 v] rfl rfl ?c1 ?c2 ?c3 ?c4 ?c5 ?_)
  case c1 =>
    intro j u hj
    match j, hj with
    | 0, hj => simp at hj; subst hj; simp [Addr.add]
  case c2 => intro u hu; simp at hu; subst hu; rfl
  case c3 => unfold maxLen; omega
  case c4 => omega
  case c5 => simp; omega
  · intro v' w1 hown' hgrow hiff
    obtain ⟨g, cap, rfl⟩ := own_shape hown' (by omega)
    have R := log_step hb hown hbl hown' hgrow
    have hc1 := cell_of_one R.1
    have hf1 := free_of_one R.1
    have R2 : Hid (Log B w0 (xs ++ [v]) (w1.setCell ⟨B, 0, none⟩ (.slice (some ⟨g, 0, none⟩) (xs.length + 1) cap))) := R.2
    clear hown' hgrow hown hbl hb hc R hiff hi hz0 hz1 hz2
    go_wp2
    go_end0
    exact ⟨rfl, R2.out⟩
end Go.Proofs.Ybulkbnuc.ai
