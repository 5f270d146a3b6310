import Derived.Test.YbulkbnucChan
namespace Go.Proofs.Ybulkbnuc.bf
open Go.RowKit Go.Conc Go.Proofs.Ybulkbnuc.chan

theorem run_equalIn_chan {P : Program} {t e : TypeId} {dir : ChanDir} (d : Nat) (h : P.underlying t = some (.chan dir e)) (a b : Option Nat) (w : World) :
    (Op.equalIn (d + 1) t (.chan a) (.chan b)).run P w = .ok (a == b) w := by
  simp [Op.equalIn, run_underlying h]
theorem run_eql_chan {P : Program} {t e : TypeId} {dir : ChanDir} (h : P.underlying t = some (.chan dir e)) (a b : Option Nat) (w : World) :
    (binOp .eql t (.chan a) (.chan b)).run P w = .ok (.bool (a == b)) w := by
  simp only [binOp]
  simp [Op.equal, Op.maxDepth, run_equalIn_chan 9999 h a b w]
theorem run_neq_chan {P : Program} {t e : TypeId} {dir : ChanDir} (h : P.underlying t = some (.chan dir e)) (a b : Option Nat) (w : World) :
    (binOp .neq t (.chan a) (.chan b)).run P w = .ok (.bool (!(a == b))) w := by
  simp only [binOp]
  simp [Op.equal, Op.maxDepth, run_equalIn_chan 9999 h a b w]

set_option maxHeartbeats 400000 in
/-- signalIndexer, the channel having room: one signal more. -/
theorem sig_room (p : Nat) (c cap s r : Nat) (buf : Array Value) (w : World) (h : w.cell? ⟨p, 15, none⟩ = some (.chan (some c))) (hc : w.heap[c]? = some (.chan cap buf false s r false)) (hroom : buf.size < cap) :
    Calls Yba.prog 13 #[.pointer (some ⟨p, 0, none⟩)] w fun e w' => e = .returned (.tuple #[]) ∧ w' = w.setChan c cap (buf.push (.agg #[])) false (s + 1) r false := by
  have hne : (binOp .neq 32 (.chan (some c)) (.chan none)).run Yba.prog w = .ok (.bool true) w := run_neq_chan Yba.underlying32 _ _ _
  go_enter Yba.func13, Yba.ntmps13
  repeat (fail_if_success (with_reducible refine OpsTo.region (id := nat_lit 3) ?_)
          first | go_skip | go_guarded | go_step | go_upon)
  with_reducible refine OpsTo.region (id := nat_lit 3) ?_
  refine (show OpsTo _ _ _ [0, 1, 2] _ _ from ?_)
  refine OpsTo.selSend (blocking := false) (c := c) (cap := cap) (buf := buf) (s := s) (r := r) (tm := false) (v := .agg #[]) (z := .agg #[]) (w₁ := w) rfl rfl (by simp [go_sem, execOp, scase, Act.eval]) hc hroom ?_
  refine OpsTo.of_list (pre := [_]) (l := [_, _]) ?_
  go_wp2
  go_end0
  exact ⟨rfl, rfl⟩

set_option maxHeartbeats 400000 in
/-- signalIndexer, the channel being full: nothing. -/
theorem sig_full (p : Nat) (c cap s r : Nat) (buf : Array Value) (w : World) (h : w.cell? ⟨p, 15, none⟩ = some (.chan (some c))) (hc : w.heap[c]? = some (.chan cap buf false s r false)) (hfull : cap ≤ buf.size) :
    Calls Yba.prog 13 #[.pointer (some ⟨p, 0, none⟩)] w fun e w' => e = .returned (.tuple #[]) ∧ w' = w := by
  have hne : (binOp .neq 32 (.chan (some c)) (.chan none)).run Yba.prog w = .ok (.bool true) w := run_neq_chan Yba.underlying32 _ _ _
  go_enter Yba.func13, Yba.ntmps13
  repeat (fail_if_success (with_reducible refine OpsTo.region (id := nat_lit 3) ?_)
          first | go_skip | go_guarded | go_step | go_upon)
  with_reducible refine OpsTo.region (id := nat_lit 3) ?_
  refine (show OpsTo _ _ _ [0, 1, 2] _ _ from ?_)
  refine OpsTo.selDefault (c := c) (cap := cap) (buf := buf) (s := s) (r := r) (tm := false) (v := .agg #[]) (z := .agg #[]) (w₁ := w) rfl rfl (by simp [go_sem, execOp, scase, Act.eval]) hc hfull ?_
  refine OpsTo.of_list (pre := [_]) (l := [_, _]) ?_
  go_wp2
  go_end0
  exact ⟨rfl, rfl⟩

theorem bytes33 : ∃ i, Yba.prog.info? 33 = some i ∧ i.bytes = 0 := by
  have h : (Yba.prog.info? 33).map (·.bytes) = some 0 := by kernel_rfl
  obtain ⟨i, hi, hb⟩ := Option.map_eq_some_iff.1 h
  exact ⟨i, hi, hb⟩
theorem mk (n : Nat) (hn : n < 256) (w : World) : (Instr.makeChan 32 (.int .i64 n)).run Yba.prog w = .ok (.chan (some w.heap.size)) (w.alloc (.chan n #[] false 0 0 false)) := by
  obtain ⟨i, hi, hb⟩ := bytes33
  simpa using run_makeChan (P := Yba.prog) (w := w) Yba.underlying32 hi .i64 n (by omega) (by rw [hb]; omega)

theorem setChan_cell (w : World) (c cap : Nat) (buf : Array Value) (cl : Bool) (s r : Nat) (tm : Bool) (b o : Nat) (h : c ≠ b) : (w.setChan c cap buf cl s r tm).cell? ⟨b, o, none⟩ = w.cell? ⟨b, o, none⟩ :=
  World.cell?_of_block (w := w) (by simp [World.setChan, Array.getElem?_setIfInBounds_ne h])

set_option maxHeartbeats 1000000 in
set_option maxRecDepth 100000 in
theorem walk (c p0 n : Nat) (hc : c < 256) (hp : p0 < 256) (hn : n < 256) (w : World) :
    Calls Yba.prog 5 #[.int .u8 c, .int .u8 p0, .int .u8 n] w fun e w' => e = .returned (.bool true) ∧ Below w.heap.size w w' := by
  have hmk := fun w => mk c hc w
  have hmk0 : ∀ w, (Instr.makeChan 32 (.int .i64 0)).run Yba.prog w = .ok (.chan (some w.heap.size)) (w.alloc (.chan 0 #[] false 0 0 false)) := fun w => mk 0 (by omega) w
  have hpre : p0 % (c + 1) ≤ c := Nat.lt_succ_iff.1 (Nat.mod_lt _ (by omega))
  have hq : (p0 : Int) % ((c : Int) + 1) = ((p0 % (c + 1) : Nat) : Int) := by rw [Int.natCast_emod]; rfl
  generalize p0 % (c + 1) = q at hpre hq
  go_enter Yba.func5, Yba.ntmps5
  go_wp2
  simp only [hq]
  clear hq
  go_loopw [11] (fun i wr => ∃ k : Nat, k ≤ q ∧ i = .int .i64 k ∧ (∃ buf : Array Value, buf.size = k ∧ wr.heap[w.heap.size]? = some (.chan c buf false k 0 false)) ∧ Below w.heap.size w wr ∧ wr.heap.size = w.heap.size + 1) (fun i _ => q - (intOf i).toNat)
  case atStart => exact ⟨0, Nat.zero_le _, rfl, ⟨#[], rfl, heap_alloc_new _ _⟩, (Below.refl _ _).alloc (Nat.le_refl _) _, by simp⟩
  case round =>
    obtain ⟨k, hk, rfl, ⟨buf, hbk, hch⟩, hb, hsz⟩ := hrel
    by_cases hlt : k < q
    · repeat (fail_if_success (with_reducible refine OpsTo.region (id := nat_lit 8) ?_)
              first | go_skip | go_guarded | go_step | go_upon)
      with_reducible refine OpsTo.region (id := nat_lit 8) ?_
      refine (show OpsTo _ _ _ [0, 1, 2] _ _ from ?_)
      refine OpsTo.value (v := .chan (some w.heap.size)) (w' := wr) rfl rfl (by simp [go_sem, execOp, Act.eval]) ?_
      refine OpsTo.value (v := .agg #[]) (w' := wr) rfl rfl (by simp [go_sem, execOp, Act.eval]) ?_
      refine OpsTo.send (c := w.heap.size) (cap := c) (buf := buf) (s := k) (r := 0) (tm := false) (v := .agg #[]) (z := .tuple #[]) (w₁ := wr) rfl rfl (by simp [go_sem, execOp, scase, Act.eval, Act.put]) hch (by omega) ?_
      refine OpsTo.nil ?_
      dsimp only [Act.put, List.getElem_toArray, List.getElem_cons_succ, List.getElem_cons_zero, List.setIfInBounds_toArray, List.set_cons_succ, List.set_cons_zero]
      go_wp2
      go_roundw
      case rel =>
        exact ⟨k + 1, by omega, by go_num, ⟨buf.push (.agg #[]), by simp [hbk], heap_setChan _ _ _ _ _ _ _ _ (by omega)⟩, below_setChan hb (Nat.le_refl _) _ _ _ _ _ _, by rw [size_setChan]; exact hsz⟩
      case measure => simp [intOf]; omega
    · obtain rfl : k = q := by omega
      clear hmk hlt hk
      go_wp2_with fail
      clear hmk0
      go_loopw [15] (fun i w2 => ∃ j : Nat, j ≤ n ∧ i = .int .i64 j ∧ (∃ (buf : Array Value) (s : Nat), buf.size = min c (k + j) ∧ w2.heap[w.heap.size]? = some (.chan c buf false s 0 false)) ∧ w2.cell? ⟨w.heap.size + 1 + 1 + 1, 15, none⟩ = some (.chan (some w.heap.size)) ∧ w2.cell? ⟨w.heap.size + 1 + 1 + 1, 16, none⟩ = some (.chan (some (w.heap.size + 1))) ∧ w2.cell? ⟨w.heap.size + 1 + 1 + 1, 17, none⟩ = some (.chan (some (w.heap.size + 1 + 1))) ∧ Below w.heap.size w w2 ∧ w.heap.size < w2.heap.size) (fun i _ => n - (intOf i).toNat)
      case atStart =>
        refine ⟨0, Nat.zero_le _, rfl, ⟨buf, k, by omega, ?_⟩, ?_, ?_, ?_, ?_, ?_⟩
        · rw [Below.heap_alloc _ _ _ (by simp [hsz]; omega), Below.heap_alloc _ _ _ (by simp [hsz]; omega), Below.heap_alloc _ _ _ (by omega)]
          exact hch
        · simp [go_sem, hsz]
        · simp [go_sem, hsz]
        · simp [go_sem, hsz]
        · exact ((hb.alloc (by omega) _).alloc (by simp [hsz]; omega) _).alloc (by simp [hsz]; omega) _
        · simp [hsz]; omega
      case round =>
        clear hb hch hsz hbk
        obtain ⟨j, hj, rfl, ⟨buf2, s2, hb2, hch2⟩, hc15, hc16, hc17, hbw, hsz2⟩ := hrel
        by_cases hlt : j < n
        · by_cases hroom : buf2.size < c
          · go_wp2_with (go_at_call 13; refine (sig_room _ _ _ _ _ _ _ hc15 hch2 hroom).mono ?_; rintro e w3 ⟨rfl, rfl⟩)
            go_roundw
            case rel =>
              refine ⟨j + 1, by omega, by go_num, ⟨buf2.push (.agg #[]), s2 + 1, by rw [Array.size_push]; omega, heap_setChan _ _ _ _ _ _ _ _ hsz2⟩, ?_, ?_, ?_, below_setChan hbw (Nat.le_refl _) _ _ _ _ _ _, by rw [size_setChan]; exact hsz2⟩
              · rw [setChan_cell _ _ _ _ _ _ _ _ _ _ (by omega)]; exact hc15
              · rw [setChan_cell _ _ _ _ _ _ _ _ _ _ (by omega)]; exact hc16
              · rw [setChan_cell _ _ _ _ _ _ _ _ _ _ (by omega)]; exact hc17
            case measure => simp [intOf]; omega
          · go_wp2_with (go_at_call 13; refine (sig_full _ _ _ _ _ _ _ hc15 hch2 (by omega)).mono ?_; rintro e w3 ⟨rfl, rfl⟩)
            go_roundw
            case rel =>
              exact ⟨j + 1, by omega, by go_num, ⟨buf2, s2, by omega, hch2⟩, hc15, hc16, hc17, hbw, hsz2⟩
            case measure => simp [intOf]; omega
        · obtain rfl : j = n := by omega
          clear hlt hj
          have hlen := fun ty => run_len_chan (P := Yba.prog) 32 ty Yba.underlying32 hch2
          have heq := fun a w => run_eql_chan (P := Yba.prog) Yba.underlying32 (some a) (some a) w
          simp only [beq_self_eq_true] at heq
          by_cases hgt : c < k + j
          · have hbk : buf2.size = c := by omega
            clear hb2
            go_wp2
            go_ret
            exact ⟨rfl, hbw⟩
          · have hbk : buf2.size = k + j := by omega
            clear hb2
            go_wp2
            go_ret
            exact ⟨rfl, hbw⟩
end Go.Proofs.Ybulkbnuc.bf
