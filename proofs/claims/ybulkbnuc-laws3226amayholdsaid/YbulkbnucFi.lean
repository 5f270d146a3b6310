import Derived.Test.YbulkbnucRows
import Derived.WalkKit
import Derived.Laws.Bits64
/-
  filterIndexes by a contract: whatever the function value handed in, it is called seven times, each time with the next index.
-/
namespace Go.Proofs.Ybulkbnuc.fi
open Go.RowKit

/-- One byte taken into the hash. -/
def hstep (h z : Int) : Int := IntKind.u64.wrap (bits .xor .u64 h (IntKind.u64.wrap z) * 1099511628211)
def hash (zs : List Int) : Int := zs.foldl hstep 14695981039346656037
def lo (h : Int) : Int := bits .and .u64 h 4294967295
def st (h : Int) : Int := bits .or .u64 (h / 4294967296) 1
/-- The index of call j. -/
def idx (h m : Int) (j : Nat) : Int := (IntKind.u64.wrap (lo h + IntKind.u64.wrap (↑j * st h))).tmod m

theorem wrap_bd (n : Int) : 0 ≤ IntKind.u64.wrap n ∧ IntKind.u64.wrap n < 18446744073709551616 := by
  rw [IntKind.wrap_u64]; omega
theorem hstep_bd (h z : Int) : 0 ≤ hstep h z ∧ hstep h z < 18446744073709551616 := wrap_bd _
theorem foldl_bd (zs : List Int) : ∀ h : Int, 0 ≤ h → h < 18446744073709551616 → 0 ≤ zs.foldl hstep h ∧ zs.foldl hstep h < 18446744073709551616 := by
  induction zs with
  | nil => exact fun h a b => ⟨a, b⟩
  | cons z zs ih => exact fun h _ _ => ih _ (hstep_bd h z).1 (hstep_bd h z).2
theorem hash_bd (zs : List Int) : 0 ≤ hash zs ∧ hash zs < 18446744073709551616 := foldl_bd zs _ (by omega) (by omega)
theorem hash_take (zs : List Int) (k : Nat) (h : k < zs.length) : hash (zs.take (k + 1)) = hstep (hash (zs.take k)) (zs[k]?.getD 0) := by
  unfold hash
  rw [List.take_succ_eq_append_getElem h, List.foldl_append]
  simp [h]

/-- What is asked of a slice of bytes: its first 'len' cells hold zs. -/
def Row (w : World) (a : Option Addr) (len : Nat) (zs : List Int) : Prop :=
  zs.length = len ∧ ∀ i, i < len → ∃ x, a = some x ∧ w.cell? (x.add i) = some (.int .u8 (zs[i]?.getD 0))

theorem ret_u64 {a b : Int} (h : a = b) : Value.int .u64 a = Value.int .u64 b := by rw [h]

set_option maxHeartbeats 400000 in
set_option maxRecDepth 100000 in
theorem fi_any (F : Nat) (cap : Array Value) (a : Option Addr) (len c : Nat) (zs : List Int) (m : Int) (hm : 0 < m) (w : World) (hlen : len ≤ 4096) (hrow : Row w a len zs)
    (I : Nat → World → Prop) (hI : I 0 w)
    (hcf : ∀ (v : Int) (w' : World), (callFunc F (#[.int .u64 v] ++ cap)).run Yba.prog w' = .ok (.enter F (#[.int .u64 v] ++ cap)) w')
    (hset : ∀ (j : Nat) (w' : World), j < 7 → I j w' → Calls Yba.prog F (#[.int .u64 (idx (hash zs) m j)] ++ cap) w' fun e w'' => e = .returned (.tuple #[]) ∧ I (j + 1) w'') :
    Calls Yba.prog 9 #[.slice a len c, .int .u64 m, .func (.func F) #[] cap] w fun e w' => e = .returned (.tuple #[]) ∧ I 7 w' := by
  obtain ⟨hz, hcell⟩ := hrow
  have HZ : Hid (zs.length = len) := hz
  have HC : Hid (∀ i, i < len → ∃ x, a = some x ∧ w.cell? (x.add i) = some (.int .u8 (zs[i]?.getD 0))) := hcell
  have HS : Hid (∀ (j : Nat) (w' : World), j < 7 → I j w' → Calls Yba.prog F (#[.int .u64 (idx (hash zs) m j)] ++ cap) w' fun e w'' => e = .returned (.tuple #[]) ∧ I (j + 1) w'') := hset
  clear hz hcell hset
  go_enter Yba.func9, Yba.ntmps9
  go_wp2
  go_loop [14, 6] (fun i h => ∃ k : Nat, k ≤ len ∧ i = .int .i64 k ∧ h = .int .u64 (hash (zs.take k))) (fun i _ => len - (intOf i).toNat)
  case atStart => exact ⟨0, by omega, rfl, rfl⟩
  case round =>
    obtain ⟨k, hk, rfl, rfl⟩ := hrel
    by_cases hlt : k < len
    · obtain ⟨x, rfl, hck⟩ := HC.out k hlt
      have ht : Hid (hash (zs.take (k + 1)) = hstep (hash (zs.take k)) (zs[k]?.getD 0)) := hash_take zs k (by rw [HZ.out]; exact hlt)
      generalize hash (zs.take k) = h at ht
      go_wp2
      go_round
      case rel => exact ⟨k + 1, by omega, by go_num, by rw [ht.out]; rfl⟩
      case measure => simp [intOf]; omega
    · obtain rfl : k = len := by omega
      rw [List.take_of_length_le (by rw [HZ.out]; exact Nat.le_refl _)]
      obtain ⟨hb1, hb2⟩ := hash_bd zs
      have Hi : Hid (∀ j : Nat, idx (hash zs) m j = (IntKind.u64.wrap (lo (hash zs) + IntKind.u64.wrap (↑j * st (hash zs)))).tmod m) := fun _ => rfl
      have Hlo : Hid (bits .and .u64 (hash zs) 4294967295 = lo (hash zs)) := rfl
      have Hst : Hid (bits .or .u64 (hash zs / 4294967296) 1 = st (hash zs)) := rfl
      generalize idx (hash zs) m = ix at HS Hi
      generalize hash zs = h at *
      generalize lo h = l at Hi Hlo
      generalize st h = s at Hi Hst
      have e1 := Hlo.out
      have e2 := Hst.out
      clear Hlo Hst HC HZ
      go_wp2
      clear e1 e2
      go_loopw [29] (fun i wr => ∃ j : Nat, j ≤ 7 ∧ i = .int .u64 j ∧ I j wr) (fun i _ => 7 - (intOf i).toNat)
      case atStart => exact ⟨0, by omega, rfl, hI⟩
      case round =>
        clear hI
        obtain ⟨j, hj, rfl, hIj⟩ := hrel
        by_cases hlt : j < 7
        · have hs := HS.out j wr hlt hIj
          rw [Hi.out j] at hs
          have HS1 : Hid _ := hs
          clear hs
          go_wp2_with fail
          refine Calls.mono (Hid.out HS1) ?_
          rintro e w1 ⟨rfl, hI1⟩
          clear HS1 HS hIj
          go_wp2
          go_roundw
          case rel => exact ⟨j + 1, by omega, by go_num, hI1⟩
          case measure => simp [intOf]; omega
        · obtain rfl : j = 7 := by omega
          go_wp2
          go_end0
          exact ⟨rfl, hIj⟩
end Go.Proofs.Ybulkbnuc.fi
