/-
  'Rows.LawS3226AMayHoldSaid': for every slice of slices of bytes and every byte n the law returns true, and the arguments read as they did.
-/
import Derived.Test.YbulkbnucMhWalk
import Derived.WalkKit
import Derived.ProofKit
import Derived.OpenShut
import Derived.ShutString
import Derived.ChangeOld
import Derived.Below
import Derived.Deep.Matrix
namespace Go.Proofs.Ybulkbnuc.lawS3226AMayHold
open Go.ChangeShapes Go.WideShapes Go.ChangeAt Go.RowKit
set_option linter.unusedVariables false

theorem own : ownKnob Yba.prog.godebug = none := by kernel_rfl
theorem laidOut : laidOutB Yba.prog = true := by kernel_rfl

theorem byte_of {a : Int} (h : (Lit.int .u8 a).wf = true) : ∃ n : Nat, n < 256 ∧ a = n := by
  simp [Lit.wf, IntKind.min, IntKind.max, IntKind.signed, IntKind.bits] at h
  exact ⟨a.toNat, by omega, by omega⟩

set_option maxHeartbeats 400000 in
theorem long (ka : Option Addr) (kl kc : Nat) (a1 : Int) (w : World) (h : 256 < kl) :
    Calls Yba.prog 4 #[.slice ka kl kc, .int .u8 a1] w fun e w' => e = .returned (.bool true) ∧ Below w.heap.size w w' := by
  go_enter Yba.func4, Yba.ntmps4
  go_wp2
  go_ret
  exact ⟨rfl, Below.refl _ _⟩

theorem walk (ka : Option Addr) (kl kc : Nat) (A : Nat → Option Addr) (L C : Nat → Nat) (Z : Nat → List Int) (a1 : Int) (w : World) (w0 : mh.Keys w ka kl A L C Z) (hL : ∀ r, L r ≤ maxLen) (w1 : (Lit.int .u8 a1).wf = true) :
    Calls Yba.prog 4 #[.slice ka kl kc, .int .u8 a1] w fun e w' => e = .returned (.bool true) ∧ Below w.heap.size w w' := by
  obtain ⟨n, hn, rfl⟩ := byte_of w1
  by_cases h : kl ≤ 256
  · exact mh.law ka kl kc A L C Z n (n + 1) hn (by omega) w h hL w0
  · exact long ka kl kc n w (by omega)

/-! ### the row's step -/
set_option maxRecDepth 100000 in
theorem lifted (os : Os) (started : os.Started) (H : Type) (enc : TypeId × Value → H) :
    ReturnsInHanded {} Yba.checked os 4 .any (Rows.lawS3226AMayHoldSpec.pre6 enc Yba.prog Yba.f4 Rows.lawS3226AMayHoldRow.domain false) (Rows.lawS3226AMayHoldSpec.post enc Yba.prog Yba.f4 false true false false) := by
  refine returnsInHanded_of_change (C := Yba.checked) own started (by kernel_rfl) Yba.func4
    (ChangeSpec.witness6 (enc := enc) (C := Yba.checked) false ⟨#[], #[.slice none 0 0, .int .u8 0], []⟩ 8 (by kernel_rfl) (by kernel_rfl) (by kernel_rfl) (by kernel_rfl)) ?_
  intro W base args ds gs before hval0 hW hcnd _
  have hval : ∀ (j : Nat) t v, Yba.f4.params[j]? = some t → args[j]? = some v → Value.okWide Yba.prog W .any base t v := hval0
  have hW' := hW
  obtain ⟨p, q, hA0, hV, rfl, hfz, hnd⟩ := hW
  have hA : DataW.TrodAll enc Yba.prog W 0 (fun _ => true) true Yba.f4.params.toList args.toList ds p := hA0
  rw [Yba.params4] at hA hval
  obtain ⟨v0, vs0, d0, ds0, p0, q0, hargs, rfl, rfl, h0, r0⟩ := trodAll_cons hA
  obtain ⟨v1, vs1, d1, ds1, p1, q1, rfl, rfl, rfl, h1, r1⟩ := trodAll_cons r0
  obtain ⟨rfl, rfl, rfl⟩ := trodAll_nil r1
  obtain rfl : args = #[v0, v1] := by cases args; simp_all
  obtain ⟨rfl, rfl⟩ := trodVars_none hV
  obtain ⟨ka, kl, kc, rfl⟩ := okWide_slice Yba.underlying29 (hval 0 29 v0 rfl rfl)
  have k0 := h0
  have lt0 : ∀ x ∈ p0, x.block < W.heap.size := by obtain ⟨m, hm⟩ := k0; exact DataW.trod_lt m _ _ _ hm
  obtain ⟨A, L, C, Z, w0, hL⟩ : ∃ (A : Nat → Option Addr) (L C : Nat → Nat) (Z : Nat → List Int), mh.Keys W ka kl A L C Z ∧ ∀ r, L r ≤ maxLen := by
    obtain ⟨fuel, hf⟩ := h0
    rcases Go.Deep.open_int_rows Yba.underlying29 Yba.underlying22 Yba.underlying5 (by kernel_rfl) (by kernel_rfl) hf with ⟨hcs, _⟩ | ⟨a, len, cap, A, L, C, Z, hcs, _, hl, hm, _, hr⟩
    · simp [Value.cells] at hcs
      obtain ⟨rfl, rfl, rfl⟩ := hcs
      exact ⟨fun _ => none, fun _ => 0, fun _ => 0, fun _ => [], fun r h => by omega, fun r => Nat.zero_le _⟩
    · simp [Value.cells] at hcs
      obtain ⟨rfl, rfl, rfl⟩ := hcs
      refine ⟨A, fun r => if r < kl then L r else 0, C, fun r => (Z r).take (L r), fun r hlt => ?_, fun r => ?_⟩
      · obtain ⟨c1, c2, _, c4, _, c6, c7⟩ := hr r (by omega)
        refine ⟨⟨a, rfl, by simp only [hlt, if_true]; exact c1⟩, ?_, fun i hi => ?_⟩
        · simp only [hlt, if_true]
          rw [List.length_take, c4]
          omega
        · simp only [hlt, if_true] at hi
          cases hA : A r with
          | none => have := c6 hA; omega
          | some x =>
            refine ⟨x, rfl, ?_⟩
            rw [(c7 x hA).2 i (by omega), List.getD_eq_getElem?_getD, List.getElem?_take, if_pos hi]
      · by_cases hlt : r < kl
        · obtain ⟨_, c2, c3, _⟩ := hr r (by omega)
          simp only [hlt, if_true]
          omega
        · simp only [hlt, if_false]
          exact Nat.zero_le _
  obtain ⟨a1, rfl, rfl, rfl, w1⟩ := open_int Yba.underlying5 (hval 1 5 v1 rfl rfl) h1
  clear hA0 hval0
  refine (walk ka kl kc A L C Z a1 W w0 hL w1).mono fun e W' ⟨he, bel⟩ => ?_
  subst he
  exact ⟨_, rfl, _, _, _, [], _, [], hW', trodAll_mk1 (shut_bool Yba.underlying4 _), (trodAll_cons_mk (Below.trod laidOut (by kernel_rfl) (of_decide_eq_true (by kernel_rfl)) k0 bel lt0) (trodAll_cons_mk (shut_int Yba.underlying5 w1) trodAll_mk0)), rfl, bel.frame _, fun h => by cases h⟩

theorem over : Rows.lawS3226AMayHoldRow.holds Yba.pinned (OpenSpec.ofChange Rows.lawS3226AMayHoldSpec) :=
  OpenClaim.holds_of_wide 4 Yba.f4 rfl rfl rfl rfl rfl rfl rfl ⟨rfl, rfl, rfl, rfl, rfl⟩ rfl rfl rfl rfl rfl (by kernel_rfl) Yba.func4 (by kernel_rfl)
    (of_decide_eq_true (by kernel_rfl)) (by unfold Func.isWrapper; first | (rw [if_pos (by decide +kernel)]; kernel_rfl) | (rw [if_neg (by decide +kernel)]; exact ⟨rfl, rfl⟩))
    (fun os started H enc _ => lifted os started H enc)

/-- THE STATEMENT -/
theorem proved : Rows.LawS3226AMayHoldSaid := over
end Go.Proofs.Ybulkbnuc.lawS3226AMayHold
