import Derived.Test.YbulkbnucUv
import Derived.Laws.Bits64b
import Derived.Laws.BitsAllLaws
/-
  Decoding a uvarint undoes encoding it: the arithmetic. No walk here.
-/
namespace Go.Proofs.Ybulkbnuc.dv
open Go.RowKit Go.Proofs.Ybulkbnuc.uv

theorem wrap_id {n : Int} (h0 : 0 ≤ n) (h1 : n < 18446744073709551616) : IntKind.u64.wrap n = n := by
  rw [IntKind.wrap_u64]; omega

/-- 'x | b << s' where x lies below 2^s and nothing is shifted out: the sum. -/
theorem or_shift {y b P : Int} (k : Nat) (hP : P = 2 ^ (7 * k)) (hk : k ≤ 9) (hy0 : 0 ≤ y) (hy1 : y < P) (hb0 : 0 ≤ b) (hs : y + b * P < 18446744073709551616) :
    bits .or .u64 y (IntKind.u64.wrap (b * P)) = y + b * P := by
  obtain ⟨a, rfl⟩ := Int.eq_ofNat_of_zero_le hy0
  obtain ⟨c, rfl⟩ := Int.eq_ofNat_of_zero_le hb0
  have hPn : P = ((2 ^ (7 * k) : Nat) : Int) := by rw [hP]; simp
  subst hPn
  clear hP
  have hk2 : 2 ^ (7 * k) ≤ 2 ^ 63 := Nat.pow_le_pow_right (by omega) (by omega)
  have e : (c : Int) * ((2 ^ (7 * k) : Nat) : Int) = ((2 ^ (7 * k) * c : Nat) : Int) := by rw [Int.natCast_mul, Int.mul_comm]
  rw [e] at hs ⊢
  rw [wrap_id (by omega) (by omega), bits_or_u64_nat a _ (by omega) (by omega), Nat.or_comm, ← Nat.two_pow_add_eq_or_of_lt (by omega : a < 2 ^ (7 * k))]
  omega

theorem eb_nat (r : Nat) (h : r < 256) : bits .or .u8 (r : Int) 128 = ((r ||| 128 : Nat) : Int) := u8_or_nat r 128 h (by omega)
theorem or128 : ∀ r : Fin 256, (r.val ||| 128) < 256 ∧ 128 ≤ (r.val ||| 128) ∧ (r.val ||| 128) &&& 127 = r.val % 128 := by decide +kernel

theorem eb_spec (v : Int) : 128 ≤ eb v ∧ eb v < 256 ∧ bits .and .u8 (eb v) 127 = v % 128 := by
  obtain ⟨r, hr⟩ := Int.eq_ofNat_of_zero_le (show 0 ≤ v % 256 by omega)
  have hr2 : r < 256 := by omega
  have e : eb v = ((r ||| 128 : Nat) : Int) := by
    unfold eb
    rw [hr]
    exact eb_nat r hr2
  obtain ⟨h1, h2, h3⟩ := or128 ⟨r, hr2⟩
  simp only at h1 h2 h3
  have e2 : bits .and .u8 (((r ||| 128 : Nat)) : Int) 127 = ((((r ||| 128) &&& 127 : Nat)) : Int) := u8_and_nat _ 127 h1 (by omega)
  rw [e, e2, h3]
  refine ⟨by omega, by omega, by omega⟩

/-- Where the loop of the decoder stands: k bytes are read, y gathered, v' is still to come. -/
def Dinv (v : Int) (k f : Nat) (pre : List Int) (v' y : Int) : Prop :=
  f + k = 10 ∧ 1 ≤ f ∧ 0 ≤ v' ∧ v' < 128 ^ f ∧ 0 ≤ y ∧ y < 2 ^ (7 * k) ∧ y + v' * 2 ^ (7 * k) = v ∧ pre.length = k ∧ uv v = pre ++ uvF f v'

theorem dinv_start (v : Int) (h0 : 0 ≤ v) (h1 : v < 18446744073709551616) : Dinv v 0 10 [] v 0 :=
  ⟨by omega, by omega, h0, by omega, by omega, by simp, by simp, rfl, rfl⟩

theorem pow_pos7 (k : Nat) : (0 : Int) < 2 ^ (7 * k) := Int.pow_pos (by omega)
theorem pow_succ7 (k : Nat) : (2 : Int) ^ (7 * (k + 1)) = 128 * 2 ^ (7 * k) := by
  rw [show 7 * (k + 1) = 7 + 7 * k by omega, Int.pow_add]
  rfl

theorem dinv_le {v : Int} {k f : Nat} {pre : List Int} {v' y : Int} (h : Dinv v k f pre v' y) (hv : v < 18446744073709551616) : y < 18446744073709551616 ∧ k ≤ 9 := by
  obtain ⟨h1, h2, h3, h4, h5, h6, h7, h8, h9⟩ := h
  have : 0 ≤ v' * 2 ^ (7 * k) := Int.mul_nonneg h3 (Int.le_of_lt (pow_pos7 k))
  exact ⟨by omega, by omega⟩

/-- The byte that stands next, a last one. -/
theorem dinv_last {v : Int} {k f : Nat} {pre : List Int} {v' y : Int} (h : Dinv v k f pre v' y) (hv : v < 18446744073709551616) (hl : v' < 128) :
    (uv v).length = k + 1 ∧ (uv v)[k]?.getD 0 = v' ∧ (∀ P : Int, P = 2 ^ (7 * k) → bits .or .u64 y (IntKind.u64.wrap (v' * P)) = v) ∧ (k = 9 → v' ≤ 1) := by
  have hk := (dinv_le h hv).2
  obtain ⟨h1, h2, h3, h4, h5, h6, h7, h8, h9⟩ := h
  rw [uvF_last f v' hl] at h9
  refine ⟨by rw [h9]; simp [h8], by rw [h9]; simp [h8], fun P hP => ?_, fun hk9 => ?_⟩
  · rw [or_shift k hP hk h5 (by rw [hP]; exact h6) h3 (by rw [hP]; omega), hP]
    exact h7
  · subst hk9
    have e : (2 : Int) ^ (7 * 9) = 9223372036854775808 := by decide
    rw [e] at h7
    omega

/-- The byte that stands next, not a last one. -/
theorem dinv_more {v : Int} {k f : Nat} {pre : List Int} {v' y : Int} (h : Dinv v k f pre v' y) (hv : v < 18446744073709551616) (hl : ¬ v' < 128) :
    k + 1 < (uv v).length ∧ k + 1 < 10 ∧ (uv v)[k]?.getD 0 = eb v' ∧ ∃ f', Dinv v (k + 1) f' (pre ++ [eb v']) (v' / 128) (bits .or .u64 y (IntKind.u64.wrap (v' % 128 * 2 ^ (7 * k)))) := by
  have hk := (dinv_le h hv).2
  obtain ⟨h1, h2, h3, h4, h5, h6, h7, h8, h9⟩ := h
  obtain ⟨f', rfl, hf', hv'⟩ := fuel_step hl h2 h4
  rw [uvF_more f' v' hl] at h9
  have hlen := (uvF_len f' (v' / 128)).1
  have hq : v' = 128 * (v' / 128) + v' % 128 := by omega
  have hP := pow_pos7 k
  have hs := pow_succ7 k
  generalize hPP : (2 : Int) ^ (7 * k) = P at *
  have e1 : v' * P = (v' / 128) * (128 * P) + v' % 128 * P := by
    conv => lhs; rw [hq, Int.add_mul]
    rw [Int.mul_comm 128 (v' / 128), Int.mul_assoc]
  have hr0 : 0 ≤ v' % 128 * P := Int.mul_nonneg (by omega) (by omega)
  have hq0 : 0 ≤ (v' / 128) * (128 * P) := Int.mul_nonneg (by omega) (by omega)
  have hr1 : v' % 128 * P ≤ 127 * P := Int.mul_le_mul_of_nonneg_right (by omega) (by omega)
  have e2 : bits .or .u64 y (IntKind.u64.wrap (v' % 128 * P)) = y + v' % 128 * P := or_shift k hPP.symm hk h5 h6 (by omega) (by omega)
  refine ⟨by rw [h9]; simp [h8]; omega, by omega, by rw [h9]; simp [h8], f', by omega, hf', by omega, hv', ?_, ?_, ?_, by simp [h8], by rw [h9]; simp⟩
  · rw [e2]; omega
  · rw [e2, hs]; omega
  · rw [e2, hs]; omega
end Go.Proofs.Ybulkbnuc.dv
