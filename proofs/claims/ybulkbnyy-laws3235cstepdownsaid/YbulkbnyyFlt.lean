import Derived.Test.YbulkbnyyRows
import Derived.WalkKit
/-
  float64 of an int32 and back: exact. From the model's own words.
-/
namespace Go.Proofs.Ybulkbnyy.flt
open Ieee

theorem lp : Ieee.double.leastPlace = -1074 := by decide
theorem bn : Ieee.double.binade = 4503599627370496 := by decide
theorem ir : Ieee.double.infRung = 9218868437227405312 := by decide
theorem sw : Ieee.double.signWeight = 9223372036854775808 := by decide
theorem fb : Ieee.double.fractionBits = 52 := rfl

theorem cut_none (way : Toward) (neg : Bool) (n : Nat) (hw : way = .even ∨ way = .zero) : way.cut neg n 0 = n := by
  unfold Toward.cut
  rcases hw with rfl | rfl <;> simp [Nat.mod_one]

/-- The rung of a whole number of at most 53 digits. -/
theorem nearest_eq (neg : Bool) (mag L : Nat) (h0 : mag ≠ 0) (hL : mag.log2 = L) (hL52 : L ≤ 40) :
    Ieee.double.nearest neg mag 0 = Ieee.double.word neg ((L + 1022) * 4503599627370496 + mag * 2 ^ (52 - L)) := by
  have hlt : mag < 2 ^ (L + 1) := by rw [← hL]; exact Nat.lt_log2_self
  have hP : mag * 2 ^ (52 - L) < 2 ^ 53 := by
    have e : (2 : Nat) ^ 53 = 2 ^ (L + 1) * 2 ^ (52 - L) := by rw [← Nat.pow_add]; congr 1; omega
    rw [e]
    exact Nat.mul_lt_mul_of_pos_right hlt (Nat.pow_pos (by omega))
  have e0 : (2 : Nat) ^ 53 = 9007199254740992 := by decide
  rw [e0] at hP
  have e1 : max ((0 : Int) + (mag.log2 : Int) - (Ieee.double.fractionBits : Int)) Ieee.double.leastPlace = (L : Int) - 52 := by
    rw [lp, fb, hL]; omega
  have e2 : ((0 : Int) - ((L : Int) - 52)).toNat = 52 - L := by omega
  have e3 : ((L : Int) - 52 - 0).toNat = 0 := by omega
  have e4 : ((L : Int) - 52 - Ieee.double.leastPlace).toNat = L + 1022 := by rw [lp]; omega
  have e5 : Format.nearest Ieee.double neg mag 0 = Ieee.double.word neg (min ((((max ((0 : Int) + (mag.log2 : Int) - (Ieee.double.fractionBits : Int)) Ieee.double.leastPlace) - Ieee.double.leastPlace).toNat) * Ieee.double.binade + Toward.even.cut neg (mag <<< ((0 : Int) - (max ((0 : Int) + (mag.log2 : Int) - (Ieee.double.fractionBits : Int)) Ieee.double.leastPlace)).toNat) ((max ((0 : Int) + (mag.log2 : Int) - (Ieee.double.fractionBits : Int)) Ieee.double.leastPlace) - 0).toNat) Ieee.double.infRung) := by
    unfold Format.nearest
    rw [if_neg h0]
  rw [e5, e1, e2, e3, e4, cut_none _ _ _ (.inl rfl), Nat.shiftLeft_eq, bn, ir, Nat.min_eq_left (by omega)]

theorem read_word (neg : Bool) (rung : Nat) (h1 : 4503599627370496 ≤ rung) (h2 : rung < 9218868437227405312) :
    Ieee.double.read (Ieee.double.word neg rung) = .number neg (4503599627370496 + rung % 4503599627370496) (-1074 + ((rung / 4503599627370496 - 1 : Nat) : Int)) := by
  unfold Format.read
  simp only [lp, bn, ir, sw]
  have e1 : Ieee.double.word neg rung % 9223372036854775808 = rung := by
    unfold Format.word; rw [sw]; cases neg <;> simp <;> omega
  have e2 : (Ieee.double.word neg rung / 9223372036854775808 % 2 == 1) = neg := by
    unfold Format.word; rw [sw]
    cases neg
    · simp; omega
    · simp; omega
  rw [e1, e2, if_neg (by omega), if_pos h2]

theorem decode_pos (neg : Bool) (mag : Nat) (h0 : mag ≠ 0) (hm : mag < 2 ^ 40) :
    ∃ m s : Nat, s ≤ 52 ∧ 2 ^ 52 ≤ m ∧ m < 2 ^ 53 ∧ m = mag * 2 ^ s ∧ Ieee.double.read (Ieee.double.nearest neg mag 0) = .number neg m (-(s : Int)) := by
  obtain ⟨L, hL⟩ : ∃ L, mag.log2 = L := ⟨_, rfl⟩
  have hge : 2 ^ L ≤ mag := by rw [← hL]; exact Nat.log2_self_le h0
  have hlt : mag < 2 ^ (L + 1) := by rw [← hL]; exact Nat.lt_log2_self
  have hL40 : L < 40 := (Nat.pow_lt_pow_iff_right (by omega : 1 < 2)).1 (Nat.lt_of_le_of_lt hge hm)
  have e53 : (2 : Nat) ^ 53 = 2 ^ (L + 1) * 2 ^ (52 - L) := by rw [← Nat.pow_add]; congr 1; omega
  have e52 : (2 : Nat) ^ 52 = 2 ^ L * 2 ^ (52 - L) := by rw [← Nat.pow_add]; congr 1; omega
  have hP : mag * 2 ^ (52 - L) < 2 ^ 53 := by
    rw [e53]; exact Nat.mul_lt_mul_of_pos_right hlt (Nat.pow_pos (by omega))
  have hP2 : 2 ^ 52 ≤ mag * 2 ^ (52 - L) := by
    rw [e52]; exact Nat.mul_le_mul_right _ hge
  refine ⟨mag * 2 ^ (52 - L), 52 - L, by omega, hP2, hP, rfl, ?_⟩
  rw [nearest_eq neg mag L h0 hL (by omega), read_word neg _ (by omega) (by omega)]
  generalize mag * 2 ^ (52 - L) = K at hP hP2
  have e1 : 4503599627370496 + ((L + 1022) * 4503599627370496 + K) % 4503599627370496 = K := by omega
  have e2 : -1074 + ((((L + 1022) * 4503599627370496 + K) / 4503599627370496 - 1 : Nat) : Int) = -((52 - L : Nat) : Int) := by omega
  rw [e1, e2]

theorem toInt_pos (neg : Bool) (mag m s : Nat) (hs : s ≤ 52) (hm : m = mag * 2 ^ s) (h1 : 2 ^ 52 ≤ m) : (Datum.number neg m (-(s : Int))).toInt .zero = some (signed neg mag 0) := by
  unfold Datum.toInt Datum.integral
  have e1 : (-(s : Int)).toNat = 0 := by omega
  have e2 : (- -(s : Int)).toNat = s := by omega
  simp only [e1, e2]
  have hl : 52 ≤ m.log2 := (Nat.le_log2 (by omega)).2 h1
  have e3 : Toward.zero.cut neg (m <<< 0) s = mag := by
    unfold Toward.cut
    have e4 : m <<< 0 = m := rfl
    rw [e4, Nat.min_eq_left (by omega)]
    have e5 : 1 <<< s = 2 ^ s := by rw [Nat.shiftLeft_eq, Nat.one_mul]
    simp only [e5, Bool.toNat_false, Nat.add_zero]
    rw [hm, Nat.mul_div_cancel _ (Nat.pow_pos (by omega))]
  rw [e3]

/-- float64(n), read back. -/
theorem back (n : Int) (h0 : -2147483648 ≤ n) (h1 : n ≤ 2147483647) : (FloatKind.f64.decode (FloatKind.f64.nearest n)).toInt .zero = some n := by
  show (Ieee.double.read (Ieee.double.nearest (decide (n < 0)) n.natAbs 0)).toInt .zero = some n
  by_cases hz : n = 0
  · subst hz; decide
  · obtain ⟨m, s, hs, hm1, _, hm, hr⟩ := decode_pos (decide (n < 0)) n.natAbs (by omega) (by omega)
    rw [hr, toInt_pos _ n.natAbs m s hs hm hm1]
    unfold signed
    have : n.natAbs <<< 0 = n.natAbs := rfl
    rw [this]
    by_cases hneg : n < 0
    · simp [hneg]; omega
    · simp [hneg]; omega

theorem order_self (s : Bool) (m : Nat) (i : Int) : (Datum.number s m i).order (Datum.number s m i) = some .eq := by
  simp [Datum.order]

theorem self_eq (n : Int) (h0 : -2147483648 ≤ n) (h1 : n ≤ 2147483647) : Op.floatEq .f64 (FloatKind.f64.nearest n) (FloatKind.f64.nearest n) = true := by
  have key : ∃ s m i, Ieee.double.read (FloatKind.f64.nearest n) = .number s m i := by
    show ∃ s m i, Ieee.double.read (Ieee.double.nearest (decide (n < 0)) n.natAbs 0) = .number s m i
    by_cases hz : n = 0
    · subst hz; exact ⟨false, 0, -1074, by decide⟩
    · obtain ⟨m, s, _, _, _, _, hr⟩ := decode_pos (decide (n < 0)) n.natAbs (by omega) (by omega)
      exact ⟨_, _, _, hr⟩
  obtain ⟨s, m, i, hr⟩ := key
  show (Ieee.double.order (FloatKind.f64.nearest n) (FloatKind.f64.nearest n) == some .eq) = true
  unfold Format.order
  rw [hr, order_self]
  rfl
end Go.Proofs.Ybulkbnyy.flt
