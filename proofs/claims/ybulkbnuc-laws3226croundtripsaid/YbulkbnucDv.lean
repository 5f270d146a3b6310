import Derived.Test.YbulkbnucDvPlain
/-
  binary.Uvarint at a slice that begins with the uvarint of v: it gives back v and how many bytes it read.
-/
namespace Go.Proofs.Ybulkbnuc.dv
open Go.RowKit Go.Proofs.Ybulkbnuc.uv

theorem ret_vn {a a' b b' : Int} (h : a = a') (h' : b = b') : Ending.returned (.tuple #[.int .u64 a, .int .i64 b]) = .returned (.tuple #[.int .u64 a', .int .i64 b']) := by rw [h, h']

set_option maxHeartbeats 400000 in
theorem dec (v : Int) (hv0 : 0 ≤ v) (hv1 : v < 18446744073709551616) (g off n c : Nat) (w : World) (hn : n ≤ 100000) (hun : (uv v).length ≤ n)
    (hc : ∀ j, j < (uv v).length → w.cell? ⟨g, off + j, none⟩ = some (.int .u8 ((uv v)[j]?.getD 0))) :
    Calls Yba.prog 19 #[.slice (some ⟨g, off, none⟩) n c] w fun e w' => e = .returned (.tuple #[.int .u64 v, .int .i64 (uv v).length]) ∧ w' = w := by
  have HC : Hid (∀ j, j < (uv v).length → w.cell? ⟨g, off + j, none⟩ = some (.int .u8 ((uv v)[j]?.getD 0))) := hc
  have HU : Hid ((uv v).length ≤ n) := hun
  have HL : Hid (0 < (uv v).length) := (uvF_len 10 v).1
  clear hc hun
  go_enter Yba.func19, Yba.ntmps19
  go_wp2_with fail
  go_loop [4, 5, 10] (fun x s i => ∃ (k f : Nat) (pre : List Int) (v' y : Int), k < 10 ∧ k < n ∧ i = .int .i64 k ∧ x = .int .u64 y ∧ s = .int .u64 ((7 * k : Nat) : Int) ∧ Hid (k < (uv v).length) ∧ Hid (Dinv v k f pre v' y)) (fun _ _ i => n - (intOf i).toNat)
  case atStart => exact ⟨0, 10, [], v, 0, by omega, Nat.lt_of_lt_of_le HL HU, rfl, rfl, rfl, HL, dinv_start v hv0 hv1⟩
  case round =>
    obtain ⟨k, f, pre, v', y, hk, hkn, rfl, rfl, rfl, HK, HD⟩ := hrel
    have hck := HC.out k HK.out
    have hy1 := (dinv_le HD.out hv1).1
    have hy0 := HD.out.2.2.2.2.1
    have hv'0 := HD.out.2.2.1
    by_cases h : v' < 128
    · obtain ⟨e1, e2, e3, e4⟩ := dinv_last HD.out hv1 h
      rw [e2] at hck
      have E1 : Hid ((uv v).length = k + 1) := e1
      have E3 : Hid (∀ P : Int, P = 2 ^ (7 * k) → bits .or .u64 y (IntKind.u64.wrap (v' * P)) = v) := e3
      clear e1 e2 e3 HC HU HL HK HD
      by_cases hk9 : k = 9
      · subst hk9
        have hv'1 := e4 rfl
        clear e4
        go_wp2
        go_ret2
        refine ⟨ret_vn ?_ ?_, rfl⟩
        · have e := E3.out 9223372036854775808 (by decide)
          rw [wrap_id (by omega) (by omega)] at e
          exact e
        · rw [E1.out]; rfl
      · clear e4
        have hkb : ((k : Int) == 9) = false := by simp; omega
        go_wp2
        go_ret2
        exact ⟨ret_vn (E3.out _ rfl) (by rw [E1.out]; omega), rfl⟩
    · obtain ⟨m1, m2, m3, f', m4⟩ := dinv_more HD.out hv1 h
      obtain ⟨b1, b2, b3⟩ := eb_spec v'
      rw [m3] at hck
      have M1 : Hid (k + 1 < (uv v).length) := m1
      have M4 : Hid (Dinv v (k + 1) f' (pre ++ [eb v']) (v' / 128) (bits .or .u64 y (IntKind.u64.wrap (v' % 128 * 2 ^ (7 * k))))) := m4
      clear m1 m3 m4 HD HK
      have hkn1 : k + 1 < n := Nat.lt_of_lt_of_le M1.out HU.out
      generalize eb v' = b at *
      go_wp2
      go_round
      case rel => exact ⟨k + 1, f', _, _, _, m2, hkn1, by go_num, rfl, by go_num, M1, M4⟩
      case measure => simp [intOf]; omega
end Go.Proofs.Ybulkbnuc.dv
