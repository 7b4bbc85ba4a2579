/-
  The walk of parseCanonicalInt (8), at the two forms of a decimal numeral.
-/
import Derived.Test.Qxb6603265aDoorProg
import Derived.Test.Qxb6603265aDoorPlain
import Derived.WalkKit
namespace Go.Proofs.Qxb6603265aDoor
open Go.RowKit

theorem hide {p : Prop} (h : p) : Hid p := h

/-- Go's own test of overflow says no. -/
theorem quo_ok (V D : Int) (h0 : 0 ≤ D) (h9 : D ≤ 9) (hb : 10 * V + D ≤ 9223372036854775808) : (-9223372036854775808 + D).tdiv 10 ≤ -V := by
  have e : (-9223372036854775808 + D) = -(9223372036854775808 - D) := by omega
  rw [e, Int.neg_tdiv, Int.tdiv_eq_ediv_of_nonneg (by omega)]
  omega
theorem int_eq {k : IntKind} {a b : Int} (h : a = b) : Value.int k a = .int k b := by rw [h]

set_option maxHeartbeats 1000000 in
/-- No sign. -/
theorem parse_pos (s : ByteArray) (y : Nat → Int) (w : World) (hs : s.size ≤ 1000) (h1 : 1 ≤ s.size) (hy : ∀ i (h : i < s.size), (((s[i]'h).toNat : Nat) : Int) = y i) (hd : ∀ i, 0 ≤ i → i < 0 + s.size → 48 ≤ y i ∧ y i ≤ 57) (h0 : y 0 = 48 → s.size = 1)
    (hv : vl y 0 s.size ≤ 9223372036854775807) :
    Calls Tryd.prog 8 #[.string s] w fun e w' => e = .returned (.tuple #[.int .i64 (vl y 0 s.size), .bool true]) ∧ w' = w := by
  have HD := hide hd
  have HY := hide hy
  have y0 := hy 0 (by omega)
  have d0 := hd 0 (by omega) (by omega)
  have HV := hide hv
  have n0 : ((s.size : Int) == 0) = false := beq_eq_false_iff_ne.2 (by omega)
  have c0 : (y 0 == 45) = false := beq_eq_false_iff_ne.2 (by omega)
  clear hd hy hv
  rcases (show ((y 0 == 48) = true ∧ ((1 : Int) != (s.size : Int)) = false) ∨ (y 0 == 48) = false from by
    by_cases z : y 0 = 48
    · exact Or.inl ⟨by simp [z], by rw [h0 z]; rfl⟩
    · exact Or.inr (by simp [z])) with zb | zb
  all_goals
    clear h0
    go_enter Tryd.func8, Tryd.ntmps8
    go_wp2
    go_loop [5, 6] (fun i v => ∃ m : Nat, m ≤ s.size ∧ i = .int .i64 m ∧ v = .int .i64 (-(vl y 0 m))) (fun i _ => s.size - (intOf i).toNat)
    case atStart => exact ⟨0, by omega, rfl, rfl⟩
    case round =>
      obtain ⟨m, hm, rfl, rfl⟩ := hrel
      by_cases hlt : m < s.size
      · have hym := HY.out m hlt
        have hdm := HD.out m (by omega) (by omega)
        have hnn := vl_nonneg y 0 s.size HD.out m (by omega)
        have hmo := vl_mono y 0 s.size HD.out (m + 1) (s.size - (m + 1)) (by omega)
        rw [show m + 1 + (s.size - (m + 1)) = s.size by omega] at hmo
        have hst : Hid (vl y 0 (m + 1) = 10 * vl y 0 m + (y m - 48)) := by show _ = _; rw [vl, Nat.zero_add]
        have hbd : 10 * vl y 0 m + (y m - 48) ≤ 9223372036854775807 := by rw [← hst.out]; exact Int.le_trans hmo HV.out
        have hq := quo_ok (vl y 0 m) (y m - 48) (by omega) (by omega) (by omega)
        clear hmo
        go_wp2
        go_round
        case rel => exact ⟨_, _, _, _, ⟨m + 1, by omega, by go_num, by rw [hst.out]; exact int_eq (by omega)⟩, rfl, rfl, rfl, rfl⟩
        case measure => simp [intOf]; omega
      · obtain rfl : m = s.size := by omega
        have hnn := vl_nonneg y 0 s.size HD.out s.size (by omega)
        have hv := HV.out
        have hne : (-(vl y 0 s.size) == -9223372036854775808) = false := beq_eq_false_iff_ne.2 (by omega)
        go_wp2
        go_ret2
        exact ⟨by simp, rfl⟩

set_option maxHeartbeats 1000000 in
/-- A '-' ahead. -/
theorem parse_neg (s : ByteArray) (y : Nat → Int) (w : World) (hs : s.size ≤ 1000) (h1 : 2 ≤ s.size) (hy : ∀ i (h : i < s.size), (((s[i]'h).toNat : Nat) : Int) = y i) (hm : y 0 = 45) (hd : ∀ i, 1 ≤ i → i < 1 + (s.size - 1) → 48 ≤ y i ∧ y i ≤ 57) (h0 : 48 < y 1)
    (hv : vl y 1 (s.size - 1) ≤ 9223372036854775808) :
    Calls Tryd.prog 8 #[.string s] w fun e w' => e = .returned (.tuple #[.int .i64 (-(vl y 1 (s.size - 1))), .bool true]) ∧ w' = w := by
  have HD := hide hd
  have HY := hide hy
  have y0 := hy 0 (by omega)
  have y1 := hy 1 (by omega)
  have d1 := hd 1 (by omega) (by omega)
  have HV := hide hv
  have n0 : ((s.size : Int) == 0) = false := beq_eq_false_iff_ne.2 (by omega)
  have n1 : ((1 : Int) == (s.size : Int)) = false := beq_eq_false_iff_ne.2 (by omega)
  have c0 : (y 0 == 45) = true := by rw [hm]; rfl
  have c1 : (y 1 == 48) = false := beq_eq_false_iff_ne.2 (by omega)
  clear hd hy hv hm
  go_enter Tryd.func8, Tryd.ntmps8
  go_wp2
  go_loop [5, 6] (fun i v => ∃ k m : Nat, 1 ≤ k ∧ k ≤ s.size ∧ Hid (k = 1 + m) ∧ i = .int .i64 k ∧ v = .int .i64 (-(vl y 1 m))) (fun i _ => s.size - (intOf i).toNat)
  case atStart => exact ⟨1, 0, by omega, by omega, rfl, rfl, rfl⟩
  case round =>
    obtain ⟨k, m, hk1, hk2, HK, rfl, rfl⟩ := hrel
    have hkm := HK.out
    by_cases hlt : k < s.size
    · have hym := HY.out k hlt
      have hdm := HD.out k (by omega) (by omega)
      have hnn := vl_nonneg y 1 (s.size - 1) HD.out m (by omega)
      have hmo := vl_mono y 1 (s.size - 1) HD.out (m + 1) (s.size - 1 - (m + 1)) (by omega)
      rw [show m + 1 + (s.size - 1 - (m + 1)) = s.size - 1 by omega] at hmo
      have hst : Hid (vl y 1 (m + 1) = 10 * vl y 1 m + (y k - 48)) := by show _ = _; rw [vl, ← hkm]
      have hbd : 10 * vl y 1 m + (y k - 48) ≤ 9223372036854775808 := by rw [← hst.out]; exact Int.le_trans hmo HV.out
      have hq := quo_ok (vl y 1 m) (y k - 48) (by omega) (by omega) (by omega)
      clear hmo hkm
      go_wp2
      go_round
      case rel => exact ⟨k + 1, m + 1, by omega, by omega, show _ = _ from by have := HK.out; omega, by go_num, by rw [hst.out]; exact int_eq (by omega)⟩
      case measure => simp [intOf]; omega
    · obtain rfl : k = s.size := by omega
      have e : Hid (m = s.size - 1) := show _ = _ from by omega
      clear hkm
      go_wp2
      go_ret2
      exact ⟨by rw [← e.out]; rfl, rfl⟩
end Go.Proofs.Qxb6603265aDoor
