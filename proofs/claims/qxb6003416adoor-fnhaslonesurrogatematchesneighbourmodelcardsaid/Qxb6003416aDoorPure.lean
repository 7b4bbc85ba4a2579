/-
  The walks of the pure functions: zzIsHex (14), zzIsHigh (17), zzIsLow (18), utf16.DecodeRune (20), utf16.IsSurrogate (21), zzHexVal (22).
-/
import Derived.Test.Qxb6003416aDoorProg
import Derived.Test.Qxb6003416aDoorPlain
import Derived.WalkKit
import Derived.Laws.BitsAllLaws
import Derived.Laws.DeepBits32
namespace Go.Proofs.Qxb6003416aDoor
open Go.RowKit

theorem ret_bool {a b : Bool} (h : a = b) : Ending.returned (.bool a) = .returned (.bool b) := by rw [h]
theorem ret_int {k : IntKind} {a b : Int} (h : a = b) : Ending.returned (.int k a) = .returned (.int k b) := by rw [h]
theorem bool_dec {p : Prop} [Decidable p] {b : Bool} (h : b = true ↔ p) : decide p = b := by
  cases b <;> simp at h ⊢ <;> exact h

/-- '|' of two int32 whose bits do not meet is their sum. -/
theorem or32 (i : Nat) (a b : Int) (ha : 0 ≤ a) (hm : a.toNat % 2 ^ i = 0) (hb : 0 ≤ b) (hi : b.toNat < 2 ^ i) (hs : a + b < 2147483648) : bits .or .i32 a b = a + b := by
  obtain ⟨x, rfl⟩ := Int.eq_ofNat_of_zero_le ha
  obtain ⟨y, rfl⟩ := Int.eq_ofNat_of_zero_le hb
  simp only [Int.toNat_natCast] at hm hi
  show IntKind.i32.wrap ((BitVec.ofInt 32 (x : Int) ||| BitVec.ofInt 32 (y : Int)).toNat : Int) = _
  rw [BitVec.toNat_or, ofInt_u32 x (by omega), ofInt_u32 y (by omega), nat_join i x y hm hi, wrap_i32_small _ (by omega) (by omega)]
  omega
/-- '|' of two bytes whose bits do not meet is their sum. -/
theorem or8 (i : Nat) (a b : Int) (ha : 0 ≤ a) (hm : a.toNat % 2 ^ i = 0) (hb : 0 ≤ b) (hi : b.toNat < 2 ^ i) (hs : a + b < 256) : bits .or .u8 a b = a + b := by
  obtain ⟨x, rfl⟩ := Int.eq_ofNat_of_zero_le ha
  obtain ⟨y, rfl⟩ := Int.eq_ofNat_of_zero_le hb
  simp only [Int.toNat_natCast] at hm hi
  rw [u8_or_nat x y (by omega) (by omega), nat_join i x y hm hi]
  omega

set_option maxHeartbeats 400000 in
theorem isHex_any (c : Int) (w : World) (h0 : 0 ≤ c) (h1 : c ≤ 255) :
    Calls Tryd.prog 14 #[.int .u8 c] w fun e w' => e = .returned (.bool (hexB c)) ∧ w' = w := by
  have Hc : Hid (hexB c = true ↔ (48 ≤ c ∧ c ≤ 57) ∨ (97 ≤ c ∧ c ≤ 102) ∨ (65 ≤ c ∧ c ≤ 70)) := hexB_iff c
  rcases (show c < 48 ∨ (48 ≤ c ∧ c ≤ 57) ∨ (58 ≤ c ∧ c < 65) ∨ (65 ≤ c ∧ c ≤ 70) ∨ (71 ≤ c ∧ c < 97) ∨ (97 ≤ c ∧ c ≤ 102) ∨ 103 ≤ c from by omega) with h | h | h | h | h | h | h
  all_goals
    go_enter Tryd.func14, Tryd.ntmps14
    go_wp2
    go_ret
    have hc := Hc.out
    clear Hc
    first
      | exact ⟨ret_bool (show true = hexB c from (hc.2 (by omega)).symm), rfl⟩
      | exact ⟨ret_bool (show false = hexB c from (by cases hb : hexB c; rfl; exact absurd (hc.1 hb) (by omega))), rfl⟩
      | exact ⟨ret_bool (by rw [← bool_dec hc, Bool.eq_iff_iff]; simp; omega), rfl⟩

theorem isHigh_any (u : Int) (w : World) : Calls Tryd.prog 17 #[.int .i32 u] w fun e w' => e = .returned (.bool (hiB u)) ∧ w' = w := by
  have Hc : Hid (hiB u = (decide (55296 ≤ u) && decide (u < 56320))) := rfl
  by_cases h : 55296 ≤ u
  · go_enter Tryd.func17, Tryd.ntmps17
    go_wp2
    go_ret
    exact ⟨ret_bool (by rw [Hc.out]; simp [h]), rfl⟩
  · have hd : decide (55296 ≤ u) = false := by simpa using h
    go_enter Tryd.func17, Tryd.ntmps17
    go_wp2
    go_ret
    exact ⟨ret_bool (by rw [Hc.out, hd]; rfl), rfl⟩

theorem isLow_any (u : Int) (w : World) : Calls Tryd.prog 18 #[.int .i32 u] w fun e w' => e = .returned (.bool (loB u)) ∧ w' = w := by
  have Hc : Hid (loB u = (decide (56320 ≤ u) && decide (u < 57344))) := rfl
  by_cases h : 56320 ≤ u
  · go_enter Tryd.func18, Tryd.ntmps18
    go_wp2
    go_ret
    exact ⟨ret_bool (by rw [Hc.out]; simp [h]), rfl⟩
  · have hd : decide (56320 ≤ u) = false := by simpa using h
    go_enter Tryd.func18, Tryd.ntmps18
    go_wp2
    go_ret
    exact ⟨ret_bool (by rw [Hc.out, hd]; rfl), rfl⟩

/-- utf16.IsSurrogate. -/
def surB (u : Int) : Bool := decide (55296 ≤ u) && decide (u < 57344)
theorem isSur_any (u : Int) (w : World) : Calls Tryd.prog 21 #[.int .i32 u] w fun e w' => e = .returned (.bool (surB u)) ∧ w' = w := by
  have Hc : Hid (surB u = (decide (55296 ≤ u) && decide (u < 57344))) := rfl
  by_cases h : 55296 ≤ u
  · go_enter Tryd.func21, Tryd.ntmps21
    go_wp2
    go_ret
    exact ⟨ret_bool (by rw [Hc.out]; simp [h]), rfl⟩
  · have hd : decide (55296 ≤ u) = false := by simpa using h
    go_enter Tryd.func21, Tryd.ntmps21
    go_wp2
    go_ret
    exact ⟨ret_bool (by rw [Hc.out, hd]; rfl), rfl⟩

/-- utf16.DecodeRune at a high surrogate and no low one. -/
theorem decode_bad (h u : Int) (w : World) (hh : 55296 ≤ h) (hl : h < 56320) (hu : u < 56320 ∨ 57344 ≤ u) :
    Calls Tryd.prog 20 #[.int .i32 h, .int .i32 u] w fun e w' => e = .returned (.int .i32 65533) ∧ w' = w := by
  rcases hu with hu | hu
  · have hd : decide (56320 ≤ u) = false := by simp; omega
    go_enter Tryd.func20, Tryd.ntmps20
    go_wp2
    go_ret
    exact ⟨rfl, rfl⟩
  · have hd : decide (u < 57344) = false := by simp; omega
    have h2 : 56320 ≤ u := by omega
    go_enter Tryd.func20, Tryd.ntmps20
    go_wp2
    go_ret
    exact ⟨rfl, rfl⟩

/-- utf16.DecodeRune at a pair: some number, not U+FFFD. -/
theorem decode_good (h u : Int) (w : World) (hh : 55296 ≤ h) (hl : h < 56320) (hu : 56320 ≤ u) (hv : u < 57344) :
    Calls Tryd.prog 20 #[.int .i32 h, .int .i32 u] w fun e w' => (∃ r : Int, e = .returned (.int .i32 r) ∧ (r == 65533) = false) ∧ w' = w := by
  go_enter Tryd.func20, Tryd.ntmps20
  go_wp2
  go_ret
  refine ⟨⟨_, rfl, ?_⟩, rfl⟩
  rw [or32 10 _ _ (by omega) (by omega) (by omega) (by omega) (by omega)]
  simp only [wrap32, beq_eq_false_iff_ne]
  omega

theorem hexVal_any (c : Int) (w : World) (h : hexB c = true) :
    Calls Tryd.prog 22 #[.int .u8 c] w fun e w' => e = .returned (.int .i32 (hexV c)) ∧ w' = w := by
  have Hv : Hid (hexV c = if 48 ≤ c ∧ c ≤ 57 then c - 48 else if 97 ≤ c ∧ c ≤ 102 then c - 87 else c - 55) := rfl
  rw [hexB_iff] at h
  rcases h with h | h | h
  · go_enter Tryd.func22, Tryd.ntmps22
    go_wp2
    go_ret
    exact ⟨ret_int (by rw [Hv.out, if_pos h]), rfl⟩
  · have hd : decide (c ≤ 57) = false := by simp; omega
    go_enter Tryd.func22, Tryd.ntmps22
    go_wp2
    go_ret
    exact ⟨ret_int (by rw [Hv.out, if_neg (by omega), if_pos h]; omega), rfl⟩
  · have hd : decide (c ≤ 57) = false := by simp; omega
    have hd2 : decide (97 ≤ c) = false := by simp; omega
    go_enter Tryd.func22, Tryd.ntmps22
    go_wp2
    go_ret
    exact ⟨ret_int (by rw [Hv.out, if_neg (by omega), if_neg (by omega)]; omega), rfl⟩
end Go.Proofs.Qxb6003416aDoor
