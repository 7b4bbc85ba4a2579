/-
  float64 words ordered by whole numbers: a key for each word; NaN below all. No Go in sight.
-/
import Ieee.Arith
namespace Go.Proofs.Qxb6602892a
open Ieee

/-- Above every finite number. -/
def bigI : Int := 2 ^ 2200
/-- The key of a datum: its value in units of the least place; infinities beyond; NaN below all. -/
def dkey : Datum → Int
  | .number s m p => signed s m (p - double.leastPlace).toNat
  | .infinity s => if s then -bigI else bigI
  | .nan .. => -bigI - 1
def okey (x : Nat) : Int := dkey (double.read x)
def isN (x : Nat) : Bool := (double.read x).isNaN
/-- Go's cmp.Less. -/
def ltF (x y : Nat) : Bool := decide (okey x < okey y)

theorem signed_eq (s : Bool) (m u : Nat) : signed s m u = (if s then -1 else 1) * ((m : Int) * 2 ^ u) := by
  unfold signed
  rw [Nat.shiftLeft_eq]
  cases s <;> simp

/-- A datum that a word stands for. -/
def Fin (d : Datum) : Prop := match d with
  | .number _ m p => m < 2 ^ 53 ∧ double.leastPlace ≤ p ∧ p ≤ double.leastPlace + 2045
  | _ => True

theorem read_fin (x : Nat) : Fin (double.read x) := by
  have hb : double.binade = 2 ^ 52 := rfl
  have hi : double.infRung = 2047 * 2 ^ 52 := by decide
  unfold Format.read
  simp only [hb, hi]
  split
  · exact ⟨by omega, by omega, by omega⟩
  · split
    · rename_i h1 h2
      refine ⟨by omega, by omega, ?_⟩
      have : x % double.signWeight / 2 ^ 52 ≤ 2046 := by omega
      omega
    · split <;> trivial

theorem pow_le (a b : Nat) (h : a ≤ b) : (2 : Int) ^ a ≤ 2 ^ b := by
  have := Nat.pow_le_pow_right (n := 2) (by omega) h
  exact_mod_cast this

theorem num_lt {s : Bool} {m : Nat} {p : Int} (h : Fin (.number s m p)) : -bigI < dkey (.number s m p) ∧ dkey (.number s m p) < bigI := by
  obtain ⟨h1, h2, h3⟩ := h
  have hu : (p - double.leastPlace).toNat ≤ 2045 := by omega
  show -bigI < signed s m (p - double.leastPlace).toNat ∧ signed s m (p - double.leastPlace).toNat < bigI
  rw [signed_eq]
  have h4 : (2 : Int) ^ (p - double.leastPlace).toNat ≤ 2 ^ 2045 := pow_le _ _ hu
  have h5 : (0 : Int) < 2 ^ (p - double.leastPlace).toNat := Int.pow_pos (by decide)
  have h6 : (m : Int) < 2 ^ 53 := by exact_mod_cast h1
  have h7 : (m : Int) * 2 ^ (p - double.leastPlace).toNat ≤ 2 ^ 53 * 2 ^ 2045 := Int.mul_le_mul (by omega) h4 (by omega) (by decide)
  have h8 : (2 : Int) ^ 53 * 2 ^ 2045 < bigI := by unfold bigI; decide +kernel
  have h9 : (0 : Int) ≤ (m : Int) * 2 ^ (p - double.leastPlace).toNat := Int.mul_nonneg (by omega) (by omega)
  cases s <;> simp <;> omega

theorem signed_add (s : Bool) (m u v : Nat) : signed s m (u + v) = signed s m u * 2 ^ v := by
  rw [signed_eq, signed_eq, Int.pow_add]
  cases s <;> simp [Int.mul_assoc, Int.neg_mul]

theorem cmp_mul (a b k : Int) (hk : 0 < k) : compare (a * k) (b * k) = compare a b := by
  have e1 : a * k < b * k ↔ a < b := Int.mul_lt_mul_right hk
  have e2 : a * k = b * k ↔ a = b := Int.mul_eq_mul_right_iff (by omega)
  simp only [compare, compareOfLessAndEq, e1, e2]

theorem num_order {s t : Bool} {m n : Nat} {i j : Int} (hi : double.leastPlace ≤ i) (hj : double.leastPlace ≤ j) :
    Datum.order (.number s m i) (.number t n j) = some (compare (dkey (.number s m i)) (dkey (.number t n j))) := by
  show some (compare (signed s m (i - min i j).toNat) (signed t n (j - min i j).toNat)) = some (compare (signed s m (i - double.leastPlace).toNat) (signed t n (j - double.leastPlace).toNat))
  have e1 : (i - double.leastPlace).toNat = (i - min i j).toNat + (min i j - double.leastPlace).toNat := by omega
  have e2 : (j - double.leastPlace).toNat = (j - min i j).toNat + (min i j - double.leastPlace).toNat := by omega
  rw [e1, e2, signed_add, signed_add, cmp_mul _ _ _ (Int.pow_pos (by decide))]

theorem cmp_lt {a b : Int} (h : a < b) : compare a b = .lt := by simp [compare, compareOfLessAndEq, h]
theorem cmp_gt {a b : Int} (h : b < a) : compare a b = .gt := by
  simp [compare, compareOfLessAndEq, show ¬ a < b by omega, show ¬ a = b by omega]
theorem cmp_eq (a : Int) : compare a a = .eq := by simp [compare, compareOfLessAndEq]
theorem big_pos : 0 < bigI := by unfold bigI; exact Int.pow_pos (by decide)

theorem datum_order {c d : Datum} (hc : Fin c) (hd : Fin d) (nc : c.isNaN = false) (nd : d.isNaN = false) : c.order d = some (compare (dkey c) (dkey d)) := by
  have hb := big_pos
  cases c with
  | nan => cases nc
  | infinity s =>
    cases d with
    | nan => cases nd
    | infinity t =>
      cases s <;> cases t
      · show some .eq = some (compare bigI bigI); rw [cmp_eq]
      · show some .gt = some (compare bigI (-bigI)); rw [cmp_gt (by omega)]
      · show some .lt = some (compare (-bigI) bigI); rw [cmp_lt (by omega)]
      · show some .eq = some (compare (-bigI) (-bigI)); rw [cmp_eq]
    | number t n j =>
      have h := num_lt hd
      cases s
      · show some .gt = some (compare bigI _); rw [cmp_gt h.2]
      · show some .lt = some (compare (-bigI) _); rw [cmp_lt h.1]
  | number s m i =>
    cases d with
    | nan => cases nd
    | infinity t =>
      have h := num_lt hc
      cases t
      · show some .lt = some (compare _ bigI); rw [cmp_lt h.2]
      · show some .gt = some (compare _ (-bigI)); rw [cmp_gt h.1]
    | number t n j => exact num_order hc.2.1 hd.2.1

theorem order_key {x y : Nat} (hx : isN x = false) (hy : isN y = false) : double.order x y = some (compare (okey x) (okey y)) :=
  datum_order (read_fin x) (read_fin y) hx hy
theorem order_nan_left {x : Nat} (y : Nat) (hx : isN x = true) : double.order x y = none := by
  unfold isN at hx; unfold Format.order
  cases h : double.read x with
  | nan => cases double.read y <;> rfl
  | infinity => rw [h] at hx; cases hx
  | number => rw [h] at hx; cases hx
theorem order_nan_right (x : Nat) {y : Nat} (hy : isN y = true) : double.order x y = none := by
  unfold isN at hy; unfold Format.order
  cases h : double.read y with
  | nan => cases double.read x <;> rfl
  | infinity => rw [h] at hy; cases hy
  | number => rw [h] at hy; cases hy

theorem nan_key {x : Nat} (h : isN x = true) : okey x = -bigI - 1 := by
  unfold isN at h; unfold okey
  cases e : double.read x with
  | nan => rfl
  | infinity => rw [e] at h; cases h
  | number => rw [e] at h; cases h
theorem num_key {x : Nat} (h : isN x = false) : -bigI ≤ okey x := by
  unfold isN at h; unfold okey
  have hb := big_pos
  have hf := read_fin x
  cases e : double.read x with
  | nan => rw [e] at h; cases h
  | infinity s => cases s <;> simp [dkey] ; omega
  | number s m p => rw [e] at hf; have := num_lt hf; omega
theorem nan_iff (x : Nat) : isN x = true ↔ okey x = -bigI - 1 := by
  refine ⟨nan_key, fun h => ?_⟩
  cases e : isN x
  · have := num_key e; omega
  · rfl

/-! ### The six tests, as keys -/
theorem self_ne (x : Nat) : (double.order x x != some .eq) = isN x := by
  cases h : isN x
  · rw [order_key h h, cmp_eq]; rfl
  · rw [order_nan_left x h]; rfl
theorem self_eq (x : Nat) : (double.order x x == some .eq) = !isN x := by
  cases h : isN x
  · rw [order_key h h, cmp_eq]; rfl
  · rw [order_nan_left x h]; rfl
theorem lss_num {x y : Nat} (hx : isN x = false) (hy : isN y = false) : (double.order x y == some .lt) = decide (okey x < okey y) := by
  rw [order_key hx hy]
  rcases Int.lt_trichotomy (okey x) (okey y) with h | h | h
  · rw [cmp_lt h]; simp [h]
  · rw [h, cmp_eq]; simp
  · rw [cmp_gt h]; simp; omega
theorem lss_nan_left {x : Nat} (y : Nat) (hx : isN x = true) : (double.order x y == some .lt) = false := by rw [order_nan_left y hx]; rfl
theorem lss_nan_right (x : Nat) {y : Nat} (hy : isN y = true) : (double.order x y == some .lt) = false := by rw [order_nan_right x hy]; rfl
theorem eql_num {x y : Nat} (hx : isN x = false) (hy : isN y = false) : (double.order x y == some .eq) = decide (okey x = okey y) := by
  rw [order_key hx hy]
  rcases Int.lt_trichotomy (okey x) (okey y) with h | h | h
  · rw [cmp_lt h]; simp; omega
  · rw [h, cmp_eq]; simp
  · rw [cmp_gt h]; simp; omega
theorem leq_num {x y : Nat} (hx : isN x = false) (hy : isN y = false) : (double.order x y == some .lt || double.order x y == some .eq) = decide (okey x ≤ okey y) := by
  rw [lss_num hx hy, eql_num hx hy, ← Bool.decide_or]
  exact decide_eq_decide.2 (by omega)
theorem geq_num {x y : Nat} (hx : isN x = false) (hy : isN y = false) : (double.order x y == some .gt || double.order x y == some .eq) = decide (okey y ≤ okey x) := by
  rw [eql_num hx hy, order_key hx hy]
  rcases Int.lt_trichotomy (okey x) (okey y) with h | h | h
  · rw [cmp_lt h]; simp; omega
  · rw [h, cmp_eq]; simp
  · rw [cmp_gt h]; simp; omega

theorem less_eq (x y : Nat) : (isN x && !isN y || (double.order x y == some .lt)) = ltF x y := by
  unfold ltF
  cases hx : isN x <;> cases hy : isN y
  · rw [lss_num hx hy]; simp
  · rw [lss_nan_right x hy, nan_key hy]
    have := num_key hx
    simp; omega
  · rw [lss_nan_left y hx, nan_key hx]
    have := num_key hy
    simp; omega
  · rw [lss_nan_left y hx, nan_key hx, nan_key hy]; simp

end Go.Proofs.Qxb6602892a
