/-
  THE PLAIN LAW, no Go in sight: the value of a row of decimal digits, and the digits of a number.
-/
import Derived.Lib.ItoaNum
namespace Go.Proofs.Qxb6603265aDoor
open Go.Lib

/-- The value of m digits from place a on. -/
def vl (y : Nat → Int) (a : Nat) : Nat → Int
  | 0 => 0
  | m + 1 => 10 * vl y a m + (y (a + m) - 48)

theorem vl_nonneg (y : Nat → Int) (a n : Nat) (hd : ∀ i, a ≤ i → i < a + n → 48 ≤ y i ∧ y i ≤ 57) : ∀ m, m ≤ n → 0 ≤ vl y a m := by
  intro m
  induction m with
  | zero => intro _; simp [vl]
  | succ m ih =>
    intro h
    have := hd (a + m) (by omega) (by omega)
    have := ih (by omega)
    rw [vl]; omega

theorem vl_mono (y : Nat → Int) (a n : Nat) (hd : ∀ i, a ≤ i → i < a + n → 48 ≤ y i ∧ y i ≤ 57) (m : Nat) : ∀ j, m + j ≤ n → vl y a m ≤ vl y a (m + j) := by
  intro j
  induction j with
  | zero => intro _; simp
  | succ j ih =>
    intro h
    have h1 := hd (a + (m + j)) (by omega) (by omega)
    have h2 := ih (by omega)
    have h3 := vl_nonneg y a n hd (m + j) (by omega)
    rw [show m + (j + 1) = m + j + 1 by omega, vl]; omega

/-- A list's byte at a place, as a number. -/
def at' (l : List UInt8) (i : Nat) : Int := ((l.getD i 0).toNat : Int)

theorem vl_congr {y z : Nat → Int} {a b : Nat} : ∀ m, (∀ i, i < m → y (a + i) = z (b + i)) → vl y a m = vl z b m := by
  intro m
  induction m with
  | zero => intro _; rfl
  | succ m ih => intro h; rw [vl, vl, ih (fun i hi => h i (by omega)), h m (by omega)]

theorem dig_byte {n : Nat} (h : n < 10) : ((UInt8.ofNat (48 + n)).toNat : Int) = 48 + n := by
  simp only [UInt8.toNat_ofNat']; omega

theorem at_snoc_lt {l : List UInt8} {c : UInt8} {i : Nat} (h : i < l.length) : at' (l ++ [c]) i = at' l i := by
  simp [at', List.getElem?_append_left h]
theorem at_snoc_last {l : List UInt8} {c : UInt8} : at' (l ++ [c]) l.length = (c.toNat : Int) := by
  simp [at']

/-- The digits of u: all digits; their value is u; the first is 0 only at 0. -/
theorem dec_facts : ∀ (b u : Nat), u < b → (∀ i, i < (decDigits u).length → 48 ≤ at' (decDigits u) i ∧ at' (decDigits u) i ≤ 57) ∧ vl (at' (decDigits u)) 0 (decDigits u).length = u ∧ 1 ≤ (decDigits u).length ∧ (0 < u → 48 < at' (decDigits u) 0) ∧ (u = 0 → (decDigits u).length = 1) := by
  intro b
  induction b with
  | zero => intro u h; omega
  | succ b ih =>
    intro u hu
    by_cases h : u < 10
    · have e : decDigits u = [UInt8.ofNat (48 + u)] := by rw [decDigits, dif_pos h]
      have e0 : at' (decDigits u) 0 = 48 + u := by rw [e]; exact dig_byte h
      have el : (decDigits u).length = 1 := by rw [e]; rfl
      refine ⟨fun i hi => ?_, ?_, by omega, fun h0 => by rw [e0]; omega, fun _ => el⟩
      · obtain rfl : i = 0 := by omega
        rw [e0]; omega
      · rw [el, vl, vl, Nat.zero_add, e0]; omega
    · have e : decDigits u = decDigits (u / 10) ++ [UInt8.ofNat (48 + u % 10)] := by rw [decDigits, dif_neg h]
      obtain ⟨i1, i2, i3, i4, _⟩ := ih (u / 10) (by omega)
      generalize hD : decDigits (u / 10) = D at *
      have el : (decDigits u).length = D.length + 1 := by rw [e]; simp
      have last : at' (decDigits u) D.length = 48 + (u % 10 : Nat) := by rw [e, at_snoc_last]; exact dig_byte (by omega)
      have old : ∀ i, i < D.length → at' (decDigits u) i = at' D i := fun i hi => by rw [e, at_snoc_lt hi]
      refine ⟨fun i hi => ?_, ?_, by omega, fun _ => ?_, fun h0 => by omega⟩
      · by_cases hi2 : i < D.length
        · rw [old i hi2]; exact i1 i hi2
        · obtain rfl : i = D.length := by omega
          rw [last]; omega
      · rw [el, vl, Nat.zero_add, last, vl_congr (z := at' D) (b := 0) D.length (fun i hi => by simpa using old i hi), i2]; omega
      · rw [old 0 (by omega)]; exact i4 (by omega)
end Go.Proofs.Qxb6603265aDoor
