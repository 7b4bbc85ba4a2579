/-
  ROUNDING, no Go in sight: the word nearest to a number, by its key: monotone, and exact where the number is a word's.
-/
import Derived.Test.Qxb6602892aFloat
namespace Go.Proofs.Qxb6602892a
open Ieee

/-- n / 2^d to the nearest, between two to the even. -/
def rhe (n d : Nat) : Nat := n / 2 ^ d + (if 2 ^ d < 2 * (n % 2 ^ d) ∨ (2 ^ d = 2 * (n % 2 ^ d) ∧ n / 2 ^ d % 2 = 1) then 1 else 0)

theorem rhe_le (n d : Nat) : n / 2 ^ d ≤ rhe n d ∧ rhe n d ≤ n / 2 ^ d + 1 := by
  unfold rhe; split <;> omega
theorem rhe_mono {n m : Nat} (d : Nat) (h : n ≤ m) : rhe n d ≤ rhe m d := by
  have hq : n / 2 ^ d ≤ m / 2 ^ d := Nat.div_le_div_right h
  rcases Nat.lt_or_eq_of_le hq with hlt | heq
  · have := (rhe_le n d).2; have := (rhe_le m d).1; omega
  · have e1 := Nat.div_add_mod n (2 ^ d)
    have e2 := Nat.div_add_mod m (2 ^ d)
    rw [heq] at e1
    have hr : n % 2 ^ d ≤ m % 2 ^ d := by omega
    unfold rhe
    rw [heq]
    generalize m / 2 ^ d = q at *
    generalize n % 2 ^ d = r at *
    generalize m % 2 ^ d = r' at *
    generalize 2 ^ d = g at *
    split
    · split <;> omega
    · split <;> omega
theorem rhe_mul (n a d : Nat) : rhe (n * 2 ^ a) (d + a) = rhe n d := by
  have hp : 0 < 2 ^ a := Nat.two_pow_pos a
  have e1 : n * 2 ^ a / 2 ^ (d + a) = n / 2 ^ d := by rw [Nat.pow_add, Nat.mul_div_mul_right _ _ hp]
  have e2 : n * 2 ^ a % 2 ^ (d + a) = n % 2 ^ d * 2 ^ a := by rw [Nat.pow_add, Nat.mul_mod_mul_right]
  unfold rhe
  rw [e1, e2, Nat.pow_add]
  have c1 : (2 ^ d * 2 ^ a < 2 * (n % 2 ^ d * 2 ^ a)) ↔ (2 ^ d < 2 * (n % 2 ^ d)) := by
    rw [← Nat.mul_assoc]; exact Nat.mul_lt_mul_right hp
  have c2 : (2 ^ d * 2 ^ a = 2 * (n % 2 ^ d * 2 ^ a)) ↔ (2 ^ d = 2 * (n % 2 ^ d)) := by
    rw [← Nat.mul_assoc]; exact Nat.mul_left_inj (by omega)
  simp only [c1, c2]
theorem rhe_exact (n d : Nat) : rhe (n * 2 ^ d) d = n := by
  have := rhe_mul n d 0
  rw [Nat.zero_add] at this
  rw [this]
  simp [rhe, Nat.mod_one]

theorem lt_log (n : Nat) : n < 2 ^ (n.log2 + 1) := Nat.lt_log2_self
theorem cut_eq (neg : Bool) (n d : Nat) : Toward.even.cut neg n d = rhe n d := by
  unfold Toward.cut rhe
  simp only [Nat.one_shiftLeft]
  by_cases h : d ≤ n.log2 + 2
  · rw [Nat.min_eq_left h]
    generalize 2 ^ d = g
    congr 1
    by_cases c : g < 2 * (n % g) ∨ (g = 2 * (n % g) ∧ n / g % 2 = 1)
    · rw [if_pos c]
      have : (decide (g < 2 * (n % g)) || (g == 2 * (n % g) && n / g % 2 == 1)) = true := by simpa using c
      rw [this]; rfl
    · rw [if_neg c]
      have : (decide (g < 2 * (n % g)) || (g == 2 * (n % g) && n / g % 2 == 1)) = false := by
        rw [Bool.eq_false_iff]; intro h'; exact c (by simpa using h')
      rw [this]; rfl
  · rw [Nat.min_eq_right (by omega)]
    have hn := lt_log n
    have h1 : 2 ^ (n.log2 + 2) = 2 * 2 ^ (n.log2 + 1) := by rw [Nat.pow_succ]; omega
    have h2 : 2 ^ (n.log2 + 3) ≤ 2 ^ d := Nat.pow_le_pow_right (by omega) (by omega)
    have h3 : 2 ^ (n.log2 + 3) = 4 * 2 ^ (n.log2 + 1) := by rw [Nat.pow_succ, Nat.pow_succ]; omega
    have q1 : n / 2 ^ (n.log2 + 2) = 0 := Nat.div_eq_of_lt (by omega)
    have q2 : n / 2 ^ d = 0 := Nat.div_eq_of_lt (by omega)
    have r1 : n % 2 ^ (n.log2 + 2) = n := Nat.mod_eq_of_lt (by omega)
    have r2 : n % 2 ^ d = n := Nat.mod_eq_of_lt (by omega)
    rw [q1, q2, r1, r2, if_neg (by omega)]
    have : (decide (2 ^ (n.log2 + 2) < 2 * n) || (2 ^ (n.log2 + 2) == 2 * n && 0 % 2 == 1)) = false := by
      rw [Bool.eq_false_iff]; intro h'
      simp at h'
      omega
    rw [this]; rfl

/-! ### Rungs -/
def infR : Nat := 2047 * 2 ^ 52
/-- The value of a rung, in units of the least place. -/
def V (r : Nat) : Int := if r < 2 ^ 52 then (r : Int) else if r < infR then ((2 ^ 52 + r % 2 ^ 52 : Nat) : Int) * 2 ^ (r / 2 ^ 52 - 1) else bigI

/-- The rung of N > 0, in units of 2^-D least places. -/
def rung (D N : Nat) : Nat := if N = 0 then 0 else min ((N.log2 - (52 + D)) * 2 ^ 52 + rhe N (D + (N.log2 - (52 + D)))) infR

theorem log_le {n : Nat} (h : n ≠ 0) : 2 ^ n.log2 ≤ n := Nat.log2_self_le h
theorem log_mono {n m : Nat} (h0 : n ≠ 0) (h : n ≤ m) : n.log2 ≤ m.log2 := by
  have h1 := log_le h0
  have h2 := lt_log m
  have h3 : 2 ^ n.log2 < 2 ^ (m.log2 + 1) := by omega
  have := (Nat.pow_lt_pow_iff_right (a := 2) (by omega)).1 h3
  omega

theorem rung_mono (D : Nat) {n m : Nat} (h : n ≤ m) : rung D n ≤ rung D m := by
  unfold rung
  by_cases h0 : n = 0
  · rw [if_pos h0]; exact Nat.zero_le _
  · rw [if_neg h0, if_neg (by omega)]
    have hl := log_mono h0 h
    suffices hh : (n.log2 - (52 + D)) * 2 ^ 52 + rhe n (D + (n.log2 - (52 + D))) ≤ (m.log2 - (52 + D)) * 2 ^ 52 + rhe m (D + (m.log2 - (52 + D))) by
      omega
    by_cases ht : n.log2 - (52 + D) = m.log2 - (52 + D)
    · rw [ht]
      have := rhe_mono (D + (m.log2 - (52 + D))) h
      omega
    · obtain ⟨t, ht1⟩ : ∃ t, t = n.log2 - (52 + D) := ⟨_, rfl⟩
      obtain ⟨u, hu1⟩ : ∃ u, u = m.log2 - (52 + D) := ⟨_, rfl⟩
      rw [← ht1, ← hu1] at ht ⊢
      have htu : t < u := by omega
      have hm : 2 ^ m.log2 ≤ m := log_le (by omega)
      have hml : m.log2 = 52 + (D + u) := by omega
      rw [hml, Nat.pow_add] at hm
      have k1 : 2 ^ 52 ≤ m / 2 ^ (D + u) := (Nat.le_div_iff_mul_le (Nat.two_pow_pos _)).2 hm
      have hn := lt_log n
      have hn2 : 2 ^ (n.log2 + 1) ≤ 2 ^ (53 + (D + t)) := Nat.pow_le_pow_right (by omega) (by omega)
      have hn3 : 2 ^ (53 + (D + t)) = 2 ^ 53 * 2 ^ (D + t) := Nat.pow_add 2 53 (D + t)
      have k2 : n / 2 ^ (D + t) < 2 ^ 53 := (Nat.div_lt_iff_lt_mul (Nat.two_pow_pos _)).2 (by omega)
      have k3 := (rhe_le n (D + t)).2
      have k4 := (rhe_le m (D + u)).1
      omega

theorem log_mul (a k : Nat) (h1 : 2 ^ k ≤ a) (h2 : a < 2 ^ (k + 1)) (d : Nat) : (a * 2 ^ d).log2 = k + d := by
  have hp : 0 < 2 ^ d := Nat.two_pow_pos d
  have ha : a * 2 ^ d ≠ 0 := by
    have : 0 < 2 ^ k := Nat.two_pow_pos k
    exact Nat.mul_ne_zero (by omega) (by omega)
  rw [Nat.log2_eq_iff ha]
  refine ⟨?_, ?_⟩
  · rw [Nat.pow_add]; exact Nat.mul_le_mul_right _ h1
  · rw [show k + d + 1 = (k + 1) + d by omega, Nat.pow_add]; exact Nat.mul_lt_mul_of_pos_right h2 hp

theorem rung_exact (D r : Nat) (hr : r < infR) : ∃ N : Nat, (N : Int) = V r * 2 ^ D ∧ rung D N = r := by
  have hI : infR = 2047 * 2 ^ 52 := rfl
  by_cases hs : r < 2 ^ 52
  · refine ⟨r * 2 ^ D, by unfold V; rw [if_pos hs]; push_cast; rfl, ?_⟩
    unfold rung
    by_cases h0 : r = 0
    · subst h0; simp
    · have hp : 0 < 2 ^ D := Nat.two_pow_pos D
      rw [if_neg (Nat.mul_ne_zero h0 (by omega)), log_mul r r.log2 (log_le h0) (lt_log r)]
      have hl : r.log2 < 52 := by
        have h1 := log_le h0
        exact (Nat.pow_lt_pow_iff_right (a := 2) (by omega)).1 (by omega)
      rw [show r.log2 + D - (52 + D) = 0 by omega, Nat.add_zero, rhe_exact]
      omega
  · obtain ⟨e, he⟩ : ∃ e, e = r / 2 ^ 52 := ⟨_, rfl⟩
    obtain ⟨f, hf⟩ : ∃ f, f = r % 2 ^ 52 := ⟨_, rfl⟩
    have hre : r = e * 2 ^ 52 + f := by omega
    have hf2 : f < 2 ^ 52 := by omega
    have he1 : 1 ≤ e := by omega
    refine ⟨(2 ^ 52 + f) * 2 ^ (e - 1 + D), ?_, ?_⟩
    · unfold V
      rw [if_neg hs, if_pos hr, ← hf, ← he, Int.natCast_mul, Int.natCast_pow, Int.mul_assoc]
      exact congrArg (fun z => ((2 ^ 52 + f : Nat) : Int) * z) (Int.pow_add 2 (e - 1) D)
    · unfold rung
      have hp : 0 < 2 ^ (e - 1 + D) := Nat.two_pow_pos _
      rw [if_neg (Nat.mul_ne_zero (by omega) (by omega)), log_mul (2 ^ 52 + f) 52 (by omega) (by omega)]
      rw [show 52 + (e - 1 + D) - (52 + D) = e - 1 by omega, show D + (e - 1) = e - 1 + D by omega, rhe_exact]
      have : (e - 1) * 2 ^ 52 + (2 ^ 52 + f) = r := by
        rw [hre]
        obtain ⟨e', rfl⟩ : ∃ e', e = e' + 1 := ⟨e - 1, by omega⟩
        rw [Nat.add_sub_cancel, Nat.succ_mul]; omega
      omega

theorem rung_le (D N : Nat) : rung D N ≤ infR := by
  unfold rung; split
  · exact Nat.zero_le _
  · omega

theorem V_nonneg (r : Nat) : 0 ≤ V r := by
  have := big_pos
  unfold V
  split
  · omega
  · split
    · exact Int.mul_nonneg (by omega) (Int.le_of_lt (Int.pow_pos (by decide)))
    · omega
theorem V_lt_big {r : Nat} (h : r < infR) : V r < bigI := by
  have hI : infR = 2047 * 2 ^ 52 := rfl
  unfold V
  split
  · rename_i hs
    have : (2 : Int) ^ 52 < bigI := by unfold bigI; decide +kernel
    have : (r : Int) < 2 ^ 52 := by exact_mod_cast hs
    omega
  · have hu : r / 2 ^ 52 - 1 ≤ 2045 := by omega
    have h4 : (2 : Int) ^ (r / 2 ^ 52 - 1) ≤ 2 ^ 2045 := pow_le _ _ hu
    have h5 : (0 : Int) < 2 ^ (r / 2 ^ 52 - 1) := Int.pow_pos (by decide)
    have h6 : ((2 ^ 52 + r % 2 ^ 52 : Nat) : Int) ≤ 2 ^ 53 := by
      have : 2 ^ 52 + r % 2 ^ 52 ≤ 2 ^ 53 := by omega
      exact_mod_cast this
    have h7 := Int.mul_le_mul h6 h4 (by omega) (by decide)
    have h8 : (2 : Int) ^ 53 * 2 ^ 2045 < bigI := by unfold bigI; decide +kernel
    omega

/-- Rungs and their values rise together. -/
theorem V_mono {r s : Nat} (h : r ≤ s) (hs : s ≤ infR) : V r ≤ V s := by
  rcases Nat.lt_or_eq_of_le hs with hs' | rfl
  · obtain ⟨n, en, rn⟩ := rung_exact 0 r (by omega)
    obtain ⟨m, em, rm⟩ := rung_exact 0 s hs'
    rw [Int.pow_zero, Int.mul_one] at en em
    rw [← en, ← em]
    by_cases hc : n ≤ m
    · omega
    · have := rung_mono 0 (show m ≤ n by omega)
      rw [rn, rm] at this
      have hrs : r = s := by omega
      subst hrs
      omega
  · rcases Nat.lt_or_eq_of_le h with h' | rfl
    · have e : V infR = bigI := by unfold V infR; rw [if_neg (by decide), if_neg (by decide)]
      rw [e]; exact Int.le_of_lt (V_lt_big h')
    · exact Int.le_refl _
theorem V_inf : V infR = bigI := by unfold V infR; rw [if_neg (by decide), if_neg (by decide)]

end Go.Proofs.Qxb6602892a
