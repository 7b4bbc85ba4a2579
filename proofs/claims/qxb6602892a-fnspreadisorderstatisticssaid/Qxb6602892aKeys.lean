/-
  '+' and '/ 2' hang on the keys alone; the mean of two modest words lies between them.
-/
import Derived.Test.Qxb6602892aArith
import Derived.Test.Qxb6602892aMean
namespace Go.Proofs.Qxb6602892a
open Ieee

/-- A sum's key. -/
def addK (x y : Int) : Int :=
  if x = -bigI - 1 ∨ y = -bigI - 1 then -bigI - 1
  else if x = bigI then (if y = -bigI then -bigI - 1 else bigI)
  else if x = -bigI then (if y = bigI then -bigI - 1 else -bigI)
  else if y = bigI then bigI else if y = -bigI then -bigI else fl 0 (x + y)
/-- A half's key. -/
def halfK (x : Int) : Int := if x = -bigI - 1 ∨ x = bigI ∨ x = -bigI then x else fl 60 (x * 2 ^ 59)

theorem inf_key (s : Bool) : okey (double.write (.infinity s)) = if s then -bigI else bigI := by
  have hi : double.infRung = infR := by decide
  show okey (double.word s double.infRung) = _
  rw [hi, word_key s infR (Nat.le_refl _), V_inf]

theorem addOf_key {a b s : Nat} (h : AddOf a b s) : okey s = addK (okey a) (okey b) := by
  have hB := big_pos
  have fa := read_fin a
  have fb := read_fin b
  cases ea : double.read a with
  | nan x y =>
    have ka : okey a = -bigI - 1 := by unfold okey; rw [ea]; rfl
    have hn : double.add a b = none := by unfold Format.add; rw [ea]; cases double.read b <;> rfl
    rcases h with h | ⟨_, h⟩
    · rw [hn] at h; cases h
    · rw [nan_key h]; unfold addK; rw [if_pos (Or.inl ka)]
  | infinity x =>
    have ka : okey a = if x then -bigI else bigI := by unfold okey; rw [ea]; rfl
    cases eb : double.read b with
    | nan y z =>
      have kb : okey b = -bigI - 1 := by unfold okey; rw [eb]; rfl
      have hn : double.add a b = none := by unfold Format.add; rw [ea, eb]; rfl
      rcases h with h | ⟨_, h⟩
      · rw [hn] at h; cases h
      · rw [nan_key h]; unfold addK; rw [if_pos (Or.inr kb)]
    | infinity y =>
      have kb : okey b = if y then -bigI else bigI := by unfold okey; rw [eb]; rfl
      have hs : double.add a b = if x = y then some (double.write (.infinity x)) else none := by
        unfold Format.add; rw [ea, eb]; cases x <;> cases y <;> rfl
      unfold addK
      rw [ka, kb]
      cases x <;> cases y
      · rcases h with h | ⟨h, _⟩
        · rw [hs, if_pos rfl] at h; rw [← Option.some.inj h, inf_key]
          simp; omega
        · rw [hs, if_pos rfl] at h; cases h
      · rcases h with h | ⟨_, h⟩
        · rw [hs, if_neg (by decide)] at h; cases h
        · rw [nan_key h]; simp
      · rcases h with h | ⟨_, h⟩
        · rw [hs, if_neg (by decide)] at h; cases h
        · rw [nan_key h]; simp; omega
      · rcases h with h | ⟨h, _⟩
        · rw [hs, if_pos rfl] at h; rw [← Option.some.inj h, inf_key]
          simp; omega
        · rw [hs, if_pos rfl] at h; cases h
    | number t n j =>
      have kb : okey b = dkey (.number t n j) := by unfold okey; rw [eb]
      rw [eb] at fb
      have hl := num_lt fb
      rw [← kb] at hl
      have hs : double.add a b = some (double.write (.infinity x)) := by unfold Format.add; rw [ea, eb]; rfl
      rcases h with h | ⟨h, _⟩
      · rw [hs] at h; rw [← Option.some.inj h, inf_key]
        unfold addK
        rw [ka]
        cases x
        · rw [if_neg (by decide), if_neg (by omega), if_pos rfl, if_neg (by omega)]
        · rw [if_pos rfl, if_neg (by omega), if_neg (by omega), if_pos rfl, if_neg (by omega)]
      · rw [hs] at h; cases h
  | number u m i =>
    have ka : okey a = dkey (.number u m i) := by unfold okey; rw [ea]
    rw [ea] at fa
    have hla := num_lt fa
    rw [← ka] at hla
    cases eb : double.read b with
    | nan y z =>
      have kb : okey b = -bigI - 1 := by unfold okey; rw [eb]; rfl
      have hn : double.add a b = none := by unfold Format.add; rw [ea, eb]; rfl
      rcases h with h | ⟨_, h⟩
      · rw [hn] at h; cases h
      · rw [nan_key h]; unfold addK; rw [if_pos (Or.inr kb)]
    | infinity y =>
      have kb : okey b = if y then -bigI else bigI := by unfold okey; rw [eb]; rfl
      have hs : double.add a b = some (double.write (.infinity y)) := by unfold Format.add; rw [ea, eb]; rfl
      rcases h with h | ⟨h, _⟩
      · rw [hs] at h; rw [← Option.some.inj h, inf_key]
        unfold addK
        rw [kb]
        cases y
        · rw [if_neg (by decide), if_neg (by omega), if_neg (by omega), if_neg (by omega), if_pos rfl]
        · rw [if_pos rfl, if_neg (by omega), if_neg (by omega), if_neg (by omega), if_neg (by omega), if_pos rfl]
      · rw [hs] at h; cases h
    | number t n j =>
      have kb : okey b = dkey (.number t n j) := by unfold okey; rw [eb]
      rw [eb] at fb
      have hlb := num_lt fb
      rw [← kb] at hlb
      obtain ⟨c, hc, kc⟩ := add_fin ea eb
      rcases h with h | ⟨h, _⟩
      · rw [hc] at h
        rw [← Option.some.inj h, kc]
        unfold addK
        rw [if_neg (by omega), if_neg (by omega), if_neg (by omega), if_neg (by omega), if_neg (by omega)]
      · rw [hc] at h; cases h

theorem halfOf_key {s m : Nat} (h : HalfOf s m) : okey m = halfK (okey s) := by
  have hB := big_pos
  have fs := read_fin s
  cases es : double.read s with
  | nan x y =>
    have ks : okey s = -bigI - 1 := by unfold okey; rw [es]; rfl
    have hn : double.div s two64 = none := div_nan (by unfold isN; rw [es]; rfl)
    rcases h with h | ⟨_, h⟩
    · rw [hn] at h; cases h
    · rw [nan_key h, ks]; unfold halfK; rw [if_pos (Or.inl rfl)]
  | infinity x =>
    have ks : okey s = if x then -bigI else bigI := by unfold okey; rw [es]; rfl
    have hs : double.div s two64 = some (double.write (.infinity x)) := by
      unfold Format.div; rw [es, read_two]; cases x <;> rfl
    rcases h with h | ⟨h, _⟩
    · rw [hs] at h; rw [← Option.some.inj h, inf_key, ks]
      unfold halfK
      cases x
      · rw [if_neg (by decide), if_pos (Or.inr (Or.inl rfl))]
      · rw [if_pos rfl, if_pos (Or.inr (Or.inr rfl))]
    · rw [hs] at h; cases h
  | number u n i =>
    have ks : okey s = dkey (.number u n i) := by unfold okey; rw [es]
    rw [es] at fs
    have hl := num_lt fs
    rw [← ks] at hl
    obtain ⟨q, hq, kq⟩ := half_fin es
    rcases h with h | ⟨h, _⟩
    · rw [hq] at h
      rw [← Option.some.inj h, kq]
      unfold halfK
      rw [if_neg (by omega)]
    · rw [hq] at h; cases h

/-- A median of an even row hangs on the two keys alone. -/
theorem mean_keys {a b s m a' b' s' m' : Nat} (h1 : AddOf a b s) (h2 : HalfOf s m) (h1' : AddOf a' b' s') (h2' : HalfOf s' m') (ha : okey a = okey a') (hb : okey b = okey b') : okey m = okey m' := by
  rw [halfOf_key h2, halfOf_key h2', addOf_key h1, addOf_key h1', ha, hb]

/-! ### Modest words -/
/-- The rung of 8e307. -/
def r8 : Nat := 9213374311785329715
theorem r8_lt : r8 + 2 ^ 52 < infR := by decide +kernel
theorem V_strict {r s : Nat} (h : r < s) (hs : s ≤ infR) : V r < V s := by
  have h1 := V_mono (Nat.le_of_lt h) hs
  by_cases he : V r = V s
  · rcases Nat.lt_or_eq_of_le hs with hs' | rfl
    · obtain ⟨n, en, rn⟩ := rung_exact 0 r (by omega)
      obtain ⟨m, em, rm⟩ := rung_exact 0 s hs'
      rw [Int.pow_zero, Int.mul_one] at en em
      have : n = m := by omega
      subst this
      omega
    · have := V_lt_big h
      rw [V_inf] at he
      omega
  · omega
theorem key8 : okey 9213374311785329715 = V r8 ∧ okey 18436746348640105523 = -V r8 := by
  have h1 := word_key false r8 (by decide +kernel)
  have h2 := word_key true r8 (by decide +kernel)
  exact ⟨h1, h2⟩
theorem nn8 : isN 9213374311785329715 = false ∧ isN 18436746348640105523 = false := by decide +kernel

theorem dbl (r : Nat) (h : r ≤ r8) : ∃ r2, r2 < infR ∧ V r2 = 2 * V r := by
  have h8 := r8_lt
  have hI : infR = 2047 * 2 ^ 52 := rfl
  by_cases h1 : r < 2 ^ 52
  · refine ⟨2 * r, by omega, ?_⟩
    have e1 : V r = r := by unfold V; rw [if_pos h1]
    rw [e1]
    by_cases h2 : 2 * r < 2 ^ 52
    · unfold V; rw [if_pos h2]; omega
    · unfold V; rw [if_neg h2, if_pos (by omega), show 2 * r / 2 ^ 52 - 1 = 0 by omega, Int.pow_zero, Int.mul_one]
      omega
  · refine ⟨r + 2 ^ 52, by omega, ?_⟩
    have e1 : V r = ((2 ^ 52 + r % 2 ^ 52 : Nat) : Int) * 2 ^ (r / 2 ^ 52 - 1) := by unfold V; rw [if_neg h1, if_pos (by omega)]
    have e2 : V (r + 2 ^ 52) = ((2 ^ 52 + r % 2 ^ 52 : Nat) : Int) * 2 ^ (r / 2 ^ 52 - 1 + 1) := by
      unfold V; rw [if_neg (by omega), if_pos (by omega), show (r + 2 ^ 52) % 2 ^ 52 = r % 2 ^ 52 by omega, show (r + 2 ^ 52) / 2 ^ 52 - 1 = r / 2 ^ 52 - 1 + 1 by omega]
    rw [e1, e2, Int.pow_succ]
    generalize (2 : Int) ^ (r / 2 ^ 52 - 1) = g
    generalize ((2 ^ 52 + r % 2 ^ 52 : Nat) : Int) = z
    rw [Int.mul_comm g 2, Int.mul_left_comm]

/-- A modest key, its double and its half are words' keys. -/
theorem modest_fl {x : Nat} (h0 : isN x = false) (h1 : -V r8 ≤ okey x) (h2 : okey x ≤ V r8) : fl 0 (2 * okey x) = 2 * okey x ∧ fl 60 (2 * okey x * 2 ^ 59) = okey x ∧ 2 * okey x < bigI ∧ -bigI < 2 * okey x := by
  obtain ⟨neg, r, hr, hk⟩ := key_rung x h0
  have hv := V_nonneg r
  have hr8 : r ≤ r8 := by
    by_cases hc : r ≤ r8
    · exact hc
    · have := V_strict (show r8 < r by omega) hr
      cases neg <;> simp at hk <;> omega
  obtain ⟨r2, h3, h4⟩ := dbl r hr8
  have h5 := fl_exact 0 r2 h3
  rw [Int.pow_zero, Int.mul_one] at h5
  have h6 := fl_exact 60 r (by have := r8_lt; omega)
  have h7 := V_lt_big h3
  have e : ∀ z : Int, 2 * z * 2 ^ 59 = z * 2 ^ 60 := fun z => by omega
  cases neg
  · simp at hk
    rw [hk, ← h4]
    refine ⟨h5.1, ?_, h7, by have := V_nonneg r2; have := big_pos; omega⟩
    rw [h4, e]; exact h6.1
  · simp at hk
    rw [hk, show 2 * -V r = -V r2 by omega]
    refine ⟨h5.2, ?_, by have := V_nonneg r2; have := big_pos; omega, by omega⟩
    rw [show -V r2 * 2 ^ 59 = -(V r * 2 ^ 60) by omega]; exact h6.2

/-- The mean of two modest words lies between them. -/
theorem mean_between {a b s m : Nat} (ha : isN a = false) (hb : isN b = false) (hab : okey a ≤ okey b) (h1 : -V r8 ≤ okey a) (h2 : okey b ≤ V r8) (hs : AddOf a b s) (hm : HalfOf s m) :
    okey a ≤ okey m ∧ okey m ≤ okey b ∧ isN m = false := by
  have hB := big_pos
  obtain ⟨a1, a2, a3, a4⟩ := modest_fl ha h1 (by omega)
  obtain ⟨b1, b2, b3, b4⟩ := modest_fl hb (by omega) h2
  have hsum : addK (okey a) (okey b) = fl 0 (okey a + okey b) := by
    unfold addK
    rw [if_neg (by omega), if_neg (by omega), if_neg (by omega), if_neg (by omega), if_neg (by omega)]
  have ks : okey s = fl 0 (okey a + okey b) := by rw [addOf_key hs, hsum]
  have s1 := fl_mono 0 (show 2 * okey a ≤ okey a + okey b by omega)
  have s2 := fl_mono 0 (show okey a + okey b ≤ 2 * okey b by omega)
  rw [a1, ← ks] at s1
  rw [b1, ← ks] at s2
  have km : okey m = fl 60 (okey s * 2 ^ 59) := by
    rw [halfOf_key hm]; unfold halfK; rw [if_neg (by omega)]
  have m1 := fl_mono 60 (show 2 * okey a * 2 ^ 59 ≤ okey s * 2 ^ 59 by omega)
  have m2 := fl_mono 60 (show okey s * 2 ^ 59 ≤ 2 * okey b * 2 ^ 59 by omega)
  rw [a2, ← km] at m1
  rw [b2, ← km] at m2
  refine ⟨m1, m2, ?_⟩
  cases hn : isN m
  · rfl
  · have := nan_key hn; omega
end Go.Proofs.Qxb6602892a
