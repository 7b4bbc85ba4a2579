/-
  THE MEAN OF TWO WORDS, by keys, no Go in sight: '+' and '/ 2' hang on the keys alone; the mean of two modest words lies between them.
-/
import Derived.Test.Qxb6602892aRound
namespace Go.Proofs.Qxb6602892a
open Ieee

/-- The key of the word nearest to T units of 2^-D least places. -/
def fl (D : Nat) (T : Int) : Int := if T < 0 then -V (rung D T.natAbs) else V (rung D T.natAbs)

theorem V_zero : V 0 = 0 := by unfold V; rw [if_pos (by decide)]; rfl
theorem rung_zero (D : Nat) : rung D 0 = 0 := by unfold rung; rw [if_pos rfl]
theorem fl_mono (D : Nat) {S T : Int} (h : S ≤ T) : fl D S ≤ fl D T := by
  unfold fl
  have v1 := V_nonneg (rung D S.natAbs)
  have v2 := V_nonneg (rung D T.natAbs)
  split
  · split
    · have := V_mono (rung_mono D (show T.natAbs ≤ S.natAbs by omega)) (rung_le D S.natAbs)
      omega
    · omega
  · split
    · omega
    · exact V_mono (rung_mono D (show S.natAbs ≤ T.natAbs by omega)) (rung_le D T.natAbs)
theorem fl_exact (D r : Nat) (hr : r < infR) : fl D (V r * 2 ^ D) = V r ∧ fl D (-(V r * 2 ^ D)) = -V r := by
  obtain ⟨N, e, hN⟩ := rung_exact D r hr
  rw [← e]
  unfold fl
  rw [if_neg (by omega), Int.natAbs_natCast, hN]
  refine ⟨rfl, ?_⟩
  by_cases h0 : N = 0
  · subst h0
    rw [rung_zero] at hN
    subst hN
    simp [rung_zero, V_zero]
  · rw [if_pos (by omega), Int.natAbs_neg, Int.natAbs_natCast, hN]

theorem leastP : double.leastPlace = -1074 := by decide
theorem word_key (neg : Bool) (r : Nat) (hr : r ≤ infR) : okey (double.word neg r) = if neg then -V r else V r := by
  have hI : infR = 2047 * 2 ^ 52 := rfl
  have hs : double.signWeight = 2 ^ 63 := rfl
  have hb : double.binade = 2 ^ 52 := rfl
  have hi : double.infRung = 2047 * 2 ^ 52 := by decide
  have e1 : double.word neg r % 2 ^ 63 = r := by
    unfold Format.word; rw [hs]; cases neg <;> simp <;> omega
  have e2 : (double.word neg r / 2 ^ 63 % 2 == 1) = neg := by
    unfold Format.word; rw [hs]
    cases neg
    · simp; omega
    · simp; omega
  unfold okey Format.read
  simp only [hs, hb, hi, e1, e2]
  by_cases h1 : r < 2 ^ 52
  · rw [if_pos h1]
    show signed neg r (double.leastPlace - double.leastPlace).toNat = _
    rw [signed_eq, Int.sub_self]
    unfold V
    rw [if_pos h1]
    cases neg <;> simp
  · rw [if_neg h1]
    by_cases h2 : r < 2047 * 2 ^ 52
    · rw [if_pos h2]
      show signed neg (2 ^ 52 + r % 2 ^ 52) (double.leastPlace + ((r / 2 ^ 52 - 1 : Nat) : Int) - double.leastPlace).toNat = _
      rw [signed_eq, show (double.leastPlace + ((r / 2 ^ 52 - 1 : Nat) : Int) - double.leastPlace).toNat = r / 2 ^ 52 - 1 by omega]
      have hV : V r = ((2 ^ 52 + r % 2 ^ 52 : Nat) : Int) * 2 ^ (r / 2 ^ 52 - 1) := by
        unfold V; rw [if_neg h1, if_pos (by rw [hI]; exact h2)]
      rw [hV]
      cases neg
      · rw [if_neg (by decide), if_neg (by decide), Int.one_mul]
      · rw [if_pos rfl, if_pos rfl, Int.neg_mul, Int.one_mul]
    · rw [if_neg h2, if_pos (by omega)]
      obtain rfl : r = infR := by omega
      rw [V_inf]
      rfl

/-- A word's key, off its rung. -/
theorem key_rung (x : Nat) (h : isN x = false) : ∃ (neg : Bool) (r : Nat), r ≤ infR ∧ okey x = if neg then -V r else V r := by
  have hI : infR = 2047 * 2 ^ 52 := rfl
  have hs : double.signWeight = 2 ^ 63 := rfl
  have hb : double.binade = 2 ^ 52 := rfl
  have hi : double.infRung = 2047 * 2 ^ 52 := by decide
  refine ⟨x / 2 ^ 63 % 2 == 1, x % 2 ^ 63, ?_, ?_⟩
  · unfold isN Format.read at h
    simp only [hs, hb, hi] at h
    by_cases h1 : x % 2 ^ 63 ≤ infR
    · exact h1
    · rw [if_neg (by omega), if_neg (by omega), if_neg (by omega)] at h
      cases h
  · have hr : x % 2 ^ 63 ≤ infR := by
      unfold isN Format.read at h
      simp only [hs, hb, hi] at h
      by_cases h1 : x % 2 ^ 63 ≤ infR
      · exact h1
      · rw [if_neg (by omega), if_neg (by omega), if_neg (by omega)] at h
        cases h
    rw [← word_key _ _ hr]
    unfold okey
    congr 1
    have e1 : double.word (x / 2 ^ 63 % 2 == 1) (x % 2 ^ 63) % 2 ^ 63 = x % 2 ^ 63 := by
      unfold Format.word; rw [hs]; split <;> omega
    have e2 : (double.word (x / 2 ^ 63 % 2 == 1) (x % 2 ^ 63) / 2 ^ 63 % 2 == 1) = (x / 2 ^ 63 % 2 == 1) := by
      cases hq : (x / 2 ^ 63 % 2 == 1)
      · unfold Format.word
        first | (simp; done) | (simp; omega)
      · unfold Format.word; rw [hs]
        first | (simp; done) | (simp; omega)
    unfold Format.read
    simp only [hs, hb, hi, e1, e2]

theorem nearest_key (neg : Bool) (mag : Nat) (place : Int) (D : Nat) (h : double.leastPlace - D ≤ place) :
    okey (double.nearest neg mag place) = if neg then -V (rung D (mag * 2 ^ (place - (double.leastPlace - D)).toNat)) else V (rung D (mag * 2 ^ (place - (double.leastPlace - D)).toNat)) := by
  have hi : double.infRung = infR := by decide
  have hb : double.binade = 2 ^ 52 := rfl
  have hf : (double.fractionBits : Int) = 52 := rfl
  unfold Format.nearest
  by_cases h0 : mag = 0
  · subst h0
    rw [if_pos rfl, Nat.zero_mul, rung_zero, word_key neg 0 (Nat.zero_le _)]
  · rw [if_neg h0]
    simp only [hf, hb, hi, cut_eq, Nat.shiftLeft_eq]
    obtain ⟨u, hu⟩ : ∃ u, u = (place - (double.leastPlace - D)).toNat := ⟨_, rfl⟩
    obtain ⟨last, hl⟩ : ∃ last, last = max (place + (mag.log2 : Int) - 52) double.leastPlace := ⟨_, rfl⟩
    rw [← hu, ← hl]
    have hN : mag * 2 ^ u ≠ 0 := Nat.mul_ne_zero h0 (by have := Nat.two_pow_pos u; omega)
    have hlog : (mag * 2 ^ u).log2 = mag.log2 + u := log_mul mag mag.log2 (log_le h0) (lt_log mag) u
    have ht : (mag * 2 ^ u).log2 - (52 + D) = (last - double.leastPlace).toNat := by rw [hlog]; omega
    have hk : rhe (mag * 2 ^ (place - last).toNat) (last - place).toNat = rhe (mag * 2 ^ u) (D + (last - double.leastPlace).toNat) := by
      by_cases hp : last ≤ place
      · have e1 : (last - place).toNat = 0 := by omega
        have e2 : u = (place - last).toNat + (D + (last - double.leastPlace).toNat) := by omega
        have e3 := rhe_mul (mag * 2 ^ (place - last).toNat) (D + (last - double.leastPlace).toNat) 0
        rw [Nat.zero_add, Nat.mul_assoc, ← Nat.pow_add, ← e2] at e3
        rw [e1, e3]
      · have e1 : (place - last).toNat = 0 := by omega
        have e2 : D + (last - double.leastPlace).toNat = (last - place).toNat + u := by omega
        rw [e1, e2, Nat.pow_zero, Nat.mul_one, rhe_mul]
    have hr : min ((last - double.leastPlace).toNat * 2 ^ 52 + rhe (mag * 2 ^ (place - last).toNat) (last - place).toNat) infR = rung D (mag * 2 ^ u) := by
      unfold rung
      rw [if_neg hN, ht, hk]
    rw [hr, word_key neg _ (rung_le _ _)]

theorem write_num (s : Bool) (m : Nat) (p : Int) (D : Nat) (h : double.leastPlace - D ≤ p) : okey (double.write (.number s m p)) = fl D (signed s m (p - (double.leastPlace - D)).toNat) := by
  show okey (double.nearest s m p) = _
  rw [nearest_key s m p D h]
  generalize (p - (double.leastPlace - D)).toNat = u
  have e : ((m * 2 ^ u : Nat) : Int) = (m : Int) * 2 ^ u := by rw [Int.natCast_mul, Int.natCast_pow]; rfl
  rw [signed_eq, ← e]
  generalize m * 2 ^ u = N
  unfold fl
  cases s
  · simp
    intro h; omega
  · simp
    by_cases h0 : N = 0
    · subst h0; simp [rung_zero, V_zero]
    · intro h; exact absurd h h0

theorem add_fin {a b : Nat} {s t : Bool} {m n : Nat} {i j : Int} (ha : double.read a = .number s m i) (hb : double.read b = .number t n j) : ∃ c, double.add a b = some c ∧ okey c = fl 0 (okey a + okey b) := by
  have fa := read_fin a; rw [ha] at fa
  have fb := read_fin b; rw [hb] at fb
  have hi := fa.2.1
  have hj := fb.2.1
  have ka : okey a = signed s m (i - double.leastPlace).toNat := by unfold okey; rw [ha]; rfl
  have kb : okey b = signed t n (j - double.leastPlace).toNat := by unfold okey; rw [hb]; rfl
  obtain ⟨T, hT⟩ : ∃ T, T = signed s m (i - min i j).toNat + signed t n (j - min i j).toNat := ⟨_, rfl⟩
  refine ⟨double.write (.number (if T = 0 then s && t else decide (T < 0)) T.natAbs (min i j)), ?_, ?_⟩
  · unfold Format.add
    rw [ha, hb, hT]
    rfl
  · rw [write_num _ _ _ 0 (by omega)]
    have e1 : (i - double.leastPlace).toNat = (i - min i j).toNat + (min i j - double.leastPlace).toNat := by omega
    have e2 : (j - double.leastPlace).toNat = (j - min i j).toNat + (min i j - double.leastPlace).toNat := by omega
    rw [ka, kb, e1, e2, signed_add, signed_add, ← Int.add_mul, ← hT]
    congr 1
    rw [show (min i j - (double.leastPlace - ((0 : Nat) : Int))).toNat = (min i j - double.leastPlace).toNat by omega, signed_eq]
    generalize (2 : Int) ^ (min i j - double.leastPlace).toNat = g
    by_cases h0 : T = 0
    · rw [h0]; simp
    · rw [if_neg h0]
      by_cases h1 : T < 0
      · simp only [h1, decide_true, if_true]
        rw [show ((T.natAbs : Nat) : Int) = -T by omega, Int.neg_mul, Int.neg_mul, Int.one_mul, Int.neg_neg]
      · simp only [h1, decide_false, Bool.false_eq_true, if_false]
        rw [show ((T.natAbs : Nat) : Int) = T by omega, Int.one_mul]

theorem read_two : double.read 4611686018427387904 = .number false 4503599627370496 (-51) := by decide +kernel

theorem half_fin {c : Nat} {s : Bool} {m : Nat} {i : Int} (hc : double.read c = .number s m i) : ∃ q, double.div c 4611686018427387904 = some q ∧ okey q = fl 60 (okey c * 2 ^ 59) := by
  have fc := read_fin c; rw [hc] at fc
  have hi := fc.2.1
  have hm := fc.1
  have kc : okey c = signed s m (i - double.leastPlace).toNat := by unfold okey; rw [hc]; rfl
  have hlog : m.log2 ≤ 52 := by
    by_cases h0 : m = 0
    · subst h0; decide
    · have h1 := log_le h0
      have := (Nat.pow_lt_pow_iff_right (a := 2) (n := m.log2) (m := 53) (by omega)).1 (by omega)
      omega
  have l2 : Nat.log2 4503599627370496 = 52 := by decide +kernel
  obtain ⟨more, hmore⟩ : ∃ more, more = 54 + 52 - m.log2 := ⟨_, rfl⟩
  have hmm : m <<< more = m * 2 ^ (more - 52) * 4503599627370496 := by
    rw [Nat.shiftLeft_eq, Nat.mul_assoc, show (4503599627370496 : Nat) = 2 ^ 52 by decide, ← Nat.pow_add, show more - 52 + 52 = more by omega]
  refine ⟨double.write (.number s (2 * (m * 2 ^ (more - 52))) (i + 51 - more - 1)), ?_, ?_⟩
  · unfold Format.div
    rw [hc, read_two]
    show (Datum.quotient 54 (.number s m i) (.number false 4503599627370496 (-51))).map double.write = _
    have e : i - -51 - (more : Int) - 1 = i + 51 - more - 1 := by omega
    have q1 : m <<< more / 4503599627370496 = m * 2 ^ (more - 52) := by rw [hmm]; exact Nat.mul_div_cancel _ (by decide)
    have q2 : m <<< more % 4503599627370496 = 0 := by rw [hmm]; exact Nat.mul_mod_left _ _
    have : Datum.quotient 54 (.number s m i) (.number false 4503599627370496 (-51)) = some (.number s (2 * (m * 2 ^ (more - 52))) (i + 51 - more - 1)) := by
      unfold Datum.quotient
      simp only [l2, ← hmore, q1, q2, e]
      rw [if_neg (by decide)]
      simp
    rw [this]; rfl
  · rw [write_num _ _ _ 60 (by omega), kc]
    congr 1
    have e1 : signed s (2 * (m * 2 ^ (more - 52))) (i + 51 - more - 1 - (double.leastPlace - ((60 : Nat) : Int))).toNat = signed s m ((more - 51) + (i + 51 - more - 1 - (double.leastPlace - ((60 : Nat) : Int))).toNat) := by
      rw [signed_eq, signed_eq, Int.pow_add]
      have : ((2 * (m * 2 ^ (more - 52)) : Nat) : Int) = (m : Int) * 2 ^ (more - 51) := by
        rw [show more - 51 = (more - 52) + 1 by omega, Int.pow_succ, Int.natCast_mul, Int.natCast_mul, Int.natCast_pow]
        generalize (2 : Int) ^ (more - 52) = g
        show (2 : Int) * ((m : Int) * g) = (m : Int) * (g * 2)
        rw [Int.mul_comm g 2, Int.mul_left_comm]
      rw [this, Int.mul_assoc]
    rw [e1, show (more - 51) + (i + 51 - more - 1 - (double.leastPlace - ((60 : Nat) : Int))).toNat = (i - double.leastPlace).toNat + 59 by omega, signed_add]

end Go.Proofs.Qxb6602892a
