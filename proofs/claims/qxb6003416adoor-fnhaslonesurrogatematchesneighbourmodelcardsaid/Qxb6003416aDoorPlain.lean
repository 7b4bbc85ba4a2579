/-
  THE PLAIN LAW, no Go in sight: tokens of an escaped text; 'a lone surrogate' by the state machine and by the neighbours' model.
-/
namespace Go.Proofs.Qxb6003416aDoor

/-- A hexadecimal digit. -/
def hexB (c : Int) : Bool := (decide (48 ≤ c) && decide (c ≤ 57)) || (decide (97 ≤ c) && decide (c ≤ 102)) || (decide (65 ≤ c) && decide (c ≤ 70))
/-- Its value. -/
def hexV (c : Int) : Int := if 48 ≤ c ∧ c ≤ 57 then c - 48 else if 97 ≤ c ∧ c ≤ 102 then c - 87 else c - 55
/-- The code unit of four digits. -/
def unit (a b c d : Int) : Int := hexV a * 4096 + hexV b * 256 + hexV c * 16 + hexV d

theorem hexB_iff (c : Int) : hexB c = true ↔ (48 ≤ c ∧ c ≤ 57) ∨ (97 ≤ c ∧ c ≤ 102) ∨ (65 ≤ c ∧ c ≤ 70) := by
  simp [hexB, or_assoc]
theorem hexV_bd {c : Int} (h : hexB c = true) : 0 ≤ hexV c ∧ hexV c ≤ 15 := by
  rw [hexB_iff] at h
  unfold hexV
  split
  · omega
  · split <;> omega
theorem unit_bd {a b c d : Int} (ha : hexB a = true) (hb : hexB b = true) (hc : hexB c = true) (hd : hexB d = true) : 0 ≤ unit a b c d ∧ unit a b c d ≤ 65535 := by
  have := hexV_bd ha; have := hexV_bd hb; have := hexV_bd hc; have := hexV_bd hd
  unfold unit; omega

/-- The tokens of a text whose escapes are whole: an escape's code unit, -1 for any other byte or escape; 'none' where an escape is not whole. -/
def toks : List Int → Option (List Int)
  | [] => some []
  | c :: r =>
    if c = 92 then
      match r with
      | [] => none
      | u :: r2 =>
        if u = 117 then
          match r2 with
          | h0 :: h1 :: h2 :: h3 :: r3 => if hexB h0 && hexB h1 && hexB h2 && hexB h3 then (toks r3).map (unit h0 h1 h2 h3 :: ·) else none
          | _ => none
        else (toks r2).map (-1 :: ·)
    else (toks r).map (-1 :: ·)

theorem toks_cons (c : Int) (r : List Int) : toks (c :: r) =
    if c = 92 then
      match r with
      | [] => none
      | u :: r2 =>
        if u = 117 then
          match r2 with
          | h0 :: h1 :: h2 :: h3 :: r3 => if hexB h0 && hexB h1 && hexB h2 && hexB h3 then (toks r3).map (unit h0 h1 h2 h3 :: ·) else none
          | _ => none
        else (toks r2).map (-1 :: ·)
    else (toks r).map (-1 :: ·) := by
  rw [toks.eq_def]

/-- The numbers x k, .., x (n - 1). -/
def seg (x : Nat → Int) (n k : Nat) : List Int := (List.range' k (n - k)).map x
theorem seg_cons {x : Nat → Int} {n k : Nat} (h : k < n) : seg x n k = x k :: seg x n (k + 1) := by
  unfold seg
  obtain ⟨m, hm⟩ : ∃ m, n - k = m + 1 := ⟨n - k - 1, by omega⟩
  rw [hm, show n - (k + 1) = m by omega, List.range'_succ, List.map_cons]
theorem seg_nil {x : Nat → Int} {n k : Nat} (h : n ≤ k) : seg x n k = [] := by
  unfold seg
  rw [show n - k = 0 by omega]; rfl

/-- The tokens from place k on. -/
def tk (x : Nat → Int) (n k : Nat) : Option (List Int) := toks (seg x n k)
theorem tk_end {x : Nat → Int} {n k : Nat} (h : n ≤ k) : tk x n k = some [] := by
  unfold tk; rw [seg_nil h]; rfl
theorem tk_plain {x : Nat → Int} {n k : Nat} (h : k < n) (hc : x k ≠ 92) : tk x n k = (tk x n (k + 1)).map (-1 :: ·) := by
  unfold tk; rw [seg_cons h, toks_cons, if_neg hc]
theorem tk_cut {x : Nat → Int} {n k : Nat} (h : k < n) (hc : x k = 92) (h1 : n ≤ k + 1) : tk x n k = none := by
  unfold tk; rw [seg_cons h, seg_nil h1, toks_cons, if_pos hc]
theorem tk_esc {x : Nat → Int} {n k : Nat} (h : k + 1 < n) (hc : x k = 92) (hu : x (k + 1) ≠ 117) : tk x n k = (tk x n (k + 2)).map (-1 :: ·) := by
  unfold tk; rw [seg_cons (show k < n by omega), seg_cons (show k + 1 < n by omega), toks_cons, if_pos hc]
  simp only
  rw [if_neg hu]
theorem tk_short {x : Nat → Int} {n k : Nat} (h : k + 1 < n) (hc : x k = 92) (hu : x (k + 1) = 117) (h6 : n < k + 6) : tk x n k = none := by
  unfold tk; rw [seg_cons (show k < n by omega), seg_cons (show k + 1 < n by omega), toks_cons, if_pos hc]
  simp only
  rw [if_pos hu]
  by_cases a2 : k + 1 + 1 < n
  · rw [seg_cons a2]
    by_cases a3 : k + 1 + 1 + 1 < n
    · rw [seg_cons a3]
      by_cases a4 : k + 1 + 1 + 1 + 1 < n
      · rw [seg_cons a4, seg_nil (by omega)]
      · rw [seg_nil (by omega)]
    · rw [seg_nil (by omega)]
  · rw [seg_nil (by omega)]
theorem tk_u {x : Nat → Int} {n k : Nat} (h6 : k + 6 ≤ n) (hc : x k = 92) (hu : x (k + 1) = 117) :
    tk x n k = if hexB (x (k + 2)) && hexB (x (k + 3)) && hexB (x (k + 4)) && hexB (x (k + 5)) then (tk x n (k + 6)).map (unit (x (k + 2)) (x (k + 3)) (x (k + 4)) (x (k + 5)) :: ·) else none := by
  unfold tk
  rw [seg_cons (show k < n by omega), seg_cons (show k + 1 < n by omega), seg_cons (show k + 1 + 1 < n by omega), seg_cons (show k + 1 + 1 + 1 < n by omega), seg_cons (show k + 1 + 1 + 1 + 1 < n by omega), seg_cons (show k + 1 + 1 + 1 + 1 + 1 < n by omega), toks_cons, if_pos hc]
  simp only
  rw [if_pos hu]

/-- One step of a whole text. -/
theorem tk_inv {x : Nat → Int} {n k : Nat} {ts : List Int} (h : tk x n k = some ts) (hk : k < n) :
    (x k ≠ 92 ∧ ∃ t2, ts = -1 :: t2 ∧ tk x n (k + 1) = some t2) ∨
    (x k = 92 ∧ k + 1 < n ∧ x (k + 1) ≠ 117 ∧ ∃ t2, ts = -1 :: t2 ∧ tk x n (k + 2) = some t2) ∨
    (x k = 92 ∧ x (k + 1) = 117 ∧ k + 6 ≤ n ∧ (hexB (x (k + 2)) = true ∧ hexB (x (k + 3)) = true ∧ hexB (x (k + 4)) = true ∧ hexB (x (k + 5)) = true) ∧ ∃ t2, ts = unit (x (k + 2)) (x (k + 3)) (x (k + 4)) (x (k + 5)) :: t2 ∧ tk x n (k + 6) = some t2) := by
  by_cases c : x k = 92
  · by_cases h1 : k + 1 < n
    · by_cases u : x (k + 1) = 117
      · by_cases h6 : k + 6 ≤ n
        · rw [tk_u h6 c u] at h
          split at h
          · rename_i hh
            simp only [Bool.and_eq_true] at hh
            simp only [Option.map_eq_some_iff] at h
            obtain ⟨t2, h2, rfl⟩ := h
            exact Or.inr (Or.inr ⟨c, u, h6, ⟨hh.1.1.1, hh.1.1.2, hh.1.2, hh.2⟩, t2, rfl, h2⟩)
          · cases h
        · rw [tk_short h1 c u (by omega)] at h; cases h
      · rw [tk_esc h1 c u] at h
        simp only [Option.map_eq_some_iff] at h
        obtain ⟨t2, h2, rfl⟩ := h
        exact Or.inr (Or.inl ⟨c, h1, u, t2, rfl, h2⟩)
    · rw [tk_cut hk c (by omega)] at h; cases h
  · rw [tk_plain hk c] at h
    simp only [Option.map_eq_some_iff] at h
    obtain ⟨t2, h2, rfl⟩ := h
    exact Or.inl ⟨c, t2, rfl, h2⟩

/-- No more tokens than bytes. -/
theorem toks_len (l : List Int) : ∀ ts, toks l = some ts → ts.length ≤ l.length := by
  suffices H : ∀ m (l : List Int), l.length ≤ m → ∀ ts, toks l = some ts → ts.length ≤ l.length from H l.length l (Nat.le_refl _)
  intro m
  induction m with
  | zero =>
    intro l hl ts h
    obtain rfl : l = [] := List.eq_nil_of_length_eq_zero (by omega)
    simp [toks] at h; subst h; simp
  | succ m ih =>
    intro l hl ts h
    match l, hl, h with
    | [], _, h => simp [toks] at h; subst h; simp
    | c :: r, hl, h =>
      rw [toks_cons] at h
      split at h
      · split at h
        · cases h
        · split at h
          · split at h
            · split at h
              · simp only [Option.map_eq_some_iff] at h
                obtain ⟨t', ht', rfl⟩ := h
                have := ih _ (by simp at hl; omega) t' ht'
                simp; omega
              · cases h
            · cases h
          · simp only [Option.map_eq_some_iff] at h
            obtain ⟨t', ht', rfl⟩ := h
            have := ih _ (by simp at hl; omega) t' ht'
            simp; omega
      · simp only [Option.map_eq_some_iff] at h
        obtain ⟨t', ht', rfl⟩ := h
        have := ih _ (by simp at hl; omega) t' ht'
        simp; omega

theorem tk_len {x : Nat → Int} {n k : Nat} {ts : List Int} (h : tk x n k = some ts) : ts.length ≤ n - k := by
  have := toks_len _ ts h
  simpa [seg] using this

/-! ### The two readings of 'a lone surrogate' -/
def hiB (u : Int) : Bool := decide (55296 ≤ u) && decide (u < 56320)
def loB (u : Int) : Bool := decide (56320 ≤ u) && decide (u < 57344)

/-- The state machine: h is the high surrogate escaped just before, or 0. -/
def lone : Int → List Int → Bool
  | h, [] => h != 0
  | h, u :: ts => if h != 0 then (if loB u then lone 0 ts else true) else if hiB u then lone u ts else if loB u then true else lone 0 ts

/-- The neighbours' model, from a place on: p is the unit just before (-1 at the start). -/
def model : Int → List Int → Bool
  | _, [] => false
  | p, u :: ts => (hiB u && !loB (ts.headD (-1))) || (loB u && !hiB p) || model u ts

theorem hi_not_lo {u : Int} (h : hiB u = true) : loB u = false := by
  simp [hiB, loB] at *; omega
theorem hi_ne {u : Int} (h : hiB u = true) : (u != 0) = true := by
  simp [hiB] at *; omega
theorem lo_m1 : loB (-1) = false := by decide

theorem lone_model : ∀ (ts : List Int),
    (∀ p, hiB p = false → lone 0 ts = model p ts) ∧ (∀ h, hiB h = true → lone h ts = (!loB (ts.headD (-1)) || model h ts)) := by
  intro ts
  induction ts with
  | nil => exact ⟨fun p _ => rfl, fun h hh => by simp [lone, model, hi_ne hh, lo_m1]⟩
  | cons u ts ih =>
    refine ⟨fun p hp => ?_, fun h hh => ?_⟩
    · rw [lone, model]
      simp only [bne_self_eq_false, Bool.false_eq_true, if_false]
      by_cases a : hiB u = true
      · rw [if_pos a, ih.2 u a, hi_not_lo a, a]; simp
      · have a' : hiB u = false := by simpa using a
        rw [if_neg a, a']
        by_cases b : loB u = true
        · rw [if_pos b, b, hp]; simp
        · have b' : loB u = false := by simpa using b
          rw [if_neg b, b', ih.1 u a']; simp
    · rw [lone, if_pos (hi_ne hh), model, hh]
      simp only [List.headD_cons]
      by_cases b : loB u = true
      · have a' : hiB u = false := by
          cases c : hiB u
          · rfl
          · rw [hi_not_lo c] at b; cases b
        rw [if_pos b, b, a', ih.1 u a']; simp
      · have b' : loB u = false := by simpa using b
        rw [if_neg b, b']; simp

theorem lone_eq (ts : List Int) : lone 0 ts = model (-1) ts := (lone_model ts).1 (-1) (by decide)

end Go.Proofs.Qxb6003416aDoor
