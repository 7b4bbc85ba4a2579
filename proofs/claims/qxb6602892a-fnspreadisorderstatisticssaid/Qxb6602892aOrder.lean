/-
  Order statistics by keys: what kthSmallest, leastOf and greatestOf find is what a sorted row holds. No walk.
-/
import Derived.Test.Qxb6602892aKth
import Derived.Test.Qxb6602892aThree
namespace Go.Proofs.Qxb6602892a
open Go.RowKit Go.Sort

theorem count_ge (q : Nat → Bool) : ∀ (l : List Nat) (m : Nat), m ≤ l.length → (∀ i, i < m → q (l.getD i 0) = true) → m ≤ l.countP q
  | [], m, hm, _ => by simpa using hm
  | x :: l, 0, _, _ => Nat.zero_le _
  | x :: l, m + 1, hm, h => by
    have h0 := h 0 (by omega)
    have ih := count_ge q l m (by simpa using hm) (fun i hi => by simpa using h (i + 1) (by omega))
    rw [List.countP_cons_of_pos (by simpa using h0)]
    omega
theorem count_zero (q : Nat → Bool) : ∀ (l : List Nat), (∀ i, i < l.length → q (l.getD i 0) = false) → l.countP q = 0
  | [], _ => rfl
  | x :: l, h => by
    have h0 := h 0 (by simp)
    rw [List.countP_cons_of_neg (by simpa using h0)]
    exact count_zero q l (fun i hi => by simpa using h (i + 1) (by simpa using hi))
theorem count_le (q : Nat → Bool) : ∀ (l : List Nat) (m : Nat), (∀ i, m ≤ i → i < l.length → q (l.getD i 0) = false) → l.countP q ≤ m
  | [], _, _ => Nat.zero_le _
  | x :: l, 0, h => by rw [count_zero q (x :: l) (fun i hi => h i (Nat.zero_le _) hi)]; exact Nat.le_refl _
  | x :: l, m + 1, h => by
    have ih := count_le q l m (fun i hi hl => by simpa using h (i + 1) (by omega) (by simpa using hl))
    rw [List.countP_cons]
    split <;> omega
theorem cnt_count (q : Nat → Bool) (G : Nat → Nat) (n : Nat) : cnt (fun j => q (G j)) n = ((List.range n).map G).countP q := by
  induction n with
  | zero => rfl
  | succ n ih =>
    show cnt (fun j => q (G j)) n + _ = _
    rw [List.range_succ, List.map_append, List.countP_append, ih]
    simp [List.countP_cons]

/-- A sorted permutation as a list. -/
theorem perm_list {F : Nat → Nat → Nat} {n I : Nat} {d : Array Nat} (hp : PermIn 0 n (colOf F n I) d) : ∃ l : List Nat, l.Perm ((List.range n).map fun r => F r I) ∧ l.length = n ∧ ∀ i, i < n → l.getD i 0 = d[i]! := by
  obtain ⟨h1, h2, h3⟩ := hp
  rw [colOf_size] at h1
  have e1 : (colOf F n I).extract 0 n = colOf F n I := by
    have := Array.extract_size (xs := colOf F n I)
    rwa [colOf_size] at this
  have e2 : d.extract 0 n = d := by rw [← h1, Array.extract_size]
  rw [e1, e2] at h3
  refine ⟨d.toList, ?_, by simpa using h1, fun i hi => ?_⟩
  · have : (colOf F n I).toList = (List.range n).map fun r => F r I := by simp [colOf]
    rwa [this] at h3
  · have : i < d.size := by omega
    simp [this]

section
variable {F : Nat → Nat → Nat} {n I : Nat} {d : Array Nat}

theorem col_in (hp : PermIn 0 n (colOf F n I) d) {r : Nat} (hr : r < n) : ∃ i, i < n ∧ d[i]! = F r I := by
  obtain ⟨l, h1, h2, h3⟩ := perm_list hp
  have hm : F r I ∈ l := h1.mem_iff.2 (List.mem_map.2 ⟨r, by simpa using hr, rfl⟩)
  obtain ⟨i, hi, e⟩ := List.mem_iff_getElem.1 hm
  refine ⟨i, by omega, ?_⟩
  rw [← h3 i (by omega), ← e]
  simp [hi]

theorem hit_key (hp : PermIn 0 n (colOf F n I) d) (hs : SortedIn ltF 0 n d) {k i : Nat} (hk : k < n) (h : Hit (fun r => F r I) n k i) : okey (F i I) = okey d[k]! := by
  obtain ⟨l, h1, h2, h3⟩ := perm_list hp
  obtain ⟨ha, hb⟩ := h
  have c1 := cnt_count (fun y => ltF y (F i I)) (fun r => F r I) n
  have c2 := cnt_count (fun y => !ltF (F i I) y) (fun r => F r I) n
  rw [← h1.countP_eq] at c1 c2
  have hle : ¬ okey d[k]! < okey (F i I) := fun hc => by
    have := count_ge (fun y => ltF y (F i I)) l (k + 1) (by omega) (fun j hj => by
      rw [h3 j (by omega)]
      have := sorted_le hs (show j ≤ k by omega) hk
      simp only [ltF, decide_eq_true_eq]; omega)
    rw [c1] at ha
    omega
  have hge : ¬ okey (F i I) < okey d[k]! := fun hc => by
    have := count_le (fun y => !ltF (F i I) y) l k (fun j hj hl => by
      rw [h3 j (by omega)]
      have := sorted_le hs hj (show j < n by omega)
      simp only [ltF, Bool.not_eq_false', decide_eq_true_eq]; omega)
    rw [c2] at hb
    omega
  omega

theorem hit_any (hp : PermIn 0 n (colOf F n I) d) (hs : SortedIn ltF 0 n d) {k : Nat} (hk : k < n) : ∃ i, i < n ∧ Hit (fun r => F r I) n k i := by
  obtain ⟨i, hi, e⟩ := perm_in hp k hk
  obtain ⟨l, h1, h2, h3⟩ := perm_list hp
  refine ⟨i, hi, ?_, ?_⟩
  · have c1 := cnt_count (fun y => ltF y (F i I)) (fun r => F r I) n
    rw [← h1.countP_eq] at c1
    rw [c1]
    refine count_le _ l k (fun j hj hl => ?_)
    rw [h3 j (by omega), e]
    have := sorted_le hs hj (show j < n by omega)
    simp only [ltF, decide_eq_false_iff_not]; omega
  · have c2 := cnt_count (fun y => !ltF (F i I) y) (fun r => F r I) n
    rw [← h1.countP_eq] at c2
    rw [c2]
    refine count_ge _ l (k + 1) (by omega) (fun j hj => ?_)
    rw [h3 j (by omega), e]
    have := sorted_le hs (show j ≤ k by omega) hk
    simp only [ltF, Bool.not_eq_true', decide_eq_false_iff_not]; omega

/-- What kthSmallest returns bears the key of the sorted row's place k. -/
theorem kth_key (hp : PermIn 0 n (colOf F n I) d) (hs : SortedIn ltF 0 n d) {k : Nat} (hk : k < n) {e : Ending} (h : KthOk (fun r => F r I) n k e) : ∃ x, e = .returned (.float .f64 x) ∧ okey x = okey d[k]! := by
  obtain ⟨x, rfl, ⟨i, hi, rfl, hh⟩ | hno⟩ := h
  · exact ⟨_, rfl, hit_key hp hs hk hh⟩
  · obtain ⟨i, hi, hh⟩ := hit_any hp hs hk
    exact absurd hh (hno i hi)
end

theorem lea_spec (G : Nat → Nat) (k : Nat) : (∃ r, r ≤ k ∧ lea G k = G r) ∧ ∀ j, j ≤ k → okey (lea G k) ≤ okey (G j) := by
  induction k with
  | zero => exact ⟨⟨0, Nat.le_refl _, rfl⟩, fun j hj => by rw [show j = 0 by omega]; exact Int.le_refl _⟩
  | succ k ih =>
    obtain ⟨⟨r, hr, e⟩, hm⟩ := ih
    unfold lea
    cases ht : ltF (G (k + 1)) (lea G k)
    · simp only [ltF, decide_eq_false_iff_not] at ht
      refine ⟨⟨r, by omega, by simpa using e⟩, fun j hj => ?_⟩
      by_cases e2 : j = k + 1
      · subst e2; simp; omega
      · simpa using hm j (by omega)
    · simp only [ltF, decide_eq_true_eq] at ht
      refine ⟨⟨k + 1, by omega, by simp⟩, fun j hj => ?_⟩
      by_cases e2 : j = k + 1
      · subst e2; simp
      · have := hm j (by omega); simp; omega
theorem gre_spec (G : Nat → Nat) (k : Nat) : (∃ r, r ≤ k ∧ gre G k = G r) ∧ ∀ j, j ≤ k → okey (G j) ≤ okey (gre G k) := by
  induction k with
  | zero => exact ⟨⟨0, Nat.le_refl _, rfl⟩, fun j hj => by rw [show j = 0 by omega]; exact Int.le_refl _⟩
  | succ k ih =>
    obtain ⟨⟨r, hr, e⟩, hm⟩ := ih
    unfold gre
    cases ht : ltF (gre G k) (G (k + 1))
    · simp only [ltF, decide_eq_false_iff_not] at ht
      refine ⟨⟨r, by omega, by simpa using e⟩, fun j hj => ?_⟩
      by_cases e2 : j = k + 1
      · subst e2; simp; omega
      · simpa using hm j (by omega)
    · simp only [ltF, decide_eq_true_eq] at ht
      refine ⟨⟨k + 1, by omega, by simp⟩, fun j hj => ?_⟩
      by_cases e2 : j = k + 1
      · subst e2; simp
      · have := hm j (by omega); simp; omega

section
variable {F : Nat → Nat → Nat} {n I : Nat} {d : Array Nat}
theorem low_key (hn : 1 ≤ n) (hp : PermIn 0 n (colOf F n I) d) (hs : SortedIn ltF 0 n d) : okey d[0]! = okey (lea (fun r => F r I) (n - 1)) := by
  obtain ⟨⟨r, hr, e⟩, hm⟩ := lea_spec (fun r => F r I) (n - 1)
  obtain ⟨i, hi, e1⟩ := perm_in hp 0 (by omega)
  obtain ⟨j, hj, e2⟩ := col_in hp (show r < n by omega)
  have h1 := hm i (by omega)
  have h2 := sorted_le hs (Nat.zero_le j) hj
  rw [e2, ← e] at h2
  rw [e1] at h1
  omega
theorem high_key (hn : 1 ≤ n) (hp : PermIn 0 n (colOf F n I) d) (hs : SortedIn ltF 0 n d) : okey d[n - 1]! = okey (gre (fun r => F r I) (n - 1)) := by
  obtain ⟨⟨r, hr, e⟩, hm⟩ := gre_spec (fun r => F r I) (n - 1)
  obtain ⟨i, hi, e1⟩ := perm_in hp (n - 1) (by omega)
  obtain ⟨j, hj, e2⟩ := col_in hp (show r < n by omega)
  have h1 := hm i (by omega)
  have h2 := sorted_le hs (show j ≤ n - 1 by omega) (show n - 1 < n by omega)
  rw [e2, ← e] at h2
  rw [e1] at h1
  omega
end
end Go.Proofs.Qxb6602892a
