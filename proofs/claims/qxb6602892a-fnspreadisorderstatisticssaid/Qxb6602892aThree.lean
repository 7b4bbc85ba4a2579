/-
  The walk of FnSpreadMedianBetweenLowAndHigh (4).
-/
import Derived.Test.Qxb6602892aZz
import Derived.Test.Qxb6602892aKeys
import Derived.Sort.Lot0
namespace Go.Proofs.Qxb6602892a
open Go.RowKit Go.Sort
attribute [local go_sem] run_store_float

/-- A word that the law lets through. -/
def Mod (x : Nat) : Prop := isN x = false ∧ -V r8 ≤ okey x ∧ okey x ≤ V r8

/-- What the law asks of the spread of a modest column. -/
structure Good (F : Nat → Nat → Nat) (n I lo med hi : Nat) : Prop where
  nlo : isN lo = false
  nhi : isN hi = false
  nmed : isN med = false
  le1 : okey lo ≤ okey med
  le2 : okey med ≤ okey hi
  inLo : ∃ r, r < n ∧ F r I = lo
  inHi : ∃ r, r < n ∧ F r I = hi

theorem perm_in {F : Nat → Nat → Nat} {n I : Nat} {d : Array Nat} (hp : PermIn 0 n (colOf F n I) d) (i : Nat) (hi : i < n) : ∃ r, r < n ∧ F r I = d[i]! :=
  permIn_all (colOf F n I) d 0 n (fun x => ∃ r, r < n ∧ F r I = x) (by rw [colOf_size]; omega) hp (fun j _ hj => ⟨j, hj, (colOf_at F hj).symm⟩) i (Nat.zero_le _) hi

theorem sorted_le {d : Array Nat} {n : Nat} (hs : SortedIn ltF 0 n d) {i j : Nat} (hij : i ≤ j) (hj : j < n) : okey d[i]! ≤ okey d[j]! := by
  rcases Nat.lt_or_eq_of_le hij with h | rfl
  · have := hs i j (Nat.zero_le _) h hj
    simp [ltF] at this
    exact this
  · exact Int.le_refl _

theorem good_of {F : Nat → Nat → Nat} {n I med : Nat} {d : Array Nat} (hn : 1 ≤ n) (hm : ∀ r, r < n → Mod (F r I)) (hp : PermIn 0 n (colOf F n I) d) (hs : SortedIn ltF 0 n d) (hmed : MedOf d n med) :
    Good F n I d[0]! med d[n - 1]! := by
  have hmod : ∀ i, i < n → Mod d[i]! := fun i hi => by
    obtain ⟨r, hr, e⟩ := perm_in hp i hi
    rw [← e]; exact hm r hr
  have key : okey d[0]! ≤ okey med ∧ okey med ≤ okey d[n - 1]! ∧ isN med = false := by
    rcases hmed with ⟨_, rfl⟩ | ⟨h2, s, hadd, hhalf⟩
    · exact ⟨sorted_le hs (Nat.zero_le _) (by omega), sorted_le hs (by omega) (by omega), (hmod _ (by omega)).1⟩
    · have ha := hmod (n / 2 - 1) (by omega)
      have hb := hmod (n / 2) (by omega)
      have h := mean_between ha.1 hb.1 (sorted_le hs (by omega) (by omega)) ha.2.1 hb.2.2 hadd hhalf
      have h3 := sorted_le hs (Nat.zero_le (n / 2 - 1)) (show n / 2 - 1 < n by omega)
      have h4 := sorted_le hs (show n / 2 ≤ n - 1 by omega) (show n - 1 < n by omega)
      exact ⟨by omega, by omega, h.2.2⟩
  exact ⟨(hmod 0 (by omega)).1, (hmod (n - 1) (by omega)).1, key.2.2, key.1, key.2.1, perm_in hp 0 (by omega), perm_in hp (n - 1) (by omega)⟩

theorem mod_of {x : Nat} (h1 : (Ieee.double.order x 18436746348640105523 == some .gt || Ieee.double.order x 18436746348640105523 == some .eq) = true)
    (h2 : (Ieee.double.order x 9213374311785329715 == some .lt || Ieee.double.order x 9213374311785329715 == some .eq) = true) : Mod x := by
  have hx : isN x = false := by
    cases h : isN x
    · rfl
    · rw [order_nan_left _ h] at h1; cases h1
  rw [geq_num hx nn8.2] at h1
  rw [leq_num hx nn8.1] at h2
  have h1 := of_decide_eq_true h1
  have h2 := of_decide_eq_true h2
  rw [key8.2] at h1
  rw [key8.1] at h2
  exact ⟨hx, h1, h2⟩

/-- Behind the spread: the clone, and the spread's own block. -/
structure TInv (w : World) (n : Nat) (L : Nat → Nat) (F : Nat → Nat → Nat) (S lo hi : Nat) (wr : World) : Prop where
  below : RowKit.Below w.heap.size w wr
  outer : ∀ r, r < n → wr.cell? ⟨w.heap.size, r, none⟩ = some (.slice (some ⟨w.heap.size + 1 + r, 0, none⟩) (L r) (L r))
  rows : ∀ r c, r < n → c < L r → wr.cell? ⟨w.heap.size + 1 + r, c, none⟩ = some (.float .f64 (F r c))
  lo : wr.cell? ⟨S, 1, none⟩ = some (.float .f64 lo)
  hi : wr.cell? ⟨S, 2, none⟩ = some (.float .f64 hi)
theorem TInv.drew {w : World} {n : Nat} {L : Nat → Nat} {F : Nat → Nat → Nat} {S lo hi : Nat} {wr : World} (h : TInv w n L F S lo hi wr) (q : Nat) : TInv w n L F S lo hi (wr.drewN q) :=
  ⟨below_drawn h.below q, h.outer, h.rows, h.lo, h.hi⟩

theorem CInv.cells {w : World} {n : Nat} {L : Nat → Nat} {F : Nat → Nat → Nat} {w1 : World} (h : CInv w n L F n w1) {r : Nat} (hr : r < n) : w1.cell? ⟨w.heap.size, r, none⟩ = some (.slice (some ⟨w.heap.size + 1 + r, 0, none⟩) (L r) (L r)) := by
  rw [h.outer.cell hr, if_pos hr]

theorem below_trans {a : Nat} {w w1 w2 : World} (h1 : RowKit.Below a w w1) (h2 : RowKit.Below w1.heap.size w1 w2) (ha : a ≤ w1.heap.size) : RowKit.Below a w w2 :=
  ⟨h2.os.trans h1.os, h2.tape.trans h1.tape, h2.output.trans h1.output, by have := h2.size; have := h1.size; omega, fun k hk => (h2.block k (by omega)).trans (h1.block k hk)⟩
theorem TInv.start {w : World} {n : Nat} {L : Nat → Nat} {F : Nat → Nat → Nat} {w1 w2 : World} (hC : CInv w n L F n w1) (hB : RowKit.Below w1.heap.size w1 w2) (med lo hi : Nat) :
    TInv w n L F w2.heap.size lo hi (w2.alloc (.cells #[.float .f64 med, .float .f64 lo, .float .f64 hi] 28)) := by
  have hz := hC.size
  have hz2 := hB.size
  have hX : RowKit.Below w1.heap.size w1 (w2.alloc (.cells #[.float .f64 med, .float .f64 lo, .float .f64 hi] 28)) := hB.alloc hB.size _
  have hnew : (w2.alloc (.cells #[.float .f64 med, .float .f64 lo, .float .f64 hi] 28)).heap[w2.heap.size]? = some (.cells #[.float .f64 med, .float .f64 lo, .float .f64 hi] 28 (0, 0)) := by
    show (w2.heap.push _)[w2.heap.size]? = _
    simp
  refine ⟨below_trans hC.below hX (by omega), fun r hr => ?_, fun r c hr hc => ?_, by simp only [World.cell?]; rw [hnew]; rfl, by simp only [World.cell?]; rw [hnew]; rfl⟩
  · exact (hX.cell (p := ⟨w.heap.size, r, none⟩) (show w.heap.size < w1.heap.size by omega)).trans (hC.cells hr)
  · exact (hX.cell (p := ⟨w.heap.size + 1 + r, c, none⟩) (show w.heap.size + 1 + r < w1.heap.size by omega)).trans ((hC.rows r hr).cell hc)
theorem found_step {F : Nat → Nat → Nat} {I m lo : Nat} {p : Bool} (h : (∃ r, r < m ∧ F r I = lo) → p = true) (hc : (FloatKind.f64.format.order (F m I) lo == some .eq) = false) (hn : isN lo = false) : (∃ r, r < m + 1 ∧ F r I = lo) → p = true := by
  rintro ⟨r, hr, e⟩
  by_cases h2 : r = m
  · subst h2
    rw [e] at hc
    have := eql_num hn hn
    rw [show Ieee.double.order lo lo = FloatKind.f64.format.order lo lo from rfl, hc] at this
    simp at this
  · exact h ⟨r, by omega, e⟩

set_option maxHeartbeats 2000000 in
theorem three_any (b off n cap : Nat) (i : Int) (A : Nat → Option Addr) (B O L C : Nat → Nat) (F : Nat → Nat → Nat) (w : World) (hn : n ≤ 9223372036854775807)
    (hO : ∀ r, r < n → w.cell? ⟨b, off + r, none⟩ = some (.slice (A r) (L r) (C r))) (hA : ∀ r, r < n → 1 ≤ L r → A r = some ⟨B r, O r, none⟩ ∧ B r < w.heap.size)
    (hI : ∀ r c, r < n → c < L r → w.cell? ⟨B r, O r + c, none⟩ = some (.float .f64 (F r c))) (hb : b < w.heap.size) :
    Calls Try.prog 4 #[.slice (some ⟨b, off, none⟩) n cap, .int .i64 i] w fun e w' => e = .returned (.bool true) ∧ RowKit.Below w.heap.size w w' := by
  have HO := hide hO
  have HA := hide hA
  have HI := hide hI
  have HBy := hide (bytes_median b off n cap i A L C w hn hO)
  clear hO hA hI
  go_enter Try.func4, Try.ntmps4
  go_wp2_with fail
  refine HBy.out.mono ?_
  rintro e w' ⟨⟨v, rfl, -⟩, rfl⟩
  clear HBy
  cases v
  · go_wp2
    go_ret
    exact ⟨rfl, RowKit.Below.refl _ _⟩
  by_cases hn2 : n ≤ 4096
  rotate_left
  · go_wp2
    go_ret
    exact ⟨rfl, RowKit.Below.refl _ _⟩
  have HD := hide (domain_any b off n cap i A L C w' hn2 HO.out)
  go_wp2_with fail
  refine HD.out.mono ?_
  rintro e w ⟨⟨v, rfl, hv⟩, rfl⟩
  clear HD
  cases v
  · go_wp2
    go_ret
    exact ⟨rfl, RowKit.Below.refl _ _⟩
  obtain ⟨hn1, hi0, hL⟩ := hv rfl
  clear hv
  obtain ⟨I, rfl⟩ : ∃ I : Nat, i = I := ⟨i.toNat, by omega⟩
  have hL' : ∀ r, r < n → I < L r ∧ L r ≤ 131072 := fun r hr => ⟨by have := (hL r hr).1; omega, (hL r hr).2⟩
  have HL := hide hL'
  have HK := hide (clone_any b off n cap B O L C F w hn2 (fun r hr => ⟨by have := (hL' r hr).1; omega, (hL' r hr).2⟩) (fun r hr => by rw [HO.out r hr, (HA.out r hr (by have := (hL' r hr).1; omega)).1]) HI.out hb (fun r hr => (HA.out r hr (by have := (hL' r hr).1; omega)).2))
  clear hL hL' HO HA HI
  go_wp2_with fail
  refine HK.out.mono ?_
  rintro e w1 ⟨rfl, hC⟩
  have HC := hide hC
  clear HK hC
  go_wp2_with fail
  go_loop [5] (fun v => ∃ k : Nat, k ≤ n ∧ v = .int .i64 k ∧ Hid (∀ r, r < k → Mod (F r I))) (fun v => n - (RowKit.intOf v).toNat)
  case atStart => exact ⟨0, Nat.zero_le _, rfl, fun r hr => absurd hr (Nat.not_lt_zero _)⟩
  case round =>
    obtain ⟨k, hk, rfl, HM⟩ := hrel
    by_cases hlt : k < n
    · have h0 := HC.out.cells hlt
      have hLk := HL.out k hlt
      have h1 : w1.cell? ⟨w.heap.size + 1 + k, I, none⟩ = some (.float .f64 (F k I)) := (HC.out.rows k hlt).cell hLk.1
      have HX : Hid (∀ x, F k I = x → Mod x → ∀ r, r < k + 1 → Mod (F r I)) := fun x e hx r hr => by
        by_cases hr2 : r = k
        · rw [hr2, e]; exact hx
        · exact HM.out r (by omega)
      obtain ⟨x, hx⟩ : ∃ x, x = F k I := ⟨_, rfl⟩
      rw [← hx] at h1
      have HE := hide hx
      clear hx
      have HM2 := hide (@mod_of x)
      cases t1 : (FloatKind.f64.format.order x 18436746348640105523 == some .gt || FloatKind.f64.format.order x 18436746348640105523 == some .eq)
      · go_wp2
        go_ret
        exact ⟨rfl, HC.out.below⟩
      · cases t2 : (FloatKind.f64.format.order x 9213374311785329715 == some .lt || FloatKind.f64.format.order x 9213374311785329715 == some .eq)
        · go_wp2
          go_ret
          exact ⟨rfl, HC.out.below⟩
        · have HN := hide (HX.out x HE.out.symm (HM2.out t1 t2))
          go_wp2
          go_round
          case rel => exact ⟨k + 1, by omega, by go_num, HN.out⟩
          case measure => simp [RowKit.intOf]; omega
    · obtain rfl : k = n := by omega
      have HZ := hide (zz_any w.heap.size 0 k k (fun r => w.heap.size + 1 + r) (fun _ => 0) L L F I w1 hn1 hn2 HL.out (fun r hr => by rw [Nat.zero_add]; exact HC.out.cells hr)
        (fun r c hr hc => by rw [Nat.zero_add]; exact (HC.out.rows r hr).cell hc) (by rw [HC.out.size]; omega) (fun r hr => by rw [HC.out.size]; omega))
      go_wp2_with fail
      refine HZ.out.mono ?_
      rintro e w2 ⟨⟨d, med, hp, hs, hmed, rfl⟩, hB2⟩
      have hG := good_of hn1 HM.out hp hs hmed
      clear HZ HM hp hs hmed
      generalize d[0]! = lo at *
      generalize d[k - 1]! = hi at *
      have HG := hide hG
      have HB2 := hide hB2
      have hT := TInv.start HC.out hB2 med lo hi
      have HT := hide hT
      have t1 : (FloatKind.f64.format.order lo med == some .lt || FloatKind.f64.format.order lo med == some .eq) = true := by
        show (Ieee.double.order lo med == some .lt || Ieee.double.order lo med == some .eq) = true
        rw [leq_num hG.nlo hG.nmed]; exact decide_eq_true hG.le1
      have t2 : (FloatKind.f64.format.order med hi == some .lt || FloatKind.f64.format.order med hi == some .eq) = true := by
        show (Ieee.double.order med hi == some .lt || Ieee.double.order med hi == some .eq) = true
        rw [leq_num hG.nmed hG.nhi]; exact decide_eq_true hG.le2
      clear hG hB2 hT
      go_wp2_with fail
      clear t1 t2
      go_loopw [8, 9, 10] (fun x y v wr => ∃ (m : Nat) (p q : Bool), m ≤ k ∧ v = .int .i64 m ∧ x = .bool p ∧ y = .bool q ∧ Hid ((∃ r, r < m ∧ F r I = lo) → p = true) ∧ Hid ((∃ r, r < m ∧ F r I = hi) → q = true) ∧ Hid (TInv w k L F w2.heap.size lo hi wr)) (fun _ _ v _ => k - (RowKit.intOf v).toNat)
      case atStart => exact ⟨0, false, false, Nat.zero_le _, rfl, rfl, rfl, fun ⟨r, hr, _⟩ => absurd hr (Nat.not_lt_zero _), fun ⟨r, hr, _⟩ => absurd hr (Nat.not_lt_zero _), HT.out⟩
      case round =>
        clear HT
        obtain ⟨m, p, q, hm, rfl, rfl, rfl, HP, HQ, HT⟩ := hrel
        by_cases hlt2 : m < k
        · have h0 := HT.out.outer m hlt2
          have hLm := HL.out m hlt2
          have h1 := HT.out.rows m I hlt2 hLm.1
          have h2 := HT.out.lo
          have h3 := HT.out.hi
          have HN1 := hide (fun h => found_step HP.out h HG.out.nlo)
          have HN2 := hide (fun h => found_step HQ.out h HG.out.nhi)
          generalize F m I = x at *
          cases c1 : (FloatKind.f64.format.order x lo == some .eq)
          · have HN3 := hide (HN1.out c1)
            cases c2 : (FloatKind.f64.format.order x hi == some .eq)
            · have HN4 := hide (HN2.out c2)
              go_wp2_with fail
              go_region
              go_wp2_with fail
              go_region
              go_wp2
              go_roundw
              case rel => exact ⟨m + 1, p, q, by omega, by go_num, rfl, rfl, HN3.out, HN4.out, HT.out.drew 2⟩
              case measure => simp [RowKit.intOf]; omega
            · go_wp2_with fail
              go_region
              go_wp2_with fail
              go_region
              go_wp2
              go_roundw
              case rel => exact ⟨m + 1, p, true, by omega, by go_num, rfl, rfl, HN3.out, fun _ => rfl, HT.out.drew 2⟩
              case measure => simp [RowKit.intOf]; omega
          · cases c2 : (FloatKind.f64.format.order x hi == some .eq)
            · have HN4 := hide (HN2.out c2)
              go_wp2_with fail
              go_region
              go_wp2_with fail
              go_region
              go_wp2
              go_roundw
              case rel => exact ⟨m + 1, true, q, by omega, by go_num, rfl, rfl, fun _ => rfl, HN4.out, HT.out.drew 2⟩
              case measure => simp [RowKit.intOf]; omega
            · go_wp2_with fail
              go_region
              go_wp2_with fail
              go_region
              go_wp2
              go_roundw
              case rel => exact ⟨m + 1, true, true, by omega, by go_num, rfl, rfl, fun _ => rfl, fun _ => rfl, HT.out.drew 2⟩
              case measure => simp [RowKit.intOf]; omega
        · obtain rfl : m = k := by omega
          obtain rfl := HP.out HG.out.inLo
          obtain rfl := HQ.out HG.out.inHi
          go_wp2
          go_ret
          exact ⟨rfl, HT.out.below⟩
end Go.Proofs.Qxb6602892a
