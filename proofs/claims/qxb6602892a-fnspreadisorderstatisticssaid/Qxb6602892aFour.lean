/-
  The walk of FnSpreadIsOrderStatistics (3).
-/
import Derived.Test.Qxb6602892aOrder
namespace Go.Proofs.Qxb6602892a
open Go.RowKit Go.Sort
attribute [local go_sem] run_store_float

theorem same_at {x y : Nat} (h : okey x = okey y) (w : World) : Calls Try.prog 10 #[.float .f64 x, .float .f64 y] w fun e w' => e = .returned (.bool true) ∧ w' = w := by
  have := same_any x y w
  rwa [decide_eq_true h] at this

/-- After k figures of the column: its block H. -/
structure VInv (w : World) (n I : Nat) (F : Nat → Nat → Nat) (k : Nat) (wr : World) : Prop where
  size : wr.heap.size = w.heap.size + 1
  below : RowKit.Below w.heap.size w wr
  row : wr.rowIs w.heap.size 26 n (fun r => if r < k then .float .f64 (F r I) else .float .f64 0)
theorem VInv.start (w : World) (n I : Nat) (F : Nat → Nat → Nat) : VInv w n I F 0 (w.alloc (.cells (madeCells #[.float .f64 0] n) 26)) where
  size := by simp
  below := (RowKit.Below.refl _ _).alloc (Nat.le_refl _) _
  row := (World.rowIs_made w (.float .f64 0) n 26).congr (fun i _ => by simp)
theorem VInv.step {w : World} {n I : Nat} {F : Nat → Nat → Nat} {k : Nat} {wr : World} (h : VInv w n I F k wr) : VInv w n I F (k + 1) (wr.setCell ⟨w.heap.size, k, none⟩ (.float .f64 (F k I))) where
  size := by simp [World.setCell, h.size]
  below := h.below.setCell (show w.heap.size ≤ w.heap.size from Nat.le_refl _) _
  row := (h.row.set k _).congr (fun c _ => by
    by_cases e : c = k
    · subst e; simp
    · rw [if_neg e]
      by_cases hc : c < k
      · rw [if_pos hc, if_pos (by omega)]
      · rw [if_neg hc, if_neg (by omega)])

/-- Behind the spread: the column, and the spread's own block. -/
structure QInv (w : World) (n I : Nat) (F : Nat → Nat → Nat) (H S med lo hi : Nat) (wr : World) : Prop where
  below : RowKit.Below w.heap.size w wr
  col : ∀ r, r < n → wr.cell? ⟨H, r, none⟩ = some (.float .f64 (F r I))
  med : wr.cell? ⟨S, 0, none⟩ = some (.float .f64 med)
  lo : wr.cell? ⟨S, 1, none⟩ = some (.float .f64 lo)
  hi : wr.cell? ⟨S, 2, none⟩ = some (.float .f64 hi)
theorem QInv.drawn {w : World} {n I : Nat} {F : Nat → Nat → Nat} {H S med lo hi : Nat} {wr wv : World} (h : QInv w n I F H S med lo hi wr) (hd : Drawn wr wv) : QInv w n I F H S med lo hi wv :=
  ⟨hd.below h.below, fun r hr => (hd.cell _).trans (h.col r hr), (hd.cell _).trans h.med, (hd.cell _).trans h.lo, (hd.cell _).trans h.hi⟩
theorem QInv.start {w w1 wr w3 : World} {n I : Nat} {F : Nat → Nat → Nat} (hB1 : RowKit.Below w.heap.size w w1) (hV : VInv w1 n I F n wr) (hB : RowKit.Below wr.heap.size wr w3) (med lo hi : Nat) :
    QInv w n I F w1.heap.size w3.heap.size med lo hi (w3.alloc (.cells #[.float .f64 med, .float .f64 lo, .float .f64 hi] 28)) := by
  have hz := hV.size
  have hz1 := hB1.size
  have hX : RowKit.Below wr.heap.size wr (w3.alloc (.cells #[.float .f64 med, .float .f64 lo, .float .f64 hi] 28)) := hB.alloc hB.size _
  have hnew : (w3.alloc (.cells #[.float .f64 med, .float .f64 lo, .float .f64 hi] 28)).heap[w3.heap.size]? = some (.cells #[.float .f64 med, .float .f64 lo, .float .f64 hi] 28 (0, 0)) := by
    show (w3.heap.push _)[w3.heap.size]? = _
    simp
  refine ⟨below_trans (below_trans hB1 hV.below hz1) hX (by omega), fun r hr => ?_, by simp only [World.cell?]; rw [hnew]; rfl, by simp only [World.cell?]; rw [hnew]; rfl, by simp only [World.cell?]; rw [hnew]; rfl⟩
  rw [hX.cell (p := ⟨w1.heap.size, r, none⟩) (show w1.heap.size < wr.heap.size by omega), hV.row.cell hr, if_pos hr]

set_option maxHeartbeats 2000000 in
theorem four_any (b off n cap : Nat) (i : Int) (A : Nat → Option Addr) (B O L C : Nat → Nat) (F : Nat → Nat → Nat) (w : World) (hn : n ≤ 9223372036854775807)
    (hO : ∀ r, r < n → w.cell? ⟨b, off + r, none⟩ = some (.slice (A r) (L r) (C r))) (hA : ∀ r, r < n → 1 ≤ L r → A r = some ⟨B r, O r, none⟩ ∧ B r < w.heap.size)
    (hI : ∀ r c, r < n → c < L r → w.cell? ⟨B r, O r + c, none⟩ = some (.float .f64 (F r c))) (hb : b < w.heap.size) :
    Calls Try.prog 3 #[.slice (some ⟨b, off, none⟩) n cap, .int .i64 i] w fun e w' => e = .returned (.bool true) ∧ RowKit.Below w.heap.size w w' := by
  have HO := hide hO
  have HA := hide hA
  have HI := hide hI
  have HBy := hide (bytes_order b off n cap i A L C w hn hO)
  clear hO hA hI
  go_enter Try.func3, Try.ntmps3
  go_wp2_with fail
  refine HBy.out.mono ?_
  rintro e w' ⟨⟨v, rfl, -⟩, rfl⟩
  clear HBy
  cases v
  · go_wp2
    go_ret
    exact ⟨rfl, RowKit.Below.refl _ _⟩
  by_cases hn2 : n ≤ 4096
  rotate_left
  · go_wp2
    go_ret
    exact ⟨rfl, RowKit.Below.refl _ _⟩
  have HD := hide (domain_any b off n cap i A L C w' hn2 HO.out)
  go_wp2_with fail
  refine HD.out.mono ?_
  rintro e w ⟨⟨v, rfl, hv⟩, rfl⟩
  clear HD
  cases v
  · go_wp2
    go_ret
    exact ⟨rfl, RowKit.Below.refl _ _⟩
  obtain ⟨hn1, hi0, hL⟩ := hv rfl
  clear hv
  obtain ⟨I, rfl⟩ : ∃ I : Nat, i = I := ⟨i.toNat, by omega⟩
  have hL' : ∀ r, r < n → I < L r ∧ L r ≤ 131072 := fun r hr => ⟨by have := (hL r hr).1; omega, (hL r hr).2⟩
  have HL := hide hL'
  have HK := hide (clone_any b off n cap B O L C F w hn2 (fun r hr => ⟨by have := (hL' r hr).1; omega, (hL' r hr).2⟩) (fun r hr => by rw [HO.out r hr, (HA.out r hr (by have := (hL' r hr).1; omega)).1]) HI.out hb (fun r hr => (HA.out r hr (by have := (hL' r hr).1; omega)).2))
  clear hL hL' HO HA HI
  go_wp2_with fail
  refine HK.out.mono ?_
  rintro e w1 ⟨rfl, hC⟩
  have HC := hide hC
  have HS := hide (VInv.start w1 n I F)
  have hm1 := fun W => run_make_row' (P := Try.prog) 25 26 (.float .f64 0) 8 Try.underlying25 info26 rfl .i64 .i64 n (by omega) (by omega) W
  clear HK hC
  go_wp2_with fail
  clear hm1
  go_loopw [7] (fun v wr => ∃ k : Nat, k ≤ n ∧ v = .int .i64 k ∧ Hid (VInv w1 n I F k wr)) (fun v _ => n - (RowKit.intOf v).toNat)
  case atStart => exact ⟨0, Nat.zero_le _, rfl, HS.out⟩
  case round =>
    clear HS
    obtain ⟨k, hk, rfl, HV⟩ := hrel
    by_cases hlt : k < n
    · have hz := HC.out.size
      have h0 : wr.cell? ⟨w.heap.size, k, none⟩ = _ := (HV.out.below.cell (p := ⟨w.heap.size, k, none⟩) (show w.heap.size < w1.heap.size by omega)).trans (HC.out.cells hlt)
      have hLk := HL.out k hlt
      have h1 : wr.cell? ⟨w.heap.size + 1 + k, I, none⟩ = some (.float .f64 (F k I)) := (HV.out.below.cell (p := ⟨w.heap.size + 1 + k, I, none⟩) (show w.heap.size + 1 + k < w1.heap.size by omega)).trans ((HC.out.rows k hlt).cell hLk.1)
      have h2 : wr.cell? ⟨w1.heap.size, k, none⟩ = some (.float .f64 0) := by
        have := HV.out.row.cell hlt
        rwa [if_neg (by omega)] at this
      have h3 : wr.frozen? ⟨w1.heap.size, k, none⟩ = false := HV.out.row.frozen k
      have HN := hide HV.out.step
      clear hz
      go_wp2
      go_roundw
      case rel => exact ⟨k + 1, by omega, by go_num, HN.out⟩
      case measure => simp [RowKit.intOf]; omega
    · obtain rfl : k = n := by omega
      have HZ := hide (zz_any w.heap.size 0 k k (fun r => w.heap.size + 1 + r) (fun _ => 0) L L F I wr hn1 hn2 HL.out
        (fun r hr => by rw [Nat.zero_add]; exact (HV.out.below.cell (p := ⟨w.heap.size, r, none⟩) (show w.heap.size < w1.heap.size by have := HC.out.size; omega)).trans (HC.out.cells hr))
        (fun r c hr hc => by rw [Nat.zero_add]; exact (HV.out.below.cell (p := ⟨w.heap.size + 1 + r, c, none⟩) (show w.heap.size + 1 + r < w1.heap.size by have := HC.out.size; omega)).trans ((HC.out.rows r hr).cell hc))
        (by rw [HV.out.size, HC.out.size]; omega) (fun r hr => by rw [HV.out.size, HC.out.size]; omega))
      go_wp2_with fail
      refine HZ.out.mono ?_
      rintro e w3 ⟨⟨d, med, hp, hs, hmed, rfl⟩, hB2⟩
      have HLo := hide (low_key hn1 hp hs)
      have HHi := hide (high_key hn1 hp hs)
      have HK := hide (fun m (hm : m < k) e (he : KthOk (fun r => F r I) k m e) => kth_key hp hs hm he)
      have HM := hide hmed
      have HQ := hide (QInv.start HC.out.below HV.out hB2 med d[0]! d[k - 1]!)
      clear HZ hp hs hmed HC HV HL
      generalize d[0]! = lo at *
      generalize d[k - 1]! = hi at *
      by_cases hpar : k % 2 = 1
      · go_wp2_with fail
        rw [show (k : Int) / 2 = ((k / 2 : Nat) : Int) by omega]
        refine (kth_any w1.heap.size k k (k / 2) (fun r => F r I) _ hn2 HQ.out.col).mono ?_
        rintro e wv ⟨he, hd⟩
        obtain ⟨x, rfl, hx⟩ := HK.out (k / 2) (by omega) e he
        have HQ2 := hide (HQ.out.drawn hd)
        have HX : Hid (okey med = okey x) := by
          rcases HM.out with ⟨_, e⟩ | ⟨h2, _⟩
          · exact (congrArg okey e).trans hx.symm
          · omega
        clear he hd HK HM hx HQ
        have c0 := HQ2.out.med
        have c1 := HQ2.out.lo
        have c2 := HQ2.out.hi
        go_wp2_with fail
        go_quiet (first | (go_at_call 11; refine Calls.quiet_of_same (least_any _ _ _ _ _ hn1 hn2 (by exact HQ2.out.col))) | (go_at_call 10; refine Calls.quiet_of_same (same_at HLo.out _)))
        go_wp2_with fail
        generalize h5 : wv.drewN nq = w5
        have HQ5 : Hid (QInv w k I F w1.heap.size w3.heap.size med lo hi w5) := h5 ▸ HQ2.out.drawn ⟨nq, rfl⟩
        have c3 := HQ5.out.med
        have c4 := HQ5.out.lo
        have c5 := HQ5.out.hi
        clear h5 HQ2 c0 c1 c2
        go_quiet (first | (go_at_call 12; refine Calls.quiet_of_same (greatest_any _ _ _ _ _ hn1 hn2 (by exact HQ5.out.col))) | (go_at_call 10; refine Calls.quiet_of_same (same_at HHi.out _)))
        go_wp2_with (go_at_call 10; refine (same_at HX.out _).mono ?_; rintro e w' ⟨rfl, rfl⟩)
        go_ret
        exact ⟨rfl, (HQ5.out.drawn ⟨_, rfl⟩).below⟩
      · go_wp2_with fail
        rw [show (k : Int) / 2 - 1 = ((k / 2 - 1 : Nat) : Int) by omega]
        refine (kth_any w1.heap.size k k (k / 2 - 1) (fun r => F r I) _ hn2 HQ.out.col).mono ?_
        rintro e wa ⟨he, hd⟩
        obtain ⟨x, rfl, hx⟩ := HK.out (k / 2 - 1) (by omega) e he
        have HQ1 := hide (HQ.out.drawn hd)
        have HX1 := hide hx
        clear he hd hx HQ
        go_wp2_with fail
        rw [show (k : Int) / 2 = ((k / 2 : Nat) : Int) by omega]
        refine (kth_any w1.heap.size k k (k / 2) (fun r => F r I) _ hn2 HQ1.out.col).mono ?_
        rintro e wv ⟨he, hd⟩
        obtain ⟨y, rfl, hy⟩ := HK.out (k / 2) (by omega) e he
        have HQ2 := hide (HQ1.out.drawn hd)
        obtain ⟨sv, i1, mv, i2, hadd, hdiv, hok⟩ := half_all Try.prog 26 x y
        have HX : Hid (∀ W W', okey med = okey (mv W W')) := fun W W' => by
          rcases HM.out with ⟨h2, _⟩ | ⟨_, s, h3, h4⟩
          · omega
          · exact mean_keys h3 h4 (hok W W').1 (hok W W').2 HX1.out.symm hy.symm
        clear he hd HK HM hy HQ1 HX1 hok
        go_wp2_with fail
        have HX6 := hide (HX.out wv (wv.drewN i1))
        generalize mv wv (wv.drewN i1) = z at HX6 ⊢
        generalize h6 : wv.drewN (i1 + i2) = w6
        have HQ6 : Hid (QInv w k I F w1.heap.size w3.heap.size med lo hi w6) := h6 ▸ HQ2.out.drawn ⟨i1 + i2, rfl⟩
        clear h6 HQ2 HX hadd hdiv
        have c0 := HQ6.out.med
        have c1 := HQ6.out.lo
        have c2 := HQ6.out.hi
        go_wp2_with fail
        go_quiet (first | (go_at_call 11; refine Calls.quiet_of_same (least_any _ _ _ _ _ hn1 hn2 (by exact HQ6.out.col))) | (go_at_call 10; refine Calls.quiet_of_same (same_at HLo.out _)))
        go_wp2_with fail
        generalize h5 : w6.drewN nq = w5
        have HQ5 : Hid (QInv w k I F w1.heap.size w3.heap.size med lo hi w5) := h5 ▸ HQ6.out.drawn ⟨nq, rfl⟩
        have c3 := HQ5.out.med
        have c4 := HQ5.out.lo
        have c5 := HQ5.out.hi
        clear h5 HQ6 c0 c1 c2
        go_quiet (first | (go_at_call 12; refine Calls.quiet_of_same (greatest_any _ _ _ _ _ hn1 hn2 (by exact HQ5.out.col))) | (go_at_call 10; refine Calls.quiet_of_same (same_at HHi.out _)))
        go_wp2_with (go_at_call 10; refine (same_at HX6.out _).mono ?_; rintro e w' ⟨rfl, rfl⟩)
        go_ret
        exact ⟨rfl, (HQ5.out.drawn ⟨_, rfl⟩).below⟩
end Go.Proofs.Qxb6602892a
