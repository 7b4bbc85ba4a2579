/-
  The walk of kthSmallest (9) and of zzBytes (5).
-/
import Derived.Test.Qxb6602892aStat
namespace Go.Proofs.Qxb6602892a
open Go.RowKit

/-- How many of the first j hold. -/
def cnt (p : Nat → Bool) : Nat → Nat
  | 0 => 0
  | j + 1 => cnt p j + (if p j then 1 else 0)
theorem cnt_le (p : Nat → Bool) (j : Nat) : cnt p j ≤ j := by
  induction j with
  | zero => exact Nat.le_refl _
  | succ j ih => unfold cnt; split <;> omega
/-- Place i holds the k-th smallest. -/
def Hit (G : Nat → Nat) (n k i : Nat) : Prop := cnt (fun j => ltF (G j) (G i)) n ≤ k ∧ k < cnt (fun j => !ltF (G i) (G j)) n
/-- What kthSmallest returns. -/
def KthOk (G : Nat → Nat) (n k : Nat) (e : Ending) : Prop := ∃ x, e = .returned (.float .f64 x) ∧ ((∃ i, i < n ∧ x = G i ∧ Hit G n k i) ∨ ∀ i, i < n → ¬ Hit G n k i)
/-- The same world, but for draws. -/
def Drawn (w wr : World) : Prop := ∃ q, wr = w.drewN q
theorem Drawn.refl (w : World) : Drawn w w := ⟨0, rfl⟩
theorem Drawn.more {w wr : World} (h : Drawn w wr) (q : Nat) : Drawn w (wr.drewN q) := by
  obtain ⟨r, rfl⟩ := h
  exact ⟨r + q, by simp⟩
theorem Drawn.cell {w wr : World} (h : Drawn w wr) (a : Addr) : wr.cell? a = w.cell? a := by
  obtain ⟨r, rfl⟩ := h
  rfl
theorem Drawn.below {w wr : World} (h : Drawn w wr) {B : Nat} {v : World} (hb : RowKit.Below B v w) : RowKit.Below B v wr := by
  obtain ⟨r, rfl⟩ := h
  exact ⟨hb.os, hb.tape, hb.output, hb.size, hb.block⟩

theorem ordered_at {x y : Nat} {v : Bool} (h : ltF x y = v) (w : World) : Calls Try.prog 15 #[.float .f64 x, .float .f64 y] w fun e w' => e = .returned (.bool v) ∧ w' = w := by
  rw [← h]; exact ordered_any x y w

set_option maxHeartbeats 2000000 in
theorem kth_any (b n cap k : Nat) (G : Nat → Nat) (w : World) (hn : n ≤ 4096) (hG : ∀ r, r < n → w.cell? ⟨b, r, none⟩ = some (.float .f64 (G r))) :
    Calls Try.prog 9 #[.slice (some ⟨b, 0, none⟩) n cap, .int .i64 k] w fun e w' => KthOk G n k e ∧ Drawn w w' := by
  have HG := hide hG
  clear hG
  go_enter Try.func9, Try.ntmps9
  go_wp2
  go_loopw [5] (fun v wr => ∃ i : Nat, i ≤ n ∧ v = .int .i64 i ∧ Hid (Drawn w wr) ∧ Hid (∀ j, j < i → ¬ Hit G n k j)) (fun v _ => n - (RowKit.intOf v).toNat)
  case atStart => exact ⟨0, Nat.zero_le _, rfl, Drawn.refl w, fun j hj => absurd hj (Nat.not_lt_zero _)⟩
  case round =>
    obtain ⟨i, hi, rfl, HW, HN⟩ := hrel
    by_cases hlt : i < n
    · go_wp2
      go_loopw [6, 7, 8] (fun x y v wr2 => ∃ j : Nat, j ≤ n ∧ v = .int .i64 j ∧ x = .int .i64 (cnt (fun j => ltF (G j) (G i)) j) ∧ y = .int .i64 (cnt (fun j => !ltF (G i) (G j)) j) ∧ Hid (Drawn w wr2)) (fun _ _ v _ => n - (RowKit.intOf v).toNat)
      case atStart => exact ⟨0, Nat.zero_le _, rfl, rfl, rfl, HW.out⟩
      case round =>
        clear HW
        obtain ⟨j, hj, rfl, rfl, rfl, HW⟩ := hrel
        have ci : ∀ v : World, Drawn w v → v.cell? ⟨b, i, none⟩ = some (.float .f64 (G i)) := fun v hv => (hv.cell _).trans (HG.out i hlt)
        have HC := hide ci
        clear ci
        by_cases hlt2 : j < n
        · have c1 := HC.out wr HW.out
          have c2 : wr.cell? ⟨b, j, none⟩ = some (.float .f64 (G j)) := (HW.out.cell _).trans (HG.out j hlt2)
          have hi1 : (i : Int) < n := by omega
          have hj1 : (j : Int) < n := by omega
          have l1 := cnt_le (fun j => ltF (G j) (G i)) j
          have l2 := cnt_le (fun j => !ltF (G i) (G j)) j
          have e1 : cnt (fun j => ltF (G j) (G i)) (j + 1) = cnt (fun j => ltF (G j) (G i)) j + (if ltF (G j) (G i) then 1 else 0) := rfl
          have e2 : cnt (fun j => !ltF (G i) (G j)) (j + 1) = cnt (fun j => !ltF (G i) (G j)) j + (if !ltF (G i) (G j) then 1 else 0) := rfl
          have HE1 := hide e1
          have HE2 := hide e2
          clear e1 e2
          generalize cnt (fun j => ltF (G j) (G i)) j = X at *
          generalize cnt (fun j => !ltF (G i) (G j)) j = Y at *
          cases t1 : ltF (G j) (G i)
          · rw [t1] at HE1
            cases t2 : ltF (G i) (G j)
            · rw [t2] at HE2
              go_wp2_with fail
              go_quiet (first | (go_at_call 15; refine Calls.quiet_of_same (ordered_at t1 _)))
              go_wp2_with fail
              generalize h5 : wr.drewN nq = w5
              have HW5 : Hid (Drawn w w5) := h5 ▸ HW.out.more nq
              have c3 := HC.out w5 HW5.out
              have c4 : w5.cell? ⟨b, j, none⟩ = some (.float .f64 (G j)) := (HW5.out.cell _).trans (HG.out j hlt2)
              clear h5 HW c1 c2
              go_quiet (first | (go_at_call 15; refine Calls.quiet_of_same (ordered_at t2 _)))
              go_wp2
              go_roundw
              case rel => exact ⟨j + 1, by omega, by go_num, by rw [HE1.out]; first | rfl | go_num, by rw [HE2.out]; first | rfl | go_num, HW5.out.more _⟩
              case measure => simp [RowKit.intOf]; omega
            · rw [t2] at HE2
              go_wp2_with fail
              go_quiet (first | (go_at_call 15; refine Calls.quiet_of_same (ordered_at t1 _)))
              go_wp2_with fail
              generalize h5 : wr.drewN nq = w5
              have HW5 : Hid (Drawn w w5) := h5 ▸ HW.out.more nq
              have c3 := HC.out w5 HW5.out
              have c4 : w5.cell? ⟨b, j, none⟩ = some (.float .f64 (G j)) := (HW5.out.cell _).trans (HG.out j hlt2)
              clear h5 HW c1 c2
              go_quiet (first | (go_at_call 15; refine Calls.quiet_of_same (ordered_at t2 _)))
              go_wp2
              go_roundw
              case rel => exact ⟨j + 1, by omega, by go_num, by rw [HE1.out]; first | rfl | go_num, by rw [HE2.out]; first | rfl | go_num, HW5.out.more _⟩
              case measure => simp [RowKit.intOf]; omega
          · rw [t1] at HE1
            cases t2 : ltF (G i) (G j)
            · rw [t2] at HE2
              go_wp2_with fail
              go_quiet (first | (go_at_call 15; refine Calls.quiet_of_same (ordered_at t1 _)))
              go_wp2_with fail
              generalize h5 : wr.drewN nq = w5
              have HW5 : Hid (Drawn w w5) := h5 ▸ HW.out.more nq
              have c3 := HC.out w5 HW5.out
              have c4 : w5.cell? ⟨b, j, none⟩ = some (.float .f64 (G j)) := (HW5.out.cell _).trans (HG.out j hlt2)
              clear h5 HW c1 c2
              go_quiet (first | (go_at_call 15; refine Calls.quiet_of_same (ordered_at t2 _)))
              go_wp2
              go_roundw
              case rel => exact ⟨j + 1, by omega, by go_num, by rw [HE1.out]; first | rfl | go_num, by rw [HE2.out]; first | rfl | go_num, HW5.out.more _⟩
              case measure => simp [RowKit.intOf]; omega
            · rw [t2] at HE2
              go_wp2_with fail
              go_quiet (first | (go_at_call 15; refine Calls.quiet_of_same (ordered_at t1 _)))
              go_wp2_with fail
              generalize h5 : wr.drewN nq = w5
              have HW5 : Hid (Drawn w w5) := h5 ▸ HW.out.more nq
              have c3 := HC.out w5 HW5.out
              have c4 : w5.cell? ⟨b, j, none⟩ = some (.float .f64 (G j)) := (HW5.out.cell _).trans (HG.out j hlt2)
              clear h5 HW c1 c2
              go_quiet (first | (go_at_call 15; refine Calls.quiet_of_same (ordered_at t2 _)))
              go_wp2
              go_roundw
              case rel => exact ⟨j + 1, by omega, by go_num, by rw [HE1.out]; first | rfl | go_num, by rw [HE2.out]; first | rfl | go_num, HW5.out.more _⟩
              case measure => simp [RowKit.intOf]; omega
        · obtain rfl : j = n := by omega
          have c1 := HC.out wr HW.out
          have l1 := cnt_le (fun m => ltF (G m) (G i)) j
          have l2 := cnt_le (fun m => !ltF (G i) (G m)) j
          have HH : Hid (cnt (fun m => ltF (G m) (G i)) j ≤ k ∧ k < cnt (fun m => !ltF (G i) (G m)) j → KthOk G j k (.returned (.float .f64 (G i)))) := fun h => ⟨G i, rfl, Or.inl ⟨i, hlt, rfl, h⟩⟩
          have HX : Hid (¬ (cnt (fun m => ltF (G m) (G i)) j ≤ k ∧ k < cnt (fun m => !ltF (G i) (G m)) j) → ∀ m, m < i + 1 → ¬ Hit G j k m) := fun h m hm => by
            by_cases e : m = i
            · subst e; exact h
            · exact HN.out m (by omega)
          clear HN
          generalize cnt (fun m => ltF (G m) (G i)) j = X at *
          generalize cnt (fun m => !ltF (G i) (G m)) j = Y at *
          by_cases hX : X ≤ k
          · by_cases hY : k < Y
            · have HK := hide (HH.out ⟨hX, hY⟩)
              go_wp2
              go_ret
              exact ⟨HK.out, HW.out⟩
            · have HK := hide (HX.out (fun h => hY h.2))
              go_wp2
              go_roundw
              case rel => exact ⟨i + 1, by omega, by go_num, HW.out, HK.out⟩
              case measure => simp [RowKit.intOf]; omega
          · have HK := hide (HX.out (fun h => hX h.1))
            have hXf : decide ((X : Int) ≤ (k : Int)) = false := decide_eq_false (by omega)
            go_wp2
            go_roundw
            case rel => exact ⟨i + 1, by omega, by go_num, HW.out, HK.out⟩
            case measure => simp [RowKit.intOf]; omega
    · obtain rfl : i = n := by omega
      have HK : Hid (KthOk G i k (.returned (.float .f64 0))) := ⟨0, rfl, Or.inr HN.out⟩
      go_wp2
      go_ret
      exact ⟨HK.out, HW.out⟩

set_option maxHeartbeats 1000000 in
theorem bytes_order (b off n cap : Nat) (i : Int) (A : Nat → Option Addr) (L C : Nat → Nat) (w : World) (hn : n ≤ 9223372036854775807) (hO : ∀ r, r < n → w.cell? ⟨b, off + r, none⟩ = some (.slice (A r) (L r) (C r))) :
    Calls Try.prog 5 #[.slice (some ⟨b, off, none⟩) n cap, .int .i64 i] w fun e w' => RetB e (fun _ => True) ∧ w' = w := by
  have HO := hide hO
  clear hO
  by_cases hb : n ≤ 1048576
  · go_enter Try.func5, Try.ntmps5
    go_wp2
    go_loop [5, 6] (fun z i => ∃ (k : Nat) (X : Int), k ≤ n ∧ i = .int .i64 k ∧ z = .int .i64 X ∧ 0 ≤ X ∧ X ≤ 1048576) (fun _ i => n - (RowKit.intOf i).toNat)
    case atStart => exact ⟨0, n, by omega, rfl, rfl, by omega, by omega⟩
    case round =>
      obtain ⟨k, X, hk, rfl, rfl, h0, h1⟩ := hrel
      by_cases hlt : k < n
      · have hc := HO.out k hlt
        generalize A k = Ak at hc
        generalize C k = Ck at hc
        generalize L k = Lk at hc
        by_cases hL : Lk ≤ 1048576
        · by_cases hX : X + (Lk : Int) ≤ 1048576
          · go_wp2
            go_round
            case rel => exact ⟨k + 1, X + Lk, by omega, by go_num, rfl, by omega, by omega⟩
            case measure => simp [RowKit.intOf]; omega
          · go_wp2
            go_ret
            exact ⟨⟨_, rfl, trivial⟩, rfl⟩
        · go_wp2
          go_ret
          exact ⟨⟨_, rfl, trivial⟩, rfl⟩
      · go_wp2
        go_ret
        exact ⟨⟨_, rfl, trivial⟩, rfl⟩
  · go_enter Try.func5, Try.ntmps5
    go_wp2
    go_ret
    exact ⟨⟨_, rfl, trivial⟩, rfl⟩
end Go.Proofs.Qxb6602892a
