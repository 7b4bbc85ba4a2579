/-
  The walks of orderedLess (15), sameFloat (10), leastOf (11), greatestOf (12), kthSmallest (9), zzBytes (5).
-/
import Derived.Test.Qxb6602892aSmall
import Derived.Deep.QuietTactic
import Derived.BigQuiet
namespace Go.Proofs.Qxb6602892a
open Go.RowKit

theorem ordered_any (x y : Nat) (w : World) : Calls Try.prog 15 #[.float .f64 x, .float .f64 y] w fun e w' => e = .returned (.bool (ltF x y)) ∧ w' = w := by
  have HL := hide (less_eq x y)
  have hx0 : (FloatKind.f64.format.order x x != some .eq) = isN x := self_ne x
  have hy0 : (FloatKind.f64.format.order y y == some .eq) = !isN y := self_eq y
  cases hx : isN x
  · rw [hx] at hx0
    clear hy0
    go_enter Try.func15, Try.ntmps15
    go_wp2
    go_ret
    exact ⟨ret_bool (by rw [← HL.out, hx]; rfl), rfl⟩
  · rw [hx] at hx0
    cases hy : isN y
    · rw [hy] at hy0
      go_enter Try.func15, Try.ntmps15
      go_wp2
      go_ret
      exact ⟨ret_bool (by rw [← HL.out, hx, hy]; rfl), rfl⟩
    · rw [hy] at hy0
      go_enter Try.func15, Try.ntmps15
      go_wp2
      go_ret
      exact ⟨ret_bool (by rw [← HL.out, hx, hy]; rfl), rfl⟩

theorem same_nan {x y : Nat} (hx : isN x = true) : isN y = decide (okey x = okey y) := by
  have h := nan_iff y
  rw [nan_key hx]
  cases hy : isN y
  · rw [eq_comm, decide_eq_false_iff_not]
    intro e
    rw [h.2 e.symm] at hy
    cases hy
  · rw [eq_comm, decide_eq_true_eq]
    exact (h.1 hy).symm
theorem same_num {x y : Nat} (hx : isN x = false) : (Ieee.double.order x y == some .eq) = decide (okey x = okey y) := by
  cases hy : isN y
  · exact eql_num hx hy
  · rw [order_nan_right x hy, nan_key hy, eq_comm]
    have := num_key hx
    show decide _ = false
    rw [decide_eq_false_iff_not]
    omega

theorem same_any (x y : Nat) (w : World) : Calls Try.prog 10 #[.float .f64 x, .float .f64 y] w fun e w' => e = .returned (.bool (decide (okey x = okey y))) ∧ w' = w := by
  have hx0 : (FloatKind.f64.format.order x x != some .eq) = isN x := self_ne x
  cases hx : isN x
  · rw [hx] at hx0
    have HS := hide (@same_num x y hx)
    go_enter Try.func10, Try.ntmps10
    go_wp2
    go_ret
    exact ⟨ret_bool HS.out, rfl⟩
  · rw [hx] at hx0
    have HS := hide ((self_ne y).trans (@same_nan x y hx))
    go_enter Try.func10, Try.ntmps10
    go_wp2
    go_ret
    exact ⟨ret_bool HS.out, rfl⟩

/-- The least of the first k + 1, as leastOf finds it. -/
def lea (G : Nat → Nat) : Nat → Nat
  | 0 => G 0
  | k + 1 => if ltF (G (k + 1)) (lea G k) then G (k + 1) else lea G k
/-- The greatest. -/
def gre (G : Nat → Nat) : Nat → Nat
  | 0 => G 0
  | k + 1 => if ltF (gre G k) (G (k + 1)) then G (k + 1) else gre G k

set_option maxHeartbeats 1000000 in
theorem least_any (b n cap : Nat) (G : Nat → Nat) (w : World) (hn1 : 1 ≤ n) (hn : n ≤ 4096) (hG : ∀ r, r < n → w.cell? ⟨b, r, none⟩ = some (.float .f64 (G r))) :
    Calls Try.prog 11 #[.slice (some ⟨b, 0, none⟩) n cap] w fun e w' => e = .returned (.float .f64 (lea G (n - 1))) ∧ w' = w := by
  have HG := hide hG
  have h0 := hG 0 (by omega)
  clear hG
  go_enter Try.func11, Try.ntmps11
  go_wp2
  clear h0
  go_loop [3, 4] (fun x v => ∃ k : Nat, k < n ∧ v = .int .i64 ((k : Int) + 1) ∧ x = .float .f64 (lea G k)) (fun _ v => n - (RowKit.intOf v).toNat)
  case atStart => exact ⟨0, by omega, rfl, rfl⟩
  case round =>
    obtain ⟨k, hk, rfl, rfl⟩ := hrel
    by_cases hlt : k + 1 < n
    · have h1 := HG.out (k + 1) hlt
      have hk5 : ((k : Int) + 1).toNat = k + 1 := by omega
      cases ht : ltF (G (k + 1)) (lea G k)
      · have HE : Hid (lea G k = lea G (k + 1)) := by show _ = if _ then _ else _; rw [ht]; rfl
        go_wp2_with (go_at_call 15; refine (ordered_any _ _ _).mono ?_; rintro e w' ⟨rfl, rfl⟩; rw [ht])
        go_round
        case rel => exact ⟨k + 1, hlt, by go_num, by rw [← HE.out]⟩
        case measure => simp [RowKit.intOf]; omega
      · have HE : Hid (G (k + 1) = lea G (k + 1)) := by show _ = if _ then _ else _; rw [ht]; rfl
        go_wp2_with (go_at_call 15; refine (ordered_any _ _ _).mono ?_; rintro e w' ⟨rfl, rfl⟩; rw [ht])
        go_round
        case rel => exact ⟨k + 1, hlt, by go_num, by rw [← HE.out]⟩
        case measure => simp [RowKit.intOf]; omega
    · obtain rfl : n = k + 1 := by omega
      go_wp2
      go_ret
      exact ⟨rfl, rfl⟩

set_option maxHeartbeats 1000000 in
theorem greatest_any (b n cap : Nat) (G : Nat → Nat) (w : World) (hn1 : 1 ≤ n) (hn : n ≤ 4096) (hG : ∀ r, r < n → w.cell? ⟨b, r, none⟩ = some (.float .f64 (G r))) :
    Calls Try.prog 12 #[.slice (some ⟨b, 0, none⟩) n cap] w fun e w' => e = .returned (.float .f64 (gre G (n - 1))) ∧ w' = w := by
  have HG := hide hG
  have h0 := hG 0 (by omega)
  clear hG
  go_enter Try.func12, Try.ntmps12
  go_wp2
  clear h0
  go_loop [3, 4] (fun x v => ∃ k : Nat, k < n ∧ v = .int .i64 ((k : Int) + 1) ∧ x = .float .f64 (gre G k)) (fun _ v => n - (RowKit.intOf v).toNat)
  case atStart => exact ⟨0, by omega, rfl, rfl⟩
  case round =>
    obtain ⟨k, hk, rfl, rfl⟩ := hrel
    by_cases hlt : k + 1 < n
    · have h1 := HG.out (k + 1) hlt
      have hk5 : ((k : Int) + 1).toNat = k + 1 := by omega
      cases ht : ltF (gre G k) (G (k + 1))
      · have HE : Hid (gre G k = gre G (k + 1)) := by show _ = if _ then _ else _; rw [ht]; rfl
        go_wp2_with (go_at_call 15; refine (ordered_any _ _ _).mono ?_; rintro e w' ⟨rfl, rfl⟩; rw [ht])
        go_round
        case rel => exact ⟨k + 1, hlt, by go_num, by rw [← HE.out]⟩
        case measure => simp [RowKit.intOf]; omega
      · have HE : Hid (G (k + 1) = gre G (k + 1)) := by show _ = if _ then _ else _; rw [ht]; rfl
        go_wp2_with (go_at_call 15; refine (ordered_any _ _ _).mono ?_; rintro e w' ⟨rfl, rfl⟩; rw [ht])
        go_round
        case rel => exact ⟨k + 1, hlt, by go_num, by rw [← HE.out]⟩
        case measure => simp [RowKit.intOf]; omega
    · obtain rfl : n = k + 1 := by omega
      go_wp2
      go_ret
      exact ⟨rfl, rfl⟩
end Go.Proofs.Qxb6602892a
