/-
  The walk of zzWellFormed (7).
-/
import Derived.Test.Qxb6003416aDoorPure
namespace Go.Proofs.Qxb6003416aDoor
open Go.RowKit

theorem some_map (o : Option (List Int)) (a : Int) : (o.map (a :: ·)).isSome = o.isSome := by cases o <;> rfl
theorem u_yes {x : Nat → Int} {n k : Nat} (h6 : k + 6 ≤ n) (hc : x k = 92) (hu : x (k + 1) = 117) (hx : ∀ t, t < 4 → hexB (x (k + 2 + t)) = true) : (tk x n k).isSome = (tk x n (k + 6)).isSome := by
  rw [tk_u h6 hc hu]
  have e2 := hx 0 (by omega); have e3 := hx 1 (by omega); have e4 := hx 2 (by omega); have e5 := hx 3 (by omega)
  simp only [Nat.add_zero, Nat.add_assoc] at e2 e3 e4 e5
  rw [if_pos (by simp [e2, e3, e4, e5]), some_map]
theorem u_no {x : Nat → Int} {n k m : Nat} (h6 : k + 6 ≤ n) (hc : x k = 92) (hu : x (k + 1) = 117) (hm : m < 4) (hx : hexB (x (k + 2 + m)) = false) : (tk x n k).isSome = false := by
  rw [tk_u h6 hc hu, if_neg]
  · rfl
  · intro e
    simp only [Bool.and_eq_true] at e
    rcases (show m = 0 ∨ m = 1 ∨ m = 2 ∨ m = 3 by omega) with rfl | rfl | rfl | rfl
    · rw [show k + 2 + 0 = k + 2 by omega, e.1.1.1] at hx; cases hx
    · rw [show k + 2 + 1 = k + 3 by omega, e.1.1.2] at hx; cases hx
    · rw [show k + 2 + 2 = k + 4 by omega, e.1.2] at hx; cases hx
    · rw [show k + 2 + 3 = k + 5 by omega, e.2] at hx; cases hx

set_option maxHeartbeats 1000000 in
theorem wf_any (x : Nat → Int) (n b off cap : Nat) (w : World) (hn : n ≤ 65536) (hr : ∀ i, 0 ≤ x i ∧ x i ≤ 255) (hc : ∀ i, i < n → w.cell? ⟨b, off + i, none⟩ = some (.int .u8 (x i))) :
    Calls Tryd.prog 7 #[.slice (some ⟨b, off, none⟩) n cap] w fun e w' => e = .returned (.bool (tk x n 0).isSome) ∧ w' = w := by
  have HC : Hid (∀ i, i < n → w.cell? ⟨b, off + i, none⟩ = some (.int .u8 (x i))) := hc
  have HR : Hid (∀ i, 0 ≤ x i ∧ x i ≤ 255) := hr
  clear hc hr
  go_enter Tryd.func7, Tryd.ntmps7
  go_wp2
  go_loop [3] (fun i => ∃ k : Nat, k ≤ n ∧ i = .int .i64 k ∧ Hid ((tk x n 0).isSome = (tk x n k).isSome)) (fun i => n - (intOf i).toNat)
  case atStart => exact ⟨0, Nat.zero_le _, rfl, rfl⟩
  case round =>
    obtain ⟨k, hk, rfl, HT⟩ := hrel
    by_cases hlt : k < n
    · have h0 := HC.out k hlt
      have r0 := HR.out k
      by_cases c : x k = 92
      · have cb : (x k != 92) = false := by simp [c]
        have C : Hid (x k = 92) := c
        clear c
        by_cases h1 : k + 1 < n
        · have h1' : w.cell? ⟨b, off + (k + 1), none⟩ = some (.int .u8 (x (k + 1))) := HC.out (k + 1) h1
          have r1 := HR.out (k + 1)
          by_cases u : x (k + 1) = 117
          · have ub : (x (k + 1) != 117) = false := by simp [u]
            have U : Hid (x (k + 1) = 117) := u
            clear u
            by_cases h6 : k + 6 ≤ n
            · go_wp2
              go_loop [4] (fun v => ∃ m : Nat, m ≤ 4 ∧ v = .int .i64 ((k : Int) + 2 + m) ∧ Hid (∀ t, t < m → hexB (x (k + 2 + t)) = true)) (fun v => k + 6 - (intOf v).toNat)
              case atStart => exact ⟨0, by omega, by simp, fun t ht => absurd ht (by omega)⟩
              case round =>
                obtain ⟨m, hm, rfl, HX⟩ := hrel
                by_cases hm4 : m < 4
                · have hcm : w.cell? ⟨b, off + (k + 2 + m), none⟩ = some (.int .u8 (x (k + 2 + m))) := HC.out (k + 2 + m) (by omega)
                  have rm := HR.out (k + 2 + m)
                  by_cases hx : hexB (x (k + 2 + m)) = true
                  · go_wp2_with (go_at_call 14; refine (isHex_any _ _ rm.1 rm.2).mono ?_; rintro e w' ⟨rfl, rfl⟩)
                    go_round
                    case rel => exact ⟨m + 1, by omega, by go_num, fun t ht => by
                      by_cases e : t = m
                      · rw [e]; exact hx
                      · exact HX.out t (by omega)⟩
                    case measure => simp [intOf]; omega
                  · have hx' : hexB (x (k + 2 + m)) = false := by simpa using hx
                    clear hx
                    go_wp2_with (go_at_call 14; refine (isHex_any _ _ rm.1 rm.2).mono ?_; rintro e w' ⟨rfl, rfl⟩)
                    go_ret
                    exact ⟨ret_bool (by rw [HT.out, u_no h6 C.out U.out hm4 hx']), rfl⟩
                · obtain rfl : m = 4 := by omega
                  go_wp2
                  go_round
                  case rel => exact ⟨k + 6, by omega, by go_num, show _ = _ from by rw [HT.out, u_yes h6 C.out U.out HX.out]⟩
                  case measure => simp [intOf]; omega
            · go_wp2
              go_ret
              exact ⟨ret_bool (by rw [HT.out, tk_short h1 C.out U.out (by omega)]; rfl), rfl⟩
          · have ub : (x (k + 1) != 117) = true := by simp [u]
            have U : Hid (¬ x (k + 1) = 117) := u
            clear u
            go_wp2
            go_round
            case rel => exact ⟨k + 2, by omega, by go_num, show _ = _ from by rw [HT.out, tk_esc h1 C.out U.out, some_map]⟩
            case measure => simp [intOf]; omega
        · go_wp2
          go_ret
          exact ⟨ret_bool (by rw [HT.out, tk_cut hlt C.out (by omega)]; rfl), rfl⟩
      · have cb : (x k != 92) = true := by simp [c]
        have C : Hid (¬ x k = 92) := c
        clear c
        go_wp2
        go_round
        case rel => exact ⟨k + 1, by omega, by go_num, show _ = _ from by rw [HT.out, tk_plain hlt C.out, some_map]⟩
        case measure => simp [intOf]; omega
    · go_wp2
      go_ret
      exact ⟨ret_bool (by rw [HT.out, tk_end (by omega)]; rfl), rfl⟩
end Go.Proofs.Qxb6003416aDoor
