/-
  The walk of hasLoneSurrogate (15).
-/
import Derived.Test.Qxb6003416aDoorUnits
import Derived.Test.Qxb6003416aDoorHex
import Derived.Deep.RegionWith
import Derived.Deep.Cut
import Derived.Deep.CutRange
namespace Go.Proofs.Qxb6003416aDoor
open Go.RowKit

theorem ln_m1_bad {h : Int} {t : List Int} (hh : 55296 ≤ h) : lone h (-1 :: t) = true := by
  rw [lone, if_pos (by simp; omega), if_neg (by decide)]
theorem ln_m1 (t : List Int) : lone 0 (-1 :: t) = lone 0 t := by
  rw [lone]; simp [hiB, loB]
theorem ln_bad {h u : Int} {t : List Int} (hh : 55296 ≤ h) (hu : loB u = false) : lone h (u :: t) = true := by
  rw [lone, if_pos (by simp; omega), hu]; rfl
theorem ln_good {h u : Int} {t : List Int} (hh : 55296 ≤ h) (hu : loB u = true) : lone h (u :: t) = lone 0 t := by
  rw [lone, if_pos (by simp; omega), hu]; rfl
theorem ln_hi {u : Int} {t : List Int} (hu : hiB u = true) : lone 0 (u :: t) = lone u t := by
  rw [lone]; simp [hu]
theorem ln_lo {u : Int} {t : List Int} (h0 : hiB u = false) (hu : loB u = true) : lone 0 (u :: t) = true := by
  rw [lone]; simp [h0, hu]
theorem ln_no {u : Int} {t : List Int} (h0 : hiB u = false) (hu : loB u = false) : lone 0 (u :: t) = lone 0 t := by
  rw [lone]; simp [h0, hu]

set_option maxHeartbeats 2000000 in
theorem lone_any (x : Nat → Int) (n b off cap : Nat) (ts : List Int) (ev : Value) (w : World) (hn : n ≤ 65536) (hcap : n ≤ cap) (hr : ∀ i, 0 ≤ x i ∧ x i ≤ 255) (hc : ∀ i, i < n → w.cell? ⟨b, off + i, none⟩ = some (.int .u8 (x i))) (hb : b < w.heap.size) (hT : tk x n 0 = some ts)
    (hE : w.cell? ⟨0, 0, none⟩ = some ev) :
    Calls Tryd.prog 15 #[.slice (some ⟨b, off, none⟩) n cap] w fun e w' => e = .returned (.bool (lone 0 ts)) ∧ Below w.heap.size w w' := by
  have HC : Hid (∀ i, i < n → w.cell? ⟨b, off + i, none⟩ = some (.int .u8 (x i))) := hc
  have HR : Hid (∀ i, 0 ≤ x i ∧ x i ≤ 255) := hr
  obtain ⟨out, hout⟩ : ∃ out, lone 0 ts = out := ⟨_, rfl⟩
  rw [hout]
  have HT : Hid (∃ t2, tk x n 0 = some t2 ∧ out = lone 0 t2) := ⟨ts, hT, hout.symm⟩
  have HE := hide hE
  clear hc hr hT hE hout
  go_enter Tryd.func15, Tryd.ntmps15
  go_wp2
  go_loopw [3, 4] (fun v i wr => ∃ (k : Nat) (h : Int), k ≤ n ∧ i = .int .i64 k ∧ v = .int .i32 h ∧ (h = 0 ∨ (55296 ≤ h ∧ h < 56320)) ∧ Hid (Below w.heap.size w wr) ∧ Hid (∃ t2, tk x n k = some t2 ∧ out = lone h t2)) (fun _ i _ => n - (intOf i).toNat)
  case atStart => exact ⟨0, 0, Nat.zero_le _, rfl, rfl, Or.inl rfl, Below.refl _ _, HT.out⟩
  case round =>
    obtain ⟨k, h, hk, rfl, rfl, hh, HB, HI⟩ := hrel
    by_cases hlt : k < n
    · have h0 : wr.cell? ⟨b, off + k, none⟩ = some (.int .u8 (x k)) := (HB.out.cell (p := ⟨b, off + k, none⟩) hb).trans (HC.out k hlt)
      have r0 := HR.out k
      obtain ⟨t2, hI2, hI3⟩ := HI.out
      rcases tk_inv hI2 hlt with ⟨c, t3, e1, e2⟩ | ⟨c, h1, u, t3, e1, e2⟩ | ⟨c, u, h6, hx, t3, e1, e2⟩
      · subst e1
        have E2 := hide e2
        have E3 := hide hI3
        have cb : (x k == 92) = false := by simp [c]
        clear c e2 hI2 hI3 HI
        rcases hh with rfl | hh
        · go_wp2_with (first | (go_at_call 21; refine (isSur_any _ _).mono ?_; rintro e w' ⟨rfl, rfl⟩) | (go_at_call 20; refine (decode_bad _ _ _ hh.1 hh.2 (Or.inl (by omega))).mono ?_; rintro e w' ⟨rfl, rfl⟩))
          go_roundw
          case rel => exact ⟨k + 1, 0, by omega, by go_num, rfl, Or.inl rfl, HB.out, t3, E2.out, by rw [E3.out, ln_m1]⟩
          case measure => simp [intOf]; omega
        · have hb : (h != 0) = true := by simp; omega
          go_wp2_with (first | (go_at_call 21; refine (isSur_any _ _).mono ?_; rintro e w' ⟨rfl, rfl⟩) | (go_at_call 20; refine (decode_bad _ _ _ hh.1 hh.2 (Or.inl (by omega))).mono ?_; rintro e w' ⟨rfl, rfl⟩))
          go_ret
          exact ⟨ret_bool (by rw [E3.out, ln_m1_bad hh.1]), HB.out⟩
      · subst e1
        have E2 := hide e2
        have E3 := hide hI3
        have cb : (x k == 92) = true := by simp [c]
        have ub : (x (k + 1) == 117) = false := by simp [u]
        have h1' : wr.cell? ⟨b, off + (k + 1), none⟩ = some (.int .u8 (x (k + 1))) := (HB.out.cell (p := ⟨b, off + (k + 1), none⟩) hb).trans (HC.out (k + 1) h1)
        have r1 := HR.out (k + 1)
        clear c u e2 hI2 hI3 HI
        rcases hh with rfl | hh
        · go_wp2_with (first | (go_at_call 21; refine (isSur_any _ _).mono ?_; rintro e w' ⟨rfl, rfl⟩) | (go_at_call 20; refine (decode_bad _ _ _ hh.1 hh.2 (Or.inl (by omega))).mono ?_; rintro e w' ⟨rfl, rfl⟩))
          go_roundw
          case rel => exact ⟨k + 2, 0, by omega, by go_num, rfl, Or.inl rfl, HB.out, t3, E2.out, by rw [E3.out, ln_m1]⟩
          case measure => simp [intOf]; omega
        · have hb : (h != 0) = true := by simp; omega
          go_wp2_with (first | (go_at_call 21; refine (isSur_any _ _).mono ?_; rintro e w' ⟨rfl, rfl⟩) | (go_at_call 20; refine (decode_bad _ _ _ hh.1 hh.2 (Or.inl (by omega))).mono ?_; rintro e w' ⟨rfl, rfl⟩))
          go_ret
          exact ⟨ret_bool (by rw [E3.out, ln_m1_bad hh.1]), HB.out⟩
      · subst e1
        have E2 := hide e2
        have E3 := hide hI3
        have HX := hide hx
        have cb : (x k == 92) = true := by simp [c]
        have ub : (x (k + 1) == 117) = true := by simp [u]
        have hcell : ∀ j, j < n → wr.cell? ⟨b, off + j, none⟩ = some (.int .u8 (x j)) := fun j hj => (HB.out.cell (p := ⟨b, off + j, none⟩) hb).trans (HC.out j hj)
        have h1' := hcell (k + 1) (by omega)
        have r1 := HR.out (k + 1)
        have HCL := hide hcell
        clear c u e2 hI2 hI3 HI hx hcell
        have hdec : ∀ (W : World) (cs : Nat), W.heap[wr.heap.size]? = some (.cells #[.int .u8 0, .int .u8 0] 31 (0, 0)) → (∀ p : Addr, p.block < wr.heap.size → W.cell? p = wr.cell? p) →
            Calls Tryd.prog 19 #[.slice (some ⟨wr.heap.size, 0, none⟩) 2 2, .slice (some ⟨b, off + (k + 2), none⟩) 4 cs] W fun e w' => e = .returned (.tuple #[.int .i64 2, .nilIface]) ∧ w'.cell? ⟨wr.heap.size, 0, none⟩ = some (.int .u8 (hexV (x (k + 2)) * 16 + hexV (x (k + 3)))) ∧ w'.cell? ⟨wr.heap.size, 1, none⟩ = some (.int .u8 (hexV (x (k + 4)) * 16 + hexV (x (k + 5)))) ∧ Below wr.heap.size W w' := fun W cs hW hold => by
          have hbw : b < wr.heap.size := Nat.lt_of_lt_of_le hb HB.out.size
          have hz : 0 < wr.heap.size := by have := HB.out.size; omega
          have hq : ∀ j, j < n → W.cell? ⟨b, off + j, none⟩ = some (.int .u8 (x j)) := fun j hj => (hold ⟨b, off + j, none⟩ hbw).trans (HCL.out j hj)
          exact dec_call _ _ _ _ HX.out.1 HX.out.2.1 HX.out.2.2.1 HX.out.2.2.2 wr.heap.size b (off + (k + 2)) 2 cs W ev hW (hq (k + 2) (by omega)) (by rw [show off + (k + 2) + 1 = off + (k + 3) by omega]; exact hq (k + 3) (by omega)) (by rw [show off + (k + 2) + 2 = off + (k + 4) by omega]; exact hq (k + 4) (by omega)) (by rw [show off + (k + 2) + 3 = off + (k + 5) by omega]; exact hq (k + 5) (by omega))
            (by omega) ((hold ⟨0, 0, none⟩ hz).trans ((HB.out.cell (p := ⟨0, 0, none⟩) (by show 0 < w.heap.size; omega)).trans HE.out)) (by omega)
        have hB0 : Below wr.heap.size wr ((wr.alloc (.cells #[.int .u8 0, .int .u8 0] 31)).drew) := ((Below.refl _ _).alloc (Nat.le_refl _) _).drew
        have HD := hide (hdec ((wr.alloc (.cells #[.int .u8 0, .int .u8 0] 31)).drew) (cap - (k + 2)) (show (wr.heap.push _)[wr.heap.size]? = _ by simp) (fun p hp => hB0.cell hp))
        have HB0 := hide hB0
        clear hdec hB0
        have q1 : IntKind.i64.wrap ((k : Int) + 1 + 1) = (k : Int) + 2 := by rw [IntKind.wrap_i64]; omega
        have q2 : IntKind.i64.wrap ((k : Int) + 1 + 5) = (k : Int) + 6 := by rw [IntKind.wrap_i64]; omega
        have q3 : (k : Int) + 6 ≤ (cap : Int) := by omega
        have q4 : ¬ cap = k + 2 := by omega
        have q5 : ((k : Int) + 2).toNat = k + 2 := by omega
        have q6 : ((k : Int) + 6).toNat = k + 6 := by omega
        have q7 : max ((k : Int) + 6) 0 = (k : Int) + 6 := by omega
        go_wp2_with fail
        go_cut [6] from 7 to 60 (fun p wx => p = .pointer (some ⟨wr.heap.size, 0, none⟩) ∧ wx.cell? ⟨wr.heap.size, 0, none⟩ = some (.int .u8 (hexV (x (k + 2)) * 16 + hexV (x (k + 3)))) ∧ wx.cell? ⟨wr.heap.size, 1, none⟩ = some (.int .u8 (hexV (x (k + 4)) * 16 + hexV (x (k + 5)))) ∧ Below wr.heap.size wr wx)
        case first =>
          go_region_with (go_at_call 19; refine HD.out.mono ?_; rintro e w1 ⟨rfl, hc0, hc1, hb1⟩)
          all_goals (try go_wp2_with fail)
          all_goals go_meet
          all_goals exact ⟨rfl, hc0, hc1, HB0.out.trans hb1⟩
        case rest =>
          obtain ⟨rfl, hc0, hc1, hb1⟩ := hcut
          have HB1 : Hid (Below w.heap.size w wc) := HB.out.trans (hb1.mono HB.out.size)
          have b2 := hexV_bd HX.out.1
          have b3 := hexV_bd HX.out.2.1
          have b4 := hexV_bd HX.out.2.2.1
          have b5 := hexV_bd HX.out.2.2.2
          obtain ⟨u, hu⟩ : ∃ u, unit (x (k + 2)) (x (k + 3)) (x (k + 4)) (x (k + 5)) = u := ⟨_, rfl⟩
          have ubd := unit_bd HX.out.1 HX.out.2.1 HX.out.2.2.1 HX.out.2.2.2
          have hor : bits .or .i32 ((hexV (x (k + 2)) * 16 + hexV (x (k + 3))) * 256) (hexV (x (k + 4)) * 16 + hexV (x (k + 5))) = u := by
            rw [or32 8 ((hexV (x (k + 2)) * 16 + hexV (x (k + 3))) * 256) (hexV (x (k + 4)) * 16 + hexV (x (k + 5))) (by omega) (by omega) (by omega) (by omega) (by omega), ← hu]
            unfold unit; omega
          rw [hu] at ubd
          have E4 : Hid (out = lone h (u :: t3)) := show _ = _ from by rw [E3.out, hu]
          clear hb1 HD HB0 HCL q1 q2 q3 q4 q5 q6 q7 h0 h1' cb ub hu E3 HX r0 r1
          rcases hh with rfl | hh
          · cases hhi : hiB u
            · cases hlo : loB u
              · have hs : surB u = false := by simp [hiB, loB, surB] at *; omega
                go_wp2_with (go_at_call 21; refine (isSur_any _ _).mono ?_; rintro e w' ⟨rfl, rfl⟩)
                go_roundw
                case rel => exact ⟨k + 6, 0, by omega, by go_num, rfl, Or.inl rfl, HB1.out, t3, E2.out, by rw [E4.out, ln_no hhi hlo]⟩
                case measure => simp [intOf]; omega
              · have hs : surB u = true := by simp [loB, surB] at *; omega
                have hd : decide (u < 56320) = false := by simp [loB] at *; omega
                go_wp2_with (go_at_call 21; refine (isSur_any _ _).mono ?_; rintro e w' ⟨rfl, rfl⟩)
                go_ret
                exact ⟨ret_bool (by rw [E4.out, ln_lo hhi hlo]), HB1.out⟩
            · have hs : surB u = true := by simp [hiB, surB] at *; omega
              have hd : u < 56320 := by simp [hiB] at *; omega
              go_wp2_with (go_at_call 21; refine (isSur_any _ _).mono ?_; rintro e w' ⟨rfl, rfl⟩)
              go_roundw
              case rel => exact ⟨k + 6, u, by omega, by go_num, rfl, Or.inr (by simp [hiB] at hhi; omega), HB1.out, t3, E2.out, by rw [E4.out, ln_hi hhi]⟩
              case measure => simp [intOf]; omega
          · have hb : (h != 0) = true := by simp; omega
            cases hlo : loB u
            · have hl : u < 56320 ∨ 57344 ≤ u := by simp [loB] at hlo; omega
              go_wp2_with (go_at_call 20; refine (decode_bad _ _ _ hh.1 hh.2 hl).mono ?_; rintro e w' ⟨rfl, rfl⟩)
              go_ret
              exact ⟨ret_bool (by rw [E4.out, ln_bad hh.1 hlo]), HB1.out⟩
            · have hl : 56320 ≤ u ∧ u < 57344 := by simp [loB] at hlo; omega
              go_wp2_with (go_at_call 20; refine (decode_good _ _ _ hh.1 hh.2 hl.1 hl.2).mono ?_; rintro e w' ⟨⟨r, rfl, hrr⟩, rfl⟩)
              go_roundw
              case rel => exact ⟨k + 6, 0, by omega, by go_num, rfl, Or.inl rfl, HB1.out, t3, E2.out, by rw [E4.out, ln_good hh.1 hlo]⟩
              case measure => simp [intOf]; omega
    · go_wp2
      go_ret
      obtain ⟨t2, e1, e2⟩ := HI.out
      rw [tk_end (by omega)] at e1
      obtain rfl := Option.some.inj e1
      exact ⟨ret_bool (by rw [e2, lone]), HB.out⟩
end Go.Proofs.Qxb6003416aDoor
