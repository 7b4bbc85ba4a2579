/-
  The walk of zzModelLone (10).
-/
import Derived.Test.Qxb6003416aDoorUnits
namespace Go.Proofs.Qxb6003416aDoor
open Go.RowKit

/-- The unit before place k. -/
def pv (y : Nat → Int) (k : Nat) : Int := if k = 0 then -1 else y (k - 1)
theorem pv_succ (y : Nat → Int) (k : Nat) : pv y (k + 1) = y k := by simp [pv]
theorem pv_zero (y : Nat → Int) : pv y 0 = -1 := rfl
theorem pv_pos (y : Nat → Int) {k : Nat} (h : 0 < k) : pv y k = y (k - 1) := by simp [pv]; omega

theorem list_seg (ts : List Int) (y : Nat → Int) (hy : ∀ i, y i = ts.getD i 0) : ts = seg y ts.length 0 := by
  apply List.ext_getElem
  · simp [seg]
  · intro i h1 h2
    simp [seg, hy, h1]

theorem md_end {y : Nat → Int} {m k : Nat} {p : Int} (h : m ≤ k) : model p (seg y m k) = false := by rw [seg_nil h]; rfl
theorem md_step {y : Nat → Int} {m k : Nat} (h : k < m) : model (pv y k) (seg y m k) = ((hiB (y k) && !loB ((seg y m (k + 1)).headD (-1))) || (loB (y k) && !hiB (pv y k)) || model (pv y (k + 1)) (seg y m (k + 1))) := by
  rw [seg_cons h, model, pv_succ]
theorem md_hi_last {y : Nat → Int} {m k : Nat} (h : k < m) (hh : hiB (y k) = true) (hl : m ≤ k + 1) : model (pv y k) (seg y m k) = true := by
  rw [md_step h, hh, seg_nil hl]; simp [lo_m1]
theorem md_hi_bad {y : Nat → Int} {m k : Nat} (h : k < m) (hh : hiB (y k) = true) (hl : k + 1 < m) (hb : loB (y (k + 1)) = false) : model (pv y k) (seg y m k) = true := by
  rw [md_step h, hh, seg_cons hl]; simp [hb]
theorem md_hi_good {y : Nat → Int} {m k : Nat} (h : k < m) (hh : hiB (y k) = true) (hl : k + 1 < m) (hb : loB (y (k + 1)) = true) : model (pv y k) (seg y m k) = model (pv y (k + 1)) (seg y m (k + 1)) := by
  rw [md_step h, hh, hi_not_lo hh]
  have : (seg y m (k + 1)).headD (-1) = y (k + 1) := by rw [seg_cons hl]; rfl
  rw [this, hb]; simp
theorem md_lo_bad {y : Nat → Int} {m k : Nat} (h : k < m) (hh : loB (y k) = true) (hb : hiB (pv y k) = false) : model (pv y k) (seg y m k) = true := by
  rw [md_step h, hh, hb]; simp
theorem md_lo_good {y : Nat → Int} {m k : Nat} (h : k < m) (h0 : hiB (y k) = false) (hb : hiB (pv y k) = true) : model (pv y k) (seg y m k) = model (pv y (k + 1)) (seg y m (k + 1)) := by
  rw [md_step h, h0, hb]; simp
theorem md_plain {y : Nat → Int} {m k : Nat} (h : k < m) (h0 : hiB (y k) = false) (h1 : loB (y k) = false) : model (pv y k) (seg y m k) = model (pv y (k + 1)) (seg y m (k + 1)) := by
  rw [md_step h, h0, h1]; simp

set_option maxHeartbeats 2000000 in
theorem model_any (x : Nat → Int) (n b off cap : Nat) (ts : List Int) (w : World) (hn : n ≤ 65536) (hr : ∀ i, 0 ≤ x i ∧ x i ≤ 255) (hc : ∀ i, i < n → w.cell? ⟨b, off + i, none⟩ = some (.int .u8 (x i))) (hb : b < w.heap.size) (hT : tk x n 0 = some ts) :
    Calls Tryd.prog 10 #[.slice (some ⟨b, off, none⟩) n cap] w fun e w' => e = .returned (.bool (model (-1) ts)) ∧ Below w.heap.size w w' := by
  have hm : ts.length ≤ n := by simpa using tk_len hT
  obtain ⟨y, hy⟩ : ∃ y : Nat → Int, ∀ i, y i = ts.getD i 0 := ⟨fun i => ts.getD i 0, fun _ => rfl⟩
  have hU := units_any x n b off cap ts w hn hr hc hb hT
  have HS : Hid (ts = seg y ts.length 0) := list_seg ts y hy
  obtain ⟨out, hout⟩ : ∃ out, model (-1) ts = out := ⟨_, rfl⟩
  rw [hout]
  have HF : Hid (out = model (pv y 0) (seg y ts.length 0)) := show _ = _ from by rw [pv_zero, ← HS.out, hout]
  have HU := hide hU
  have HY := hide hy
  clear hU hc hr hT hy hout
  go_enter Tryd.func10, Tryd.ntmps10
  go_wp2_with fail
  refine HU.out.mono ?_
  rintro e w1 ⟨g, rfl, hcell, hB⟩
  have HB := hide hB
  have HC : Hid (∀ i, i < ts.length → w1.cell? ⟨g, 0 + i, none⟩ = some (.int .i32 (y i))) := fun i hi => by rw [HY.out i]; exact hcell i hi
  clear hB hcell HY HS HU
  generalize ts.length = m at *
  go_wp2_with fail
  go_loop [4] (fun v => ∃ k : Nat, k ≤ m ∧ v = .int .i64 k ∧ Hid (out = model (pv y k) (seg y m k))) (fun v => m - (intOf v).toNat)
  case atStart => exact ⟨0, Nat.zero_le _, rfl, HF.out⟩
  case round =>
    obtain ⟨k, hk, rfl, HT⟩ := hrel
    by_cases hlt : k < m
    · have h0 : w1.cell? ⟨g, k, none⟩ = some (.int .i32 (y k)) := by have := HC.out k hlt; rwa [Nat.zero_add] at this
      by_cases hh : hiB (y k) = true
      · have hl0 : loB (y k) = false := hi_not_lo hh
        by_cases h1 : k + 1 < m
        · have h1' : w1.cell? ⟨g, k + 1, none⟩ = some (.int .i32 (y (k + 1))) := by have := HC.out (k + 1) h1; rwa [Nat.zero_add] at this
          have hd : decide ((m : Int) ≤ (k : Int) + 1) = false := by simp; omega
          cases hl : loB (y (k + 1))
          · go_wp2_with (first | (go_at_call 17; refine (isHigh_any _ _).mono ?_; rintro e w' ⟨rfl, rfl⟩) | (go_at_call 18; refine (isLow_any _ _).mono ?_; rintro e w' ⟨rfl, rfl⟩))
            go_ret
            exact ⟨ret_bool (by rw [HT.out, md_hi_bad hlt hh h1 hl]), HB.out⟩
          · go_wp2_with (first | (go_at_call 17; refine (isHigh_any _ _).mono ?_; rintro e w' ⟨rfl, rfl⟩) | (go_at_call 18; refine (isLow_any _ _).mono ?_; rintro e w' ⟨rfl, rfl⟩))
            go_round
            case rel => exact ⟨k + 1, by omega, by go_num, show _ = _ from by rw [HT.out, md_hi_good hlt hh h1 hl]⟩
            case measure => simp [intOf]; omega
        · go_wp2_with (first | (go_at_call 17; refine (isHigh_any _ _).mono ?_; rintro e w' ⟨rfl, rfl⟩) | (go_at_call 18; refine (isLow_any _ _).mono ?_; rintro e w' ⟨rfl, rfl⟩))
          go_ret
          exact ⟨ret_bool (by rw [HT.out, md_hi_last hlt hh (by omega)]), HB.out⟩
      · have hh' : hiB (y k) = false := by simpa using hh
        clear hh
        cases hl : loB (y k)
        · go_wp2_with (first | (go_at_call 17; refine (isHigh_any _ _).mono ?_; rintro e w' ⟨rfl, rfl⟩) | (go_at_call 18; refine (isLow_any _ _).mono ?_; rintro e w' ⟨rfl, rfl⟩))
          go_round
          case rel => exact ⟨k + 1, by omega, by go_num, show _ = _ from by rw [HT.out, md_plain hlt hh' hl]⟩
          case measure => simp [intOf]; omega
        · by_cases hk0 : 0 < k
          · have hp : w1.cell? ⟨g, k - 1, none⟩ = some (.int .i32 (y (k - 1))) := by have := HC.out (k - 1) (by omega); rwa [Nat.zero_add] at this
            have hd : ((k : Int) == 0) = false := by simp; omega
            have hpv := hide (pv_pos y hk0)
            cases hhp : hiB (y (k - 1))
            · go_wp2_with (first | (go_at_call 17; refine (isHigh_any _ _).mono ?_; rintro e w' ⟨rfl, rfl⟩) | (go_at_call 18; refine (isLow_any _ _).mono ?_; rintro e w' ⟨rfl, rfl⟩))
              go_ret
              exact ⟨ret_bool (by rw [HT.out, md_lo_bad hlt hl (by rw [hpv.out]; exact hhp)]), HB.out⟩
            · go_wp2_with (first | (go_at_call 17; refine (isHigh_any _ _).mono ?_; rintro e w' ⟨rfl, rfl⟩) | (go_at_call 18; refine (isLow_any _ _).mono ?_; rintro e w' ⟨rfl, rfl⟩))
              go_round
              case rel => exact ⟨k + 1, by omega, by go_num, show _ = _ from by rw [HT.out, md_lo_good hlt hh' (by rw [hpv.out]; exact hhp)]⟩
              case measure => simp [intOf]; omega
          · obtain rfl : k = 0 := by omega
            go_wp2_with (first | (go_at_call 17; refine (isHigh_any _ _).mono ?_; rintro e w' ⟨rfl, rfl⟩) | (go_at_call 18; refine (isLow_any _ _).mono ?_; rintro e w' ⟨rfl, rfl⟩))
            go_ret
            exact ⟨ret_bool (by rw [HT.out, md_lo_bad hlt hl (by rw [pv_zero]; decide)]), HB.out⟩
    · go_wp2
      go_ret
      exact ⟨ret_bool (by rw [HT.out, md_end (by omega)]), HB.out⟩
end Go.Proofs.Qxb6003416aDoor
