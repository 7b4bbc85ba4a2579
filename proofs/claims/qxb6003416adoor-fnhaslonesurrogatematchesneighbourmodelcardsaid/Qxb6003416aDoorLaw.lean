/-
  The walk of the law, FnHasLoneSurrogateMatchesNeighbourModel (3), out of the contracts.
-/
import Derived.Test.Qxb6003416aDoorWf
import Derived.Test.Qxb6003416aDoorModel
import Derived.Test.Qxb6003416aDoorLone
namespace Go.Proofs.Qxb6003416aDoor
open Go.RowKit

/-- Too long: true at once. -/
theorem law_long (n b off cap : Nat) (w : World) (hn : 65536 < n) (hm : n ≤ 9223372036854775807) :
    Calls Tryd.prog 3 #[.slice (some ⟨b, off, none⟩) n cap] w fun e w' => e = .returned (.bool true) ∧ w' = w := by
  by_cases h : n ≤ 1048576
  · go_enter Tryd.func3, Tryd.ntmps3
    go_wp2
    go_ret
    exact ⟨rfl, rfl⟩
  · go_enter Tryd.func3, Tryd.ntmps3
    go_wp2
    go_ret
    exact ⟨rfl, rfl⟩

theorem law_ill (x : Nat → Int) (n b off cap : Nat) (w : World) (hn : n ≤ 65536) (hr : ∀ i, 0 ≤ x i ∧ x i ≤ 255) (hc : ∀ i, i < n → w.cell? ⟨b, off + i, none⟩ = some (.int .u8 (x i))) (hT : tk x n 0 = none) :
    Calls Tryd.prog 3 #[.slice (some ⟨b, off, none⟩) n cap] w fun e w' => e = .returned (.bool true) ∧ w' = w := by
  have hW := wf_any x n b off cap w hn hr hc
  rw [hT] at hW
  have HW := hide hW
  clear hW hc hr hT
  go_enter Tryd.func3, Tryd.ntmps3
  go_wp2_with (first | (go_at_call 6; go_in) | (go_at_call 7; refine HW.out.mono ?_; rintro e w' ⟨rfl, rfl⟩))
  go_ret
  exact ⟨rfl, rfl⟩

theorem law_well (x : Nat → Int) (n b off cap : Nat) (ts : List Int) (ev : Value) (w : World) (hn : n ≤ 65536) (hr : ∀ i, 0 ≤ x i ∧ x i ≤ 255) (hc : ∀ i, i < n → w.cell? ⟨b, off + i, none⟩ = some (.int .u8 (x i))) (hT : tk x n 0 = some ts) (hE : w.cell? ⟨0, 0, none⟩ = some ev) :
    Calls Tryd.prog 3 #[.slice (some ⟨b, off, none⟩) n cap] w fun e w' => e = .returned (.bool true) ∧ Below w.heap.size w w' := by
  have hW := wf_any x n b off cap w hn hr hc
  rw [hT] at hW
  have HW := hide hW
  have HC := hide (clone_any x n b off cap w hn hc)
  have HR := hide hr
  have HT := hide hT
  have HE := hide hE
  clear hW hc hr hT hE
  go_enter Tryd.func3, Tryd.ntmps3
  go_wp2_with (first | (go_at_call 6; go_in) | (go_at_call 7; refine HW.out.mono ?_; rintro e w' ⟨rfl, rfl⟩))
  refine HC.out.mono ?_
  rintro e w1 ⟨g, rfl, hg1, hg2, hcell, hB⟩
  have HL := hide (lone_any x n g 0 n ts ev w1 hn (Nat.le_refl _) HR.out hcell hg2 HT.out ((hB.cell (p := ⟨0, 0, none⟩) (cell_lt HE.out)).trans HE.out))
  have HM : Hid (∀ w2, Below w1.heap.size w1 w2 → Calls Tryd.prog 10 #[.slice (some ⟨g, 0, none⟩) n n] w2 fun e w' => e = .returned (.bool (model (-1) ts)) ∧ Below w2.heap.size w2 w') := fun w2 h2 =>
    model_any x n g 0 n ts w2 hn HR.out (fun i hi => (h2.cell (p := ⟨g, 0 + i, none⟩) hg2).trans (hcell i hi)) (Nat.lt_of_lt_of_le hg2 h2.size) HT.out
  have HB := hide hB
  have HQ := hide (lone_eq ts)
  obtain ⟨out, hout⟩ : ∃ out, model (-1) ts = out := ⟨_, rfl⟩
  obtain ⟨out2, hout2⟩ : ∃ out, lone 0 ts = out := ⟨_, rfl⟩
  have ho : out2 = out := by rw [← hout, ← hout2]; exact HQ.out
  rw [hout] at HM
  rw [hout2, ho] at HL
  clear hcell hB hg1 hg2 HC HW HQ hout hout2 ho
  go_wp2_with (first | (go_at_call 9; go_in) | (go_at_call 15; refine HL.out.mono ?_; rintro e w2 ⟨rfl, hB2⟩; have HB2 := hide hB2; clear hB2))
  refine (HM.out _ HB2.out).mono ?_
  rintro e w3 ⟨rfl, hB3⟩
  have HB3 := hide hB3
  clear hB3
  go_wp2
  go_ret
  refine ⟨ret_bool (by simp), ?_⟩
  have h12 := HB.out.trans (HB2.out.mono HB.out.size)
  exact h12.trans (HB3.out.mono h12.size)

/-- The nil slice. -/
theorem law_nil (w : World) : Calls Tryd.prog 3 #[.slice none 0 0] w fun e w' => e = .returned (.bool true) ∧ Below w.heap.size w w' := by
  have he := Lib.run_eql_slice_nil (P := Tryd.prog) w 22 5 none 0 0 0 0 Tryd.underlying22
  go_enter Tryd.func3, Tryd.ntmps3
  go_wp2
  refine wp_loop_rounds 1 ?_
  rw [rounds_succ]
  go_wp2
  refine wp_loop_rounds 1 ?_
  rw [rounds_succ]
  obtain ⟨i0, hi, hz0, hz1, hz2⟩ := info_parts info21
  go_wp2_with (first | (at_make; refine wpList_make_own _ rfl (.const (.int .i64 0)) (.tmp 7) 28 rfl w.heap.size 21 i0 (.int .i32 0) 1 Tryd.underlying28 hi hz0 hz1 .i64 .i64 _ 0 rfl rfl rfl (by omega) (by unfold maxLen; omega) (Nat.le_refl _) ?_; intro w1 hown hgrow; have HG := hide hgrow; clear hown hgrow) | go_in)
  refine wp_loop_rounds 1 ?_
  rw [rounds_succ]
  go_wp2
  refine wp_loop_rounds 1 ?_
  rw [rounds_succ]
  go_wp2
  go_ret
  exact ⟨rfl, (Below.refl _ _).grown HG.out (Nat.le_refl _) (by intro g hg; cases hg)⟩

/-- No element and no room, whatever the address. -/
theorem law_empty (a : Addr) (cap : Nat) (w : World) : Calls Tryd.prog 3 #[.slice (some a) 0 cap] w fun e w' => e = .returned (.bool true) ∧ Below w.heap.size w w' := by
  have he := Lib.run_eql_slice_nil (P := Tryd.prog) w 22 5 (some a) 0 cap 0 0 Tryd.underlying22
  obtain ⟨i5, ki, kz0, kz1, kz2⟩ := info_parts info5
  obtain ⟨i0, hi, hz0, hz1, hz2⟩ := info_parts info21
  have tok2 : True := trivial
  go_enter Tryd.func3, Tryd.ntmps3
  go_wp2
  refine wp_loop_rounds 1 ?_
  rw [rounds_succ]
  go_wp2_with (first
    | (at_make; refine wpList_make_full _ rfl (.tmp 7) (.tmp 7) 22 rfl w.heap.size 5 i5 (.int .u8 0) 1 Tryd.underlying22 ki kz0 kz1 .i64 .i64 _ _ 0 rfl rfl rfl rfl (by omega) (by unfold maxLen; omega) (Nat.le_refl _) ?_; intro w1 hown hgrow; have hB1 : Below w.heap.size w w1 := (Below.refl _ _).grown hgrow (Nat.le_refl _) (by intro g hg; cases hg); have HB := hide hB1; clear hown hgrow hB1)
    | (have _t := HB; have _u := tok2; refine wpList_copy_nothing rfl (.tmp 9) (.tmp 10) 22 22 rfl 5 Tryd.underlying22 size5 (some ⟨w.heap.size, 0, none⟩) (some a) 0 0 0 cap rfl rfl rfl ?_; clear tok2)
    | go_in)
  refine wp_loop_rounds 1 ?_
  rw [rounds_succ]
  go_wp2_with (first | (at_make; refine wpList_make_own _ rfl (.const (.int .i64 0)) (.tmp 7) 28 rfl w1.heap.size 21 i0 (.int .i32 0) 1 Tryd.underlying28 hi hz0 hz1 .i64 .i64 _ 0 rfl rfl rfl (by omega) (by unfold maxLen; omega) (Nat.le_refl _) ?_; intro w2 hown hgrow; have HG := hide hgrow; clear hown hgrow) | go_in)
  refine wp_loop_rounds 1 ?_
  rw [rounds_succ]
  go_wp2
  refine wp_loop_rounds 1 ?_
  rw [rounds_succ]
  go_wp2
  go_ret
  exact ⟨rfl, HB.out.grown HG.out HB.out.size (by intro g hg; cases hg)⟩
end Go.Proofs.Qxb6003416aDoor
