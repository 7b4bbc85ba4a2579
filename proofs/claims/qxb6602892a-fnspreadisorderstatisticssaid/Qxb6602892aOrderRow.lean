/-
  FnSpreadIsOrderStatistics PROVED as a row.
-/
import Derived.Test.Qxb6602892aRows
import Derived.Test.Qxb6602892aFour
import Derived.Test.Qxb6602892aOpen
namespace Go.Proofs.Qxb6602892a
open Go.ChangeShapes Go.WideShapes Go.ChangeAt Go.RowKit

theorem ownO : ownKnob Try.prog.godebug = none := by kernel_rfl
theorem laidO : laidOutB Try.prog = true := by kernel_rfl

set_option maxRecDepth 100000 in
theorem order_lifted (os : Os) (started : os.Started) (H : Type) (enc : TypeId × Value → H) :
    ReturnsInHanded {} Try.checked os 3 .any (Rows.fnSpreadIsOrderStatisticsSpec.pre6 enc Try.prog Try.f3 Rows.fnSpreadIsOrderStatisticsRow.domain false) (Rows.fnSpreadIsOrderStatisticsSpec.post enc Try.prog Try.f3 false true false false) := by
  refine returnsInHanded_of_change (C := Try.checked) ownO started (by kernel_rfl) Try.func3
    (ChangeSpec.witness6 (enc := enc) (C := Try.checked) false ⟨#[], #[.slice none 0 0, .int .i64 0], []⟩ 8 (by kernel_rfl) (by kernel_rfl) (by kernel_rfl) (by kernel_rfl)) ?_
  intro W base args ds gs before hval0 hW _ _
  have hval : ∀ (j : Nat) t v, Try.f3.params[j]? = some t → args[j]? = some v → Value.okWide Try.prog W .any base t v := hval0
  have hW' := hW
  obtain ⟨p, q, hA0, hV, rfl, hfz, hnd⟩ := hW
  have hA : DataW.TrodAll enc Try.prog W 0 (fun _ => true) true Try.f3.params.toList args.toList ds p := hA0
  rw [Try.params3] at hA hval
  obtain ⟨v0, v1, d0, d1, p0, p1, rfl, rfl, rfl, h0, h1⟩ := trodAll_two hA
  obtain ⟨rfl, rfl⟩ := trodVars_none hV
  obtain ⟨i, rfl, rfl, rfl, wi⟩ := open_int Try.underlying3 (hval 1 3 v1 rfl rfl) h1
  obtain ⟨a0, len, cap, rfl⟩ := okWide_slice Try.underlying22 (hval 0 22 v0 rfl rfl)
  clear hA0 hval0 hA
  simp only [List.append_nil] at hW'
  have hlt : ∀ y ∈ p0, y.block < W.heap.size := fun y hy => hW'.lt y hy
  have fin : ∀ W', Below W.heap.size W W' → Rows.fnSpreadIsOrderStatisticsSpec.post enc Try.prog Try.f3 false true false false W #[.slice a0 len cap, .int .i64 i] (.bool true) W' := fun W' hB => by
    refine ⟨_, _, _, [], p0 ++ [], [], hW', ?_, ?_, ?_, hB.frame _, fun h => by cases h⟩
    · exact trodAll_mk1 (shut_bool Try.underlying4 true)
    · exact trodAll_mk2 (Below.trod laidO (by kernel_rfl) (of_decide_eq_true (by kernel_rfl)) h0 hB hlt) (shut_int Try.underlying3 wi)
    · rfl
  rcases runs_open h0 with rfl | ⟨a, A, B, O, L, C, F, rfl, hmx, hR⟩
  · refine (four_zero a0 cap i W).mono fun e W' ⟨he, hw⟩ => ?_
    subst he; subst hw
    exact ⟨_, rfl, fin _ (Below.refl _ _)⟩
  · by_cases hz : len = 0
    · subst hz
      refine (four_zero (some a) cap i W).mono fun e W' ⟨he, hw⟩ => ?_
      subst he; subst hw
      exact ⟨_, rfl, fin _ (Below.refl _ _)⟩
    · obtain ⟨b, off, spot⟩ := a
      have hspot : spot = none := by simpa [Addr.add] using World.cell?_spot (hR.outer 0 (by omega))
      subst hspot
      have hO : ∀ r, r < len → W.cell? ⟨b, off + r, none⟩ = some (.slice (A r) (L r) (C r)) := fun r hr => by
        rw [← Go.WideShapes.add_plain]; exact hR.outer r hr
      refine (four_any b off len cap i A B O L C F W (by unfold maxLen at hmx; omega) hO hR.addr hR.inner (cell_block (hO 0 (by omega)))).mono fun e W' ⟨he, hB⟩ => ?_
      subst he
      exact ⟨_, rfl, fin W' hB⟩

theorem order_holds : Rows.FnSpreadIsOrderStatisticsSaid :=
  OpenClaim.holds_of_wide 3 Try.f3 rfl rfl rfl rfl rfl rfl rfl ⟨rfl, rfl, rfl, rfl, rfl⟩ rfl rfl rfl rfl rfl (by kernel_rfl) Try.func3 (by kernel_rfl)
    (of_decide_eq_true (by kernel_rfl)) (by unfold Func.isWrapper; first | (rw [if_pos (by decide +kernel)]; kernel_rfl) | (rw [if_neg (by decide +kernel)]; exact ⟨rfl, rfl⟩))
    (fun os started H enc _ => order_lifted os started H enc)
end Go.Proofs.Qxb6602892a
