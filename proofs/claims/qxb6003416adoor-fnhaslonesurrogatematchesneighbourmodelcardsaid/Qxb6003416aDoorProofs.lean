/-
  FnHasLoneSurrogateMatchesNeighbourModel PROVED as a row; the listed sentinel gives hex.Decode its cell; the witness starts in the heap that the door's own run leaves.
-/
import Derived.Test.Qxb6003416aDoorRows
import Derived.Test.Qxb6003416aDoorLaw
import Derived.ProofKit
import Derived.LaidMore
import Derived.OpenShut
import Derived.Stop.Joined
namespace Go.Proofs.Qxb6003416aDoor
open Go.ChangeShapes Go.WideShapes Go.ChangeAt Go.RowKit

theorem own : ownKnob Tryd.prog.godebug = none := by kernel_rfl
theorem laidOut : laidOutB Tryd.prog = true := by kernel_rfl
theorem cells5 : Tryd.prog.cellsOf 5 = 1 := by kernel_rfl
/-- The one listed variable, as the given row spells it. -/
abbrev nm : String := Rows.fnHasLoneSurrogateMatchesNeighbourModelRow.named.headD ""
theorem gErr : Tryd.prog.globalNamed nm = some 0 := by kernel_rfl
theorem tErr : (Tryd.prog.globals[0]?).map (·.type) = some 33 := by kernel_rfl
abbrev laidL : List (String × DataW Unit) := [(nm, Rows.laid_encoding_hex_ErrLength)]

/-- The door's own heap meets the condition: three closed facts. -/
theorem door_met (os : Os) (args : Array Value) : laidMetH Tryd.prog laidL ((World.doorLaid Tryd.prog 400 os).forCall (fun _ _ => 0) ⟨#[], args, []⟩).memory :=
  laidMetH_of_parts3 (fuel := 8) (laidMet_of_run' 8 (by kernel_rfl) (by kernel_rfl)) (by kernel_rfl) (by kernel_rfl)

/-- WHAT THE CONDITION GIVES: the variable's cell is there. -/
theorem of_laid {W : World} (h : laidMetH Tryd.prog laidL W) : ∃ ev, W.cell? ⟨0, 0, none⟩ = some ev := by
  rw [MakeChecks.laidMetH_plain _ _ _ (by kernel_rfl)] at h
  obtain ⟨ps, ⟨g0, t0, cs0, f0, p0, q0, hg0, ht0, hv0, hd0, _, _⟩, _, _⟩ := h
  obtain rfl := Option.some.inj (gErr.symm.trans hg0)
  obtain rfl := Option.some.inj (tErr.symm.trans ht0)
  have hc := World.var?_cell hg0 hv0 0
  obtain ⟨l⟩ := cs0
  cases l with
  | nil =>
    cases f0 with
    | zero => simp [DataW.trod] at hd0
    | succ f => simp [DataW.trod, Tryd.underlying33] at hd0
  | cons v l => exact ⟨v, by simpa using hc⟩

theorem byte_bd {n : Int} (h : (Lit.int .u8 n).wf = true) : 0 ≤ n ∧ n ≤ 255 := by
  have := bounds_u8 h
  omega

set_option maxRecDepth 100000 in
theorem lifted (os : Os) (started : os.Started) (H : Type) (enc : TypeId × Value → H) :
    ReturnsInHanded {} Tryd.checked os 3 .any (fun w args => (Rows.fnHasLoneSurrogateMatchesNeighbourModelSpec.pre enc Tryd.prog Tryd.f3 [] false w args ∧ laidMetH Tryd.prog laidL w) ∧ sizedMet enc Tryd.prog Tryd.f3 (OpenSpec.ofChange Rows.fnHasLoneSurrogateMatchesNeighbourModelSpec) false w args)
      (Rows.fnHasLoneSurrogateMatchesNeighbourModelSpec.post enc Tryd.prog Tryd.f3 false true false false) := by
  refine returnsInHanded_of_change_and (C := Tryd.checked) (X := fun w _ => laidMetH Tryd.prog laidL w) (fun _ _ _ hh h => h.of_heap hh) own started (by kernel_rfl) Tryd.func3
    (ChangeSpec.witness_shaped (enc := enc) (C := Tryd.checked) (os := os) (X := fun w _ => laidMetH Tryd.prog laidL w) false (World.doorLaid Tryd.prog 400 os) #[.slice none 0 0] 8 rfl (World.shaped_of_RefB (by kernel_rfl) (by kernel_rfl)) (by kernel_rfl) (by kernel_rfl) (by kernel_rfl) (door_met os _)) ?_
  intro W base args ds gs before hval0 hW _ _ hL _
  have hval : ∀ (j : Nat) t v, Tryd.f3.params[j]? = some t → args[j]? = some v → Value.okWide Tryd.prog W .any base t v := hval0
  have hW' := hW
  obtain ⟨p, q, hA0, hV, rfl, hfz, hnd⟩ := hW
  have hA : DataW.TrodAll enc Tryd.prog W 0 (fun _ => true) true Tryd.f3.params.toList args.toList ds p := hA0
  rw [Tryd.params3] at hA hval
  obtain ⟨v0, d0, rfl, rfl, h0⟩ := trodAll_one hA
  obtain ⟨rfl, rfl⟩ := trodVars_none hV
  obtain ⟨ev, hE⟩ := of_laid hL
  have hlt : ∀ y ∈ p, y.block < W.heap.size := fun y hy => by simpa using hW'.lt y (List.mem_append_left _ hy)
  have h0k := h0
  obtain ⟨a0, len, cap, rfl⟩ := okWide_slice Tryd.underlying22 (hval 0 22 v0 rfl rfl)
  clear hA0 hval0 hA
  have fin : ∀ W', Below W.heap.size W W' → Rows.fnHasLoneSurrogateMatchesNeighbourModelSpec.post enc Tryd.prog Tryd.f3 false true false false W #[.slice a0 len cap] (.bool true) W' := fun W' hB => by
    refine ⟨_, _, _, [], p, [], hW', ?_, ?_, ?_, hB.frame _, fun h => by cases h⟩
    · exact trodAll_mk1 (shut_bool Tryd.underlying4 true)
    · exact trodAll_mk1 (Below.trod laidOut (by kernel_rfl) (of_decide_eq_true (by kernel_rfl)) h0k hB hlt)
    · rfl
  obtain ⟨fuel, hf⟩ := h0
  rcases open_ints Tryd.underlying22 Tryd.underlying5 cells5 hf with ⟨hcs, _⟩ | ⟨a, len', cap', zs, hcs, _, hl, hm, hz, _, hcell, hwz⟩
  · simp only [Value.cells, List.cons.injEq, Value.slice.injEq, and_true] at hcs
    obtain ⟨rfl, rfl, rfl⟩ := hcs
    refine (law_nil W).mono fun e W' ⟨he, hB⟩ => ?_
    subst he
    exact ⟨_, rfl, fin W' hB⟩
  · simp only [Value.cells, List.cons.injEq, Value.slice.injEq, and_true] at hcs
    obtain ⟨rfl, rfl, rfl⟩ := hcs
    have hzl : zs.length = cap := by simpa using hz
    by_cases hlen0 : len = 0
    · subst hlen0
      refine (law_empty a cap W).mono fun e W' ⟨he, hB⟩ => ?_
      subst he
      exact ⟨_, rfl, fin W' hB⟩
    obtain ⟨b, off, rfl, hcell'⟩ := ints_at hcell (by omega)
    have hx : ∀ i, 0 ≤ zs.getD i 0 ∧ zs.getD i 0 ≤ 255 := fun i => by
      by_cases hi : i < zs.length
      · have : zs.getD i 0 ∈ zs := by simp [hi]
        exact byte_bd (hwz _ this)
      · have : zs.getD i 0 = 0 := by simp [List.getElem?_eq_none (Nat.le_of_not_lt hi)]
        rw [this]; decide
    have hc : ∀ i, i < len → W.cell? ⟨b, off + i, none⟩ = some (.int .u8 ((fun j => zs.getD j 0) i)) := fun i hi => hcell' i (by omega)
    by_cases hn : len ≤ 65536
    · cases hT : tk (fun j => zs.getD j 0) len 0 with
      | none =>
        refine (law_ill _ len b off cap W hn hx hc hT).mono fun e W' ⟨he, hw⟩ => ?_
        subst he; subst hw
        exact ⟨_, rfl, fin _ (Below.refl _ _)⟩
      | some ts =>
        refine (law_well _ len b off cap ts ev W hn hx hc hT hE).mono fun e W' ⟨he, hB⟩ => ?_
        subst he
        exact ⟨_, rfl, fin W' hB⟩
    · refine (law_long len b off cap W (by omega) (by unfold maxLen at hm; omega)).mono fun e W' ⟨he, hw⟩ => ?_
      subst he; subst hw
      exact ⟨_, rfl, fin _ (Below.refl _ _)⟩

theorem row_holds : Rows.FnHasLoneSurrogateMatchesNeighbourModelSaid :=
  OpenClaim.holds_of_wide 3 Tryd.f3 rfl rfl rfl rfl rfl rfl rfl ⟨rfl, rfl, rfl, rfl, rfl⟩ rfl rfl rfl rfl rfl (by kernel_rfl) Tryd.func3 (by kernel_rfl)
    (of_decide_eq_true (by kernel_rfl)) (by unfold Func.isWrapper; first | (rw [if_pos (by decide +kernel)]; kernel_rfl) | (rw [if_neg (by decide +kernel)]; exact ⟨rfl, rfl⟩))
    (fun os started H enc _ => lifted os started H enc)
end Go.Proofs.Qxb6003416aDoor
