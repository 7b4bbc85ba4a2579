/-
  FnReasonDefinedExactlyOneToFour PROVED: the listed map is opened ('open_map'), each look-up is answered off the datum ('Maps.fit_look' at integer keys); the witness starts in the heap that the door's own run leaves. After the guide's MapyProofs.lean and BalancedProofs.lean.
-/
import Derived.Test.Qxb6604632aDoorRows
import Derived.Test.Qxb6604632aDoorWalks
import Derived.ProofKit
import Derived.LaidMore
import Derived.OpenShut
import Derived.OpenVars
import Derived.Stop.Joined
import Derived.Maps.Keyed
import Derived.Maps.StringElems
namespace Go.Proofs.Qxb6604632aDoor
open Go.ChangeShapes Go.WideShapes Go.ChangeAt Go.WideMaps Go.WideElems Go.RowKit Go.Maps

theorem own : ownKnob Tryd.prog.godebug = none := by kernel_rfl
theorem laidOut : laidOutB Tryd.prog = true := by kernel_rfl
/-- The one named variable, as the given specification spells it. -/
abbrev nm : String := Rows.fnReasonDefinedExactlyOneToFourSpec.vars.headD ""
theorem gTexts : Tryd.prog.globalNamed nm = some 0 := by kernel_rfl
theorem tTexts : (Tryd.prog.globals[0]?).map (·.type) = some 26 := by kernel_rfl
theorem law22 : Keyed Tryd.prog 22 := int_keyed Tryd.underlying22
theorem zero9 (W : World) : (zeroValue 9).run Tryd.prog W = .ok (.string ByteArray.empty) W := by kernel_rfl

abbrev laidL : List (String × DataW Unit) := [(nm, Rows.laid_example_com_tallywire_tallywire_em_reasonTexts)]

/-- Inside 1 .. 4 the datum holds a text. -/
theorem at_in (r : Int) (h1 : 1 ≤ r) (h4 : r ≤ 4) (e : ∀ zd : DataW Unit, (Rows.laid_example_com_tallywire_tallywire_em_reasonTexts (H := Unit)).atKey (.int .u8 r) zd = zd) : False := by
  have hr : r = 1 ∨ r = 2 ∨ r = 3 ∨ r = 4 := by omega
  have e0 := e .nil
  rcases hr with rfl | rfl | rfl | rfl <;> cases e0

/-- Outside it holds nothing. -/
theorem at_out (r : Int) (h : r < 1 ∨ 4 < r) (zd : DataW Unit) : (Rows.laid_example_com_tallywire_tallywire_em_reasonTexts (H := Unit)).atKey (.int .u8 r) zd = zd := by
  have a1 : ¬ (1 : Int) = r := by omega
  have a2 : ¬ (2 : Int) = r := by omega
  have a3 : ¬ (3 : Int) = r := by omega
  have a4 : ¬ (4 : Int) = r := by omega
  simp [Rows.laid_example_com_tallywire_tallywire_em_reasonTexts, DataW.atKey, Lit.sameKey, List.find?, a1, a2, a3, a4]

/-- The door's own heap meets the condition: three closed facts. -/
theorem door_met (os : Os) (args : Array Value) : laidMetH Tryd.prog laidL ((World.doorLaid Tryd.prog 400 os).forCall (fun _ _ => 0) ⟨#[], args, []⟩).memory :=
  laidMetH_of_parts3 (fuel := 8) (laidMet_of_run' 8 (by kernel_rfl) (by kernel_rfl)) (by kernel_rfl) (by kernel_rfl)

/-- WHAT THE CONDITION GIVES THE WALKS: the map's cell, and every look-up. -/
theorem of_laid {W : World} (h : laidMetH Tryd.prog laidL W) : ∃ bm, W.cell? ⟨0, 0, none⟩ = some (.map (some bm)) ∧ ∀ r : Int, (Lit.int .u8 r).wf = true →
    ((1 ≤ r → r ≤ 4 → ∃ s, (Instr.lookup 26 (.map (some bm)) (.int .u8 r) true).run Tryd.prog W = .ok (.tuple #[.string s, .bool true]) W) ∧
     (r < 1 ∨ 4 < r → ∃ s, (Instr.lookup 26 (.map (some bm)) (.int .u8 r) true).run Tryd.prog W = .ok (.tuple #[.string s, .bool false]) W)) := by
  rw [MakeChecks.laidMetH_plain _ _ _ (by kernel_rfl)] at h
  obtain ⟨ps, ⟨g0, t0, cs0, f0, p0, q0, hg0, ht0, hv0, hd0, _, _⟩, _, _⟩ := h
  obtain rfl := Option.some.inj (gTexts.symm.trans hg0)
  obtain rfl := Option.some.inj (tTexts.symm.trans ht0)
  rcases open_map Tryd.underlying26 hd0 with ⟨_, hx⟩ | ⟨bm, es, clock, m, rfl, hcs, hb, _, F, hx⟩
  · simp [Rows.laid_example_com_tallywire_tallywire_em_reasonTexts] at hx
  simp only [Prod.mk.injEq] at hx
  have hcell : W.cell? ⟨0, 0, none⟩ = some (.map (some bm)) := by
    have := World.var?_cell hg0 hv0 0
    rw [Array.eq_one_of_toList hcs] at this
    simpa using this
  refine ⟨bm, hcell, fun r wr => ?_⟩
  rcases Maps.fit_look (w := W) true law22 Tryd.underlying26 (zero9 W) hb F (keyOf_int_mk (a := r) Tryd.underlying22 wr) with ⟨hrun, _, hat⟩ | ⟨e0, y, _, _, hrun, hRv, hat, _⟩
  · rw [← hx.1] at hat
    exact ⟨fun h1 h4 => (at_in r h1 h4 hat).elim, fun _ => ⟨_, hrun⟩⟩
  · obtain ⟨s, hs, rfl, _⟩ := WideElems.elemAt_string Tryd.underlying9 hRv
    rw [hs] at hrun
    refine ⟨fun _ _ => ⟨s, hrun⟩, fun ho => ?_⟩
    have := hat .nil
    rw [← hx.1, at_out r ho] at this
    cases this

set_option maxRecDepth 100000 in
theorem lifted (os : Os) (started : os.Started) (H : Type) (enc : TypeId × Value → H) :
    ReturnsInHanded {} Tryd.checked os 3 .any (fun w args => (Rows.fnReasonDefinedExactlyOneToFourSpec.pre enc Tryd.prog Tryd.f3 [] false w args ∧ laidMetH Tryd.prog laidL w) ∧ sizedMet enc Tryd.prog Tryd.f3 (OpenSpec.ofChange Rows.fnReasonDefinedExactlyOneToFourSpec) false w args)
      (Rows.fnReasonDefinedExactlyOneToFourSpec.post enc Tryd.prog Tryd.f3 false true false false) := by
  refine returnsInHanded_of_change_and (C := Tryd.checked) (X := fun w _ => laidMetH Tryd.prog laidL w) (fun _ _ _ hh h => h.of_heap hh) own started (by kernel_rfl) Tryd.func3
    (ChangeSpec.witness_shaped (enc := enc) (C := Tryd.checked) (os := os) (X := fun w _ => laidMetH Tryd.prog laidL w) false (World.doorLaid Tryd.prog 400 os) #[.int .u8 0] 8 rfl (World.shaped_of_RefB (by kernel_rfl) (by kernel_rfl)) (by kernel_rfl) (by kernel_rfl) (by kernel_rfl) (door_met os _)) ?_
  intro W base args ds gs before hval0 hW _ _ hL _
  have hval : ∀ (j : Nat) t v, Tryd.f3.params[j]? = some t → args[j]? = some v → Value.okWide Tryd.prog W .any base t v := hval0
  have hW' := hW
  obtain ⟨p, q, hA0, hV0, rfl, hfz, hnd⟩ := hW
  have hA : DataW.TrodAll enc Tryd.prog W 0 (fun _ => true) true Tryd.f3.params.toList args.toList ds p := hA0
  have hV : DataW.TrodVars enc Tryd.prog W (fun _ => true) [nm] gs q := hV0
  rw [Tryd.params3] at hA hval
  obtain ⟨v0, d0, rfl, rfl, h0⟩ := trodAll_one hA
  have hB : Below W.heap.size W W := Below.refl _ _
  have hv' := Below.trodVars laidOut hB (by kernel_rfl) hV
  obtain ⟨g, t, cs, fuel, d, p', rfl, hg, ht, hvar, hd, rfl⟩ := trodVars_one hV
  obtain ⟨r, rfl, rfl, rfl, wr⟩ := open_int Tryd.underlying5 (hval 0 5 v0 rfl rfl) h0
  obtain ⟨bm, hc, hl⟩ := of_laid hL
  have hl := hl r wr
  clear hA0 hV0 hval0 hA hV
  have fin : Rows.fnReasonDefinedExactlyOneToFourSpec.post enc Tryd.prog Tryd.f3 false true false false W #[.int .u8 r] (.bool true) W := by
    refine ⟨_, _, _, [], [], (MemPlace.row ⟨g, 0, none⟩ cs.size ++ p'), hW', ?_, ?_, ?_, hB.frame _, fun h => by cases h⟩
    · exact trodAll_mk1 (shut_bool Tryd.underlying4 true)
    · exact trodAll_mk1 (shut_int Tryd.underlying5 wr)
    · exact hv'
  by_cases h1 : 1 ≤ r
  · by_cases h4 : r ≤ 4
    · obtain ⟨s, hrun⟩ := hl.1 h1 h4
      refine (walk_in bm r s W h1 h4 hc hrun).mono fun e W' ⟨he, hw⟩ => ?_
      subst he; subst hw
      exact ⟨_, rfl, fin⟩
    · obtain ⟨s, hrun⟩ := hl.2 (Or.inr (by omega))
      refine (walk_high bm r s W h1 (by simpa using h4) hc hrun).mono fun e W' ⟨he, hw⟩ => ?_
      subst he; subst hw
      exact ⟨_, rfl, fin⟩
  · obtain ⟨s, hrun⟩ := hl.2 (Or.inl (by omega))
    refine (walk_low bm r s W (by omega) hc hrun).mono fun e W' ⟨he, hw⟩ => ?_
    subst he; subst hw
    exact ⟨_, rfl, fin⟩

theorem row_holds : Rows.FnReasonDefinedExactlyOneToFourSaid :=
  OpenClaim.holds_of_wide 3 Tryd.f3 rfl rfl rfl rfl rfl rfl rfl ⟨rfl, rfl, rfl, rfl, rfl⟩ rfl rfl rfl rfl rfl (by kernel_rfl) Tryd.func3 (by kernel_rfl)
    (of_decide_eq_true (by kernel_rfl)) (by unfold Func.isWrapper; first | (rw [if_pos (by decide +kernel)]; kernel_rfl) | (rw [if_neg (by decide +kernel)]; exact ⟨rfl, rfl⟩))
    (fun os started H enc _ => lifted os started H enc)
end Go.Proofs.Qxb6604632aDoor
