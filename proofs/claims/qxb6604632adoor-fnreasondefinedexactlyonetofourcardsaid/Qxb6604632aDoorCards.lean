/-
  DERIVED. GIVEN WITH THE SEED: THE CARDS: each row of Qxb6604632aDoorRows.lean that lists a variable, with what it lists TIED to the program's text (the seventh form; the later family's looks); each row that meets fmt, with fmt's text TOLD by the authors' own Lean function (tested against real Go, not proved from fmt's source: count such statements apart). THE CARD IS WHAT COUNTS. Prove the row's statement (the work); the ties are given (Qxb6604632aDoorTie.lean); close each card by the builder's one call (the guide's Derived/Test/ToyasCard.lean, 'card_holds'). Laid BY PROGRAM, IN A SANDBOX (cutbox-door.mjs). By AI agents, Wed Nov 11 2026. No macro, syntax, notation, axiom, sorry.
-/
import Derived.Test.Qxb6604632aDoorRows
import GoSem.ClaimSeven
namespace Go.Proofs.Qxb6604632aDoor
namespace Rows

/-- THE TIED CARD OF 'zzlaws_em_b1.FnReasonDefinedExactlyOneToFour'. -/
def fnReasonDefinedExactlyOneToFourCard : Claim7 := { stood := { row := fnReasonDefinedExactlyOneToFourRow, standIns := [], harness := (true, "cb7813ddfaf54ef0ac2d381f310ceb719f9b2dfe4d872f9a0138983cac068e87"), looks := false }, kinds := [], alts := [], laidByText := true, laidKinds := [.mapped], laidTests := true, laidLooks := .later }
def FnReasonDefinedExactlyOneToFourCardSaid : Prop := Claim7.holds Tryd.pinned (.plain (OpenSpec.ofChange fnReasonDefinedExactlyOneToFourSpec)) fnReasonDefinedExactlyOneToFourCard
end Rows
end Go.Proofs.Qxb6604632aDoor
