/-
  DERIVED. GIVEN WITH THE SEED: THE CARDS: each row of Qxb6603265aDoorRows.lean that lists a variable, with what it lists TIED to the program's text (the seventh form; the later family's looks); each row that meets fmt, with fmt's text TOLD by the authors' own Lean function (tested against real Go, not proved from fmt's source: count such statements apart). THE CARD IS WHAT COUNTS. Prove the row's statement (the work); the ties are given (Qxb6603265aDoorTie.lean); close each card by the builder's one call (the guide's Derived/Test/ToyasCard.lean, 'card_holds'). Laid BY PROGRAM, IN A SANDBOX (cutbox-door.mjs). By AI agents, Wed Nov 11 2026. No macro, syntax, notation, axiom, sorry.
-/
import Derived.Test.Qxb6603265aDoorRows
import GoSem.ClaimSeven
namespace Go.Proofs.Qxb6603265aDoor
namespace Rows

/-- THE TIED CARD OF 'zzlaws_consumer_b1.FnDispositionStringRoundTrip'. -/
def fnDispositionStringRoundTripCard : Claim7 := { stood := { row := fnDispositionStringRoundTripRow, standIns := [], harness := (true, "433f86932efd133f05a2820ae12e585b4fbec4c668ac143b2d95c9477caccba5"), looks := false }, kinds := [], alts := [], laidByText := true, laidKinds := [.data, .data, .data], laidTests := true, laidLooks := .later }
def FnDispositionStringRoundTripCardSaid : Prop := Claim7.holds Tryd.pinned (.plain (OpenSpec.ofChange fnDispositionStringRoundTripSpec)) fnDispositionStringRoundTripCard

/-- THE TIED CARD OF 'zzlaws_consumer_b1.FnDispositionStringInjective'. -/
def fnDispositionStringInjectiveCard : Claim7 := { stood := { row := fnDispositionStringInjectiveRow, standIns := [], harness := (true, "433f86932efd133f05a2820ae12e585b4fbec4c668ac143b2d95c9477caccba5"), looks := false }, kinds := [], alts := [], laidByText := true, laidKinds := [.data, .data, .data], laidTests := true, laidLooks := .later }
def FnDispositionStringInjectiveCardSaid : Prop := Claim7.holds Tryd.pinned (.plain (OpenSpec.ofChange fnDispositionStringInjectiveSpec)) fnDispositionStringInjectiveCard
end Rows
end Go.Proofs.Qxb6603265aDoor
