/-
  DERIVED. GIVEN WITH THE SEED: THE CARDS: each row of Qxb6003416aDoorRows.lean that lists a variable, with what it lists TIED to the program's text (the seventh form; the later family's looks); each row that meets fmt, with fmt's text TOLD by the authors' own Lean function (tested against real Go, not proved from fmt's source: count such statements apart). THE CARD IS WHAT COUNTS. Prove the row's statement (the work); the ties are given (Qxb6003416aDoorTie.lean); close each card by the builder's one call (the guide's Derived/Test/ToyasCard.lean, 'card_holds'). Laid BY PROGRAM, IN A SANDBOX (cutbox-door.mjs). By AI agents, Wed Nov 11 2026. No macro, syntax, notation, axiom, sorry.
-/
import Derived.Test.Qxb6003416aDoorRows
import GoSem.ClaimSeven
namespace Go.Proofs.Qxb6003416aDoor
namespace Rows

/-- THE TIED CARD OF 'zzlaws_jsonline_g1.FnHasLoneSurrogateMatchesNeighbourModel'. -/
def fnHasLoneSurrogateMatchesNeighbourModelCard : Claim7 := { stood := { row := fnHasLoneSurrogateMatchesNeighbourModelRow, standIns := [], harness := (true, "63d07b3e9e5785ba71cabbda188733fffa7e60648b046b875a3dcb6ab30ee4b3"), looks := false }, kinds := [], alts := [], laidByText := true, laidKinds := [.sentinel], laidTests := true, laidLooks := .later }
def FnHasLoneSurrogateMatchesNeighbourModelCardSaid : Prop := Claim7.holds Tryd.pinned (.plain (OpenSpec.ofChange fnHasLoneSurrogateMatchesNeighbourModelSpec)) fnHasLoneSurrogateMatchesNeighbourModelCard

/-- THE TIED CARD OF 'zzlaws_jsonline_g1.FnHasLoneSurrogateSplitsAtPlainByte'. -/
def fnHasLoneSurrogateSplitsAtPlainByteCard : Claim7 := { stood := { row := fnHasLoneSurrogateSplitsAtPlainByteRow, standIns := [], harness := (true, "63d07b3e9e5785ba71cabbda188733fffa7e60648b046b875a3dcb6ab30ee4b3"), looks := false }, kinds := [], alts := [], laidByText := true, laidKinds := [.sentinel], laidTests := true, laidLooks := .later }
def FnHasLoneSurrogateSplitsAtPlainByteCardSaid : Prop := Claim7.holds Tryd.pinned (.plain (OpenSpec.ofChange fnHasLoneSurrogateSplitsAtPlainByteSpec)) fnHasLoneSurrogateSplitsAtPlainByteCard

/-- THE TIED CARD OF 'zzlaws_jsonline_g1.FnHasLoneSurrogateIgnoresHexCase'. -/
def fnHasLoneSurrogateIgnoresHexCaseCard : Claim7 := { stood := { row := fnHasLoneSurrogateIgnoresHexCaseRow, standIns := [], harness := (true, "63d07b3e9e5785ba71cabbda188733fffa7e60648b046b875a3dcb6ab30ee4b3"), looks := false }, kinds := [], alts := [], laidByText := true, laidKinds := [.sentinel], laidTests := true, laidLooks := .later }
def FnHasLoneSurrogateIgnoresHexCaseCardSaid : Prop := Claim7.holds Tryd.pinned (.plain (OpenSpec.ofChange fnHasLoneSurrogateIgnoresHexCaseSpec)) fnHasLoneSurrogateIgnoresHexCaseCard
end Rows
end Go.Proofs.Qxb6003416aDoor
