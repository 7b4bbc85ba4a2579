/-
  NARROWER THAN 'FOR EVERY INPUT', by the rows' own cells (each row's printed sentence says how): FnHasLoneSurrogateMatchesNeighbourModel: laid · FnHasLoneSurrogateSplitsAtPlainByte: laid · FnHasLoneSurrogateIgnoresHexCase: laid.
  DERIVED. THE GIVEN ROWS OF THIS SEAT. 3 by the template 'for every input the law returns true; each argument reads behind the call as it read before'; 0 by the template 'total and deterministic' (their statements: Qxb6003416aDoorTotals.lean).
  GIVEN WITH THE SEED: the statements are not yours to turn. If you find one false, say at which input.
  Laid BY PROGRAM, IN A SANDBOX (cutbox-rows.mjs): the forced cells as the released guide's own fill.sh prints them over the translation d24e349e124b8174… (all of the seat's roots in one cut). By AI agents, Wed Nov 11 2026. No macro, syntax, notation, axiom, sorry.
-/
import Derived.Test.Qxb6003416aDoorChecked
import GoSem.Claim
import GoSem.ClaimJoined
import GoSem.ClaimMapViews
import Derived.JoinedTies
import Derived.KernelRfl
namespace Go.Proofs.Qxb6003416aDoor
/- THE CELL 'sum', in the pinned program and in every row, IS THE sha256 OF THE DUMP (.gsa) THAT Qxb6003416aDoorProg.lean LOADS. Nothing in Lean hashes anything: it is a label: what it is worth is what the hold of that sum in a sandbox is worth. -/
noncomputable def Tryd.pinned : Pinned := { name := "qxb6003416adoor", sum := "d24e349e124b81749895aa20ad08b1f26287f0c08302979de59d91b19a7e8e68", checked := Tryd.checked }
namespace Rows
def none {H : Type} : Left H := { results := [], args := [] }

/- WHAT THE LISTED PACKAGE-LEVEL VARIABLES READ AS WHEN THE CALL BEGINS. Each datum BY PROGRAM (the guide's laid-datum.mjs) off the statement by which the dump's own 'gosem.cut.vars' lays the variable. In a bare row this is a premise. The card (Qxb6003416aDoorCards.lean) ties it to the program's text. -/
def laid_encoding_hex_ErrLength {H : Type} : DataW H := .iface "*errors.errorString" (.ptr (.agg [.lit (.string [101, 110, 99, 111, 100, 105, 110, 103, 47, 104, 101, 120, 58, 32, 111, 100, 100, 32, 108, 101, 110, 103, 116, 104, 32, 104, 101, 120, 32, 115, 116, 114, 105, 110, 103])]))

/-- 'zzlaws_jsonline_g1.FnHasLoneSurrogateMatchesNeighbourModel': WHATEVER THE INPUT: true; the input reads as it did. -/
def fnHasLoneSurrogateMatchesNeighbourModelSpec : ChangeSpec := { name := "fnHasLoneSurrogateMatchesNeighbourModel", fn := fun _ => fun
  | [d] => { results := [.lit (.bool true)], args := [d] }
  | _ => none }
def fnHasLoneSurrogateMatchesNeighbourModelRow : OpenClaim := { program := "qxb6003416adoor", sum := "d24e349e124b81749895aa20ad08b1f26287f0c08302979de59d91b19a7e8e68", func := "example.com/resolvent/resolvent/zzlaws_jsonline_g1.FnHasLoneSurrogateMatchesNeighbourModel", spec := "fnHasLoneSurrogateMatchesNeighbourModel", named := ["encoding/hex.ErrLength"], apart := false, laid := [("encoding/hex.ErrLength", laid_encoding_hex_ErrLength)] }
def FnHasLoneSurrogateMatchesNeighbourModelSaid : Prop := fnHasLoneSurrogateMatchesNeighbourModelRow.holds Tryd.pinned (OpenSpec.ofChange fnHasLoneSurrogateMatchesNeighbourModelSpec)

/-- ITS FALSE NEIGHBOUR: 'it returns false'. Refute it at one input. -/
def fnHasLoneSurrogateMatchesNeighbourModelWrong : ChangeSpec := { name := "fnHasLoneSurrogateMatchesNeighbourModel", fn := fun _ => fun
  | [d] => { results := [.lit (.bool false)], args := [d] }
  | _ => none }
def FnHasLoneSurrogateMatchesNeighbourModelWrongFalsely : Prop := fnHasLoneSurrogateMatchesNeighbourModelRow.holds Tryd.pinned (OpenSpec.ofChange fnHasLoneSurrogateMatchesNeighbourModelWrong)

/-- 'zzlaws_jsonline_g1.FnHasLoneSurrogateSplitsAtPlainByte': WHATEVER THE INPUT: true; the input reads as it did. -/
def fnHasLoneSurrogateSplitsAtPlainByteSpec : ChangeSpec := { name := "fnHasLoneSurrogateSplitsAtPlainByte", fn := fun _ => fun
  | [d1, d2, d3] => { results := [.lit (.bool true)], args := [d1, d2, d3] }
  | _ => none }
def fnHasLoneSurrogateSplitsAtPlainByteRow : OpenClaim := { program := "qxb6003416adoor", sum := "d24e349e124b81749895aa20ad08b1f26287f0c08302979de59d91b19a7e8e68", func := "example.com/resolvent/resolvent/zzlaws_jsonline_g1.FnHasLoneSurrogateSplitsAtPlainByte", spec := "fnHasLoneSurrogateSplitsAtPlainByte", named := ["encoding/hex.ErrLength"], apart := false, laid := [("encoding/hex.ErrLength", laid_encoding_hex_ErrLength)] }
def FnHasLoneSurrogateSplitsAtPlainByteSaid : Prop := fnHasLoneSurrogateSplitsAtPlainByteRow.holds Tryd.pinned (OpenSpec.ofChange fnHasLoneSurrogateSplitsAtPlainByteSpec)

/-- ITS FALSE NEIGHBOUR: 'it returns false'. Refute it at one input. -/
def fnHasLoneSurrogateSplitsAtPlainByteWrong : ChangeSpec := { name := "fnHasLoneSurrogateSplitsAtPlainByte", fn := fun _ => fun
  | [d1, d2, d3] => { results := [.lit (.bool false)], args := [d1, d2, d3] }
  | _ => none }
def FnHasLoneSurrogateSplitsAtPlainByteWrongFalsely : Prop := fnHasLoneSurrogateSplitsAtPlainByteRow.holds Tryd.pinned (OpenSpec.ofChange fnHasLoneSurrogateSplitsAtPlainByteWrong)

/-- 'zzlaws_jsonline_g1.FnHasLoneSurrogateIgnoresHexCase': WHATEVER THE INPUT: true; the input reads as it did. -/
def fnHasLoneSurrogateIgnoresHexCaseSpec : ChangeSpec := { name := "fnHasLoneSurrogateIgnoresHexCase", fn := fun _ => fun
  | [d] => { results := [.lit (.bool true)], args := [d] }
  | _ => none }
def fnHasLoneSurrogateIgnoresHexCaseRow : OpenClaim := { program := "qxb6003416adoor", sum := "d24e349e124b81749895aa20ad08b1f26287f0c08302979de59d91b19a7e8e68", func := "example.com/resolvent/resolvent/zzlaws_jsonline_g1.FnHasLoneSurrogateIgnoresHexCase", spec := "fnHasLoneSurrogateIgnoresHexCase", named := ["encoding/hex.ErrLength"], apart := false, laid := [("encoding/hex.ErrLength", laid_encoding_hex_ErrLength)] }
def FnHasLoneSurrogateIgnoresHexCaseSaid : Prop := fnHasLoneSurrogateIgnoresHexCaseRow.holds Tryd.pinned (OpenSpec.ofChange fnHasLoneSurrogateIgnoresHexCaseSpec)

/-- ITS FALSE NEIGHBOUR: 'it returns false'. Refute it at one input. -/
def fnHasLoneSurrogateIgnoresHexCaseWrong : ChangeSpec := { name := "fnHasLoneSurrogateIgnoresHexCase", fn := fun _ => fun
  | [d] => { results := [.lit (.bool false)], args := [d] }
  | _ => none }
def FnHasLoneSurrogateIgnoresHexCaseWrongFalsely : Prop := fnHasLoneSurrogateIgnoresHexCaseRow.holds Tryd.pinned (OpenSpec.ofChange fnHasLoneSurrogateIgnoresHexCaseWrong)

end Rows
end Go.Proofs.Qxb6003416aDoor
