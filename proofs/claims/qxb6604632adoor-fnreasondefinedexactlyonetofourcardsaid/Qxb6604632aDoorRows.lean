/-
  NARROWER THAN 'FOR EVERY INPUT', by the rows' own cells (each row's printed sentence says how): FnReasonDefinedExactlyOneToFour: maps, laid.
  DERIVED. THE GIVEN ROWS OF THIS SEAT. 1 by the template 'for every input the law returns true; each argument reads behind the call as it read before'; 0 by the template 'total and deterministic' (their statements: Qxb6604632aDoorTotals.lean).
  GIVEN WITH THE SEED: the statements are not yours to turn. If you find one false, say at which input.
  Laid BY PROGRAM, IN A SANDBOX (cutbox-rows.mjs): the forced cells as the released guide's own fill.sh prints them over the translation 9d7066d8e7069cf9… (all of the seat's roots in one cut). By AI agents, Wed Nov 11 2026. No macro, syntax, notation, axiom, sorry.
-/
import Derived.Test.Qxb6604632aDoorChecked
import GoSem.Claim
import GoSem.ClaimJoined
import GoSem.ClaimMapViews
import Derived.JoinedTies
import Derived.KernelRfl
namespace Go.Proofs.Qxb6604632aDoor
/- THE CELL 'sum', in the pinned program and in every row, IS THE sha256 OF THE DUMP (.gsa) THAT Qxb6604632aDoorProg.lean LOADS. Nothing in Lean hashes anything: it is a label: what it is worth is what the hold of that sum in a sandbox is worth. -/
noncomputable def Tryd.pinned : Pinned := { name := "qxb6604632adoor", sum := "9d7066d8e7069cf99a33add622ee9374cc1a001e8c0297393cafdb22d270c9b2", checked := Tryd.checked }
namespace Rows
def none {H : Type} : Left H := { results := [], args := [] }

/- WHAT THE LISTED PACKAGE-LEVEL VARIABLES READ AS WHEN THE CALL BEGINS. Each datum BY PROGRAM (the guide's laid-datum.mjs) off the statement by which the dump's own 'gosem.cut.vars' lays the variable. In a bare row this is a premise. The card (Qxb6604632aDoorCards.lean) ties it to the program's text. -/
def laid_example_com_tallywire_tallywire_em_reasonTexts {H : Type} : DataW H := .map [(.int .u8 1, .lit (.string [101, 118, 101, 110, 116, 95, 111, 98, 106, 101, 99, 116])), (.int .u8 2, .lit (.string [117, 110, 100, 101, 102, 105, 110, 101, 100, 95, 116, 121, 112, 101])), (.int .u8 3, .lit (.string [115, 117, 114, 118, 101, 105, 108, 108, 97, 110, 99, 101])), (.int .u8 4, .lit (.string [115, 117, 114, 118, 101, 105, 108, 108, 97, 110, 99, 101, 95, 97, 116, 116, 114, 105, 98, 117, 116, 101]))]

/-- 'zzlaws_em_b1.FnReasonDefinedExactlyOneToFour': WHATEVER THE INPUT: true; the input reads as it did. -/
def fnReasonDefinedExactlyOneToFourSpec : ChangeSpec := { name := "fnReasonDefinedExactlyOneToFour", vars := ["example.com/tallywire/tallywire/em.reasonTexts"], fn := fun _ => fun
  | [d, g1] => { results := [.lit (.bool true)], args := [d], vars := [g1] }
  | _ => none }
def fnReasonDefinedExactlyOneToFourRow : OpenClaim := { program := "qxb6604632adoor", sum := "9d7066d8e7069cf99a33add622ee9374cc1a001e8c0297393cafdb22d270c9b2", func := "example.com/tallywire/tallywire/zzlaws_em_b1.FnReasonDefinedExactlyOneToFour", spec := "fnReasonDefinedExactlyOneToFour", named := ["example.com/tallywire/tallywire/em.reasonTexts"], maps := true, apart := false, laid := [("example.com/tallywire/tallywire/em.reasonTexts", laid_example_com_tallywire_tallywire_em_reasonTexts)] }
def FnReasonDefinedExactlyOneToFourSaid : Prop := fnReasonDefinedExactlyOneToFourRow.holds Tryd.pinned (OpenSpec.ofChange fnReasonDefinedExactlyOneToFourSpec)

/-- ITS FALSE NEIGHBOUR: 'it returns false'. Refute it at one input. -/
def fnReasonDefinedExactlyOneToFourWrong : ChangeSpec := { name := "fnReasonDefinedExactlyOneToFour", vars := ["example.com/tallywire/tallywire/em.reasonTexts"], fn := fun _ => fun
  | [d, g1] => { results := [.lit (.bool false)], args := [d], vars := [g1] }
  | _ => none }
def FnReasonDefinedExactlyOneToFourWrongFalsely : Prop := fnReasonDefinedExactlyOneToFourRow.holds Tryd.pinned (OpenSpec.ofChange fnReasonDefinedExactlyOneToFourWrong)

end Rows
end Go.Proofs.Qxb6604632aDoor
