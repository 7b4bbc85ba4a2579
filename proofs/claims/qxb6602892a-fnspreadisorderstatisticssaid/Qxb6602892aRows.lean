/-
  No cell of these rows narrows 'for every input' (looked for: loops, veiled, ifaces, maps, wideKeys, modest, calm, conditions, laid).
  DERIVED. THE GIVEN ROWS OF THIS SEAT. 2 by the template 'for every input the law returns true; each argument reads behind the call as it read before'; 0 by the template 'total and deterministic' (their statements: Qxb6602892aTotals.lean).
  GIVEN WITH THE SEED: the statements are not yours to turn. If you find one false, say at which input.
  Laid BY PROGRAM, IN A SANDBOX (cutbox-rows.mjs): the forced cells as the released guide's own fill.sh prints them over the translation 2f286510114ca3f9… (all of the seat's roots in one cut). By AI agents, Wed Nov 11 2026. No macro, syntax, notation, axiom, sorry.
-/
import Derived.Test.Qxb6602892aChecked
import GoSem.Claim
import GoSem.ClaimJoined
import GoSem.ClaimMapViews
import Derived.JoinedTies
import Derived.KernelRfl
namespace Go.Proofs.Qxb6602892a
/- THE CELL 'sum', in the pinned program and in every row, IS THE sha256 OF THE DUMP (.gsa) THAT Qxb6602892aProg.lean LOADS. Nothing in Lean hashes anything: it is a label: what it is worth is what the hold of that sum in a sandbox is worth. -/
noncomputable def Try.pinned : Pinned := { name := "qxb6602892a", sum := "2f286510114ca3f94f87d26acb9491c5624aab157f007e0fa6c4e0aebc327daf", checked := Try.checked }
namespace Rows
def none {H : Type} : Left H := { results := [], args := [] }

/-- 'zzlaws_internal_bench_b1.FnSpreadIsOrderStatistics': WHATEVER THE INPUT: true; the input reads as it did. -/
def fnSpreadIsOrderStatisticsSpec : ChangeSpec := { name := "fnSpreadIsOrderStatistics", fn := fun _ => fun
  | [d1, d2] => { results := [.lit (.bool true)], args := [d1, d2] }
  | _ => none }
def fnSpreadIsOrderStatisticsRow : OpenClaim := { program := "qxb6602892a", sum := "2f286510114ca3f94f87d26acb9491c5624aab157f007e0fa6c4e0aebc327daf", func := "example.com/muster/muster/zzlaws_internal_bench_b1.FnSpreadIsOrderStatistics", spec := "fnSpreadIsOrderStatistics", recurses := true, apart := false }
def FnSpreadIsOrderStatisticsSaid : Prop := fnSpreadIsOrderStatisticsRow.holds Try.pinned (OpenSpec.ofChange fnSpreadIsOrderStatisticsSpec)

/-- ITS FALSE NEIGHBOUR: 'it returns false'. Refute it at one input. -/
def fnSpreadIsOrderStatisticsWrong : ChangeSpec := { name := "fnSpreadIsOrderStatistics", fn := fun _ => fun
  | [d1, d2] => { results := [.lit (.bool false)], args := [d1, d2] }
  | _ => none }
def FnSpreadIsOrderStatisticsWrongFalsely : Prop := fnSpreadIsOrderStatisticsRow.holds Try.pinned (OpenSpec.ofChange fnSpreadIsOrderStatisticsWrong)

/-- 'zzlaws_internal_bench_b1.FnSpreadMedianBetweenLowAndHigh': WHATEVER THE INPUT: true; the input reads as it did. -/
def fnSpreadMedianBetweenLowAndHighSpec : ChangeSpec := { name := "fnSpreadMedianBetweenLowAndHigh", fn := fun _ => fun
  | [d1, d2] => { results := [.lit (.bool true)], args := [d1, d2] }
  | _ => none }
def fnSpreadMedianBetweenLowAndHighRow : OpenClaim := { program := "qxb6602892a", sum := "2f286510114ca3f94f87d26acb9491c5624aab157f007e0fa6c4e0aebc327daf", func := "example.com/muster/muster/zzlaws_internal_bench_b1.FnSpreadMedianBetweenLowAndHigh", spec := "fnSpreadMedianBetweenLowAndHigh", recurses := true, apart := false }
def FnSpreadMedianBetweenLowAndHighSaid : Prop := fnSpreadMedianBetweenLowAndHighRow.holds Try.pinned (OpenSpec.ofChange fnSpreadMedianBetweenLowAndHighSpec)

/-- ITS FALSE NEIGHBOUR: 'it returns false'. Refute it at one input. -/
def fnSpreadMedianBetweenLowAndHighWrong : ChangeSpec := { name := "fnSpreadMedianBetweenLowAndHigh", fn := fun _ => fun
  | [d1, d2] => { results := [.lit (.bool false)], args := [d1, d2] }
  | _ => none }
def FnSpreadMedianBetweenLowAndHighWrongFalsely : Prop := fnSpreadMedianBetweenLowAndHighRow.holds Try.pinned (OpenSpec.ofChange fnSpreadMedianBetweenLowAndHighWrong)

end Rows
end Go.Proofs.Qxb6602892a
