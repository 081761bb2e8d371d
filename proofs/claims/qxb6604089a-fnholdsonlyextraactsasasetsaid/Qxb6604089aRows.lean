/-
  No cell of these rows narrows 'for every input' (looked for: loops, veiled, ifaces, maps, wideKeys, modest, calm, conditions, laid).
  DERIVED. THE GIVEN ROWS OF THIS SEAT. 3 by the template 'for every input the law returns true; each argument reads behind the call as it read before'; 0 by the template 'total and deterministic' (their statements: Qxb6604089aTotals.lean).
  GIVEN WITH THE SEED: the statements are not yours to turn. If you find one false, say at which input.
  Laid BY PROGRAM, IN A SANDBOX (cutbox-rows.mjs): the forced cells as the released guide's own fill.sh prints them over the translation 2cb5a0791952a16f… (all of the seat's roots in one cut). By AI agents, Wed Nov 11 2026. No macro, syntax, notation, axiom, sorry.
-/
import Derived.Test.Qxb6604089aChecked
import GoSem.Claim
import GoSem.ClaimJoined
import GoSem.ClaimMapViews
import Derived.JoinedTies
import Derived.KernelRfl
namespace Go.Proofs.Qxb6604089a
/- THE CELL 'sum', in the pinned program and in every row, IS THE sha256 OF THE DUMP (.gsa) THAT Qxb6604089aProg.lean LOADS. Nothing in Lean hashes anything: it is a label: what it is worth is what the hold of that sum in a sandbox is worth. -/
noncomputable def Try.pinned : Pinned := { name := "qxb6604089a", sum := "2cb5a0791952a16f45d4e6b8692df3f63921ce9561725d6cfed517878b863f63", checked := Try.checked }
namespace Rows
def none {H : Type} : Left H := { results := [], args := [] }

/-- 'zzlaws_pkg_scheduler_b1.FnHoldsOnlyMatchesByteTable': WHATEVER THE INPUT: true; the input reads as it did. -/
def fnHoldsOnlyMatchesByteTableSpec : ChangeSpec := { name := "fnHoldsOnlyMatchesByteTable", fn := fun _ => fun
  | [d1, d2] => { results := [.lit (.bool true)], args := [d1, d2] }
  | _ => none }
def fnHoldsOnlyMatchesByteTableRow : OpenClaim := { program := "qxb6604089a", sum := "2cb5a0791952a16f45d4e6b8692df3f63921ce9561725d6cfed517878b863f63", func := "example.com/persistent-job-scheduler/persistent-job-scheduler/zzlaws_pkg_scheduler_b1.FnHoldsOnlyMatchesByteTable", spec := "fnHoldsOnlyMatchesByteTable", inPlace := ["internal/bytealg.IndexByteString"], apart := false }
def FnHoldsOnlyMatchesByteTableSaid : Prop := fnHoldsOnlyMatchesByteTableRow.holds Try.pinned (OpenSpec.ofChange fnHoldsOnlyMatchesByteTableSpec)

/-- ITS FALSE NEIGHBOUR: 'it returns false'. Refute it at one input. -/
def fnHoldsOnlyMatchesByteTableWrong : ChangeSpec := { name := "fnHoldsOnlyMatchesByteTable", fn := fun _ => fun
  | [d1, d2] => { results := [.lit (.bool false)], args := [d1, d2] }
  | _ => none }
def FnHoldsOnlyMatchesByteTableWrongFalsely : Prop := fnHoldsOnlyMatchesByteTableRow.holds Try.pinned (OpenSpec.ofChange fnHoldsOnlyMatchesByteTableWrong)

/-- 'zzlaws_pkg_scheduler_b1.FnHoldsOnlySplitsOverConcatenation': WHATEVER THE INPUT: true; the input reads as it did. -/
def fnHoldsOnlySplitsOverConcatenationSpec : ChangeSpec := { name := "fnHoldsOnlySplitsOverConcatenation", fn := fun _ => fun
  | [d1, d2, d3] => { results := [.lit (.bool true)], args := [d1, d2, d3] }
  | _ => none }
def fnHoldsOnlySplitsOverConcatenationRow : OpenClaim := { program := "qxb6604089a", sum := "2cb5a0791952a16f45d4e6b8692df3f63921ce9561725d6cfed517878b863f63", func := "example.com/persistent-job-scheduler/persistent-job-scheduler/zzlaws_pkg_scheduler_b1.FnHoldsOnlySplitsOverConcatenation", spec := "fnHoldsOnlySplitsOverConcatenation", inPlace := ["internal/bytealg.IndexByteString"], apart := false }
def FnHoldsOnlySplitsOverConcatenationSaid : Prop := fnHoldsOnlySplitsOverConcatenationRow.holds Try.pinned (OpenSpec.ofChange fnHoldsOnlySplitsOverConcatenationSpec)

/-- ITS FALSE NEIGHBOUR: 'it returns false'. Refute it at one input. -/
def fnHoldsOnlySplitsOverConcatenationWrong : ChangeSpec := { name := "fnHoldsOnlySplitsOverConcatenation", fn := fun _ => fun
  | [d1, d2, d3] => { results := [.lit (.bool false)], args := [d1, d2, d3] }
  | _ => none }
def FnHoldsOnlySplitsOverConcatenationWrongFalsely : Prop := fnHoldsOnlySplitsOverConcatenationRow.holds Try.pinned (OpenSpec.ofChange fnHoldsOnlySplitsOverConcatenationWrong)

/-- 'zzlaws_pkg_scheduler_b1.FnHoldsOnlyExtraActsAsASet': WHATEVER THE INPUT: true; the input reads as it did. -/
def fnHoldsOnlyExtraActsAsASetSpec : ChangeSpec := { name := "fnHoldsOnlyExtraActsAsASet", fn := fun _ => fun
  | [d1, d2, d3, d4] => { results := [.lit (.bool true)], args := [d1, d2, d3, d4] }
  | _ => none }
def fnHoldsOnlyExtraActsAsASetRow : OpenClaim := { program := "qxb6604089a", sum := "2cb5a0791952a16f45d4e6b8692df3f63921ce9561725d6cfed517878b863f63", func := "example.com/persistent-job-scheduler/persistent-job-scheduler/zzlaws_pkg_scheduler_b1.FnHoldsOnlyExtraActsAsASet", spec := "fnHoldsOnlyExtraActsAsASet", inPlace := ["internal/bytealg.IndexByteString"], apart := false }
def FnHoldsOnlyExtraActsAsASetSaid : Prop := fnHoldsOnlyExtraActsAsASetRow.holds Try.pinned (OpenSpec.ofChange fnHoldsOnlyExtraActsAsASetSpec)

/-- ITS FALSE NEIGHBOUR: 'it returns false'. Refute it at one input. -/
def fnHoldsOnlyExtraActsAsASetWrong : ChangeSpec := { name := "fnHoldsOnlyExtraActsAsASet", fn := fun _ => fun
  | [d1, d2, d3, d4] => { results := [.lit (.bool false)], args := [d1, d2, d3, d4] }
  | _ => none }
def FnHoldsOnlyExtraActsAsASetWrongFalsely : Prop := fnHoldsOnlyExtraActsAsASetRow.holds Try.pinned (OpenSpec.ofChange fnHoldsOnlyExtraActsAsASetWrong)

end Rows
end Go.Proofs.Qxb6604089a
