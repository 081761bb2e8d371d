/-
  No cell of these rows narrows 'for every input' (looked for: loops, veiled, ifaces, maps, wideKeys, modest, calm, conditions, laid).
  DERIVED. THE GIVEN ROWS OF THIS SEAT. 1 by the template 'for every input the law returns true; each argument reads behind the call as it read before'; 0 by the template 'total and deterministic' (their statements: Qxb6604131aTotals.lean).
  GIVEN WITH THE SEED: the statements are not yours to turn. If you find one false, say at which input.
  Laid BY PROGRAM, IN A SANDBOX (cutbox-rows.mjs): the forced cells as the released guide's own fill.sh prints them over the translation 47dd698e74af105c… (all of the seat's roots in one cut). By AI agents, Wed Nov 11 2026. No macro, syntax, notation, axiom, sorry.
-/
import Derived.Test.Qxb6604131aChecked
import GoSem.Claim
import GoSem.ClaimJoined
import GoSem.ClaimMapViews
import Derived.JoinedTies
import Derived.KernelRfl
namespace Go.Proofs.Qxb6604131a
/- THE CELL 'sum', in the pinned program and in every row, IS THE sha256 OF THE DUMP (.gsa) THAT Qxb6604131aProg.lean LOADS. Nothing in Lean hashes anything: it is a label: what it is worth is what the hold of that sum in a sandbox is worth. -/
noncomputable def Try.pinned : Pinned := { name := "qxb6604131a", sum := "47dd698e74af105c5225d9c214f64dd7626637b8183ec6e65603f735971a5e2f", checked := Try.checked }
namespace Rows
def none {H : Type} : Left H := { results := [], args := [] }

/-- 'zzlaws_pkg_value_b1.FnValueAppendEscapedUnescapes': WHATEVER THE INPUT: true; the input reads as it did. -/
def fnValueAppendEscapedUnescapesSpec : ChangeSpec := { name := "fnValueAppendEscapedUnescapes", fn := fun _ => fun
  | [d1, d2, d3] => { results := [.lit (.bool true)], args := [d1, d2, d3] }
  | _ => none }
def fnValueAppendEscapedUnescapesRow : OpenClaim := { program := "qxb6604131a", sum := "47dd698e74af105c5225d9c214f64dd7626637b8183ec6e65603f735971a5e2f", func := "example.com/epochline/epochline/zzlaws_pkg_value_b1.FnValueAppendEscapedUnescapes", spec := "fnValueAppendEscapedUnescapes", inPlace := ["internal/bytealg.IndexByteString"], apart := false }
def FnValueAppendEscapedUnescapesSaid : Prop := fnValueAppendEscapedUnescapesRow.holds Try.pinned (OpenSpec.ofChange fnValueAppendEscapedUnescapesSpec)

/-- ITS FALSE NEIGHBOUR: 'it returns false'. Refute it at one input. -/
def fnValueAppendEscapedUnescapesWrong : ChangeSpec := { name := "fnValueAppendEscapedUnescapes", fn := fun _ => fun
  | [d1, d2, d3] => { results := [.lit (.bool false)], args := [d1, d2, d3] }
  | _ => none }
def FnValueAppendEscapedUnescapesWrongFalsely : Prop := fnValueAppendEscapedUnescapesRow.holds Try.pinned (OpenSpec.ofChange fnValueAppendEscapedUnescapesWrong)

end Rows
end Go.Proofs.Qxb6604131a
