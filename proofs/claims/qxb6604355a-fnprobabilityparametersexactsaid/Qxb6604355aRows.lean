/-
  No cell of these rows narrows 'for every input' (looked for: loops, veiled, ifaces, maps, wideKeys, modest, calm, conditions, laid).
  DERIVED. THE GIVEN ROWS OF THIS SEAT. 2 by the template 'for every input the law returns true; each argument reads behind the call as it read before'; 0 by the template 'total and deterministic' (their statements: Qxb6604355aTotals.lean).
  GIVEN WITH THE SEED: the statements are not yours to turn. If you find one false, say at which input.
  Laid BY PROGRAM, IN A SANDBOX (cutbox-rows.mjs): the forced cells as the released guide's own fill.sh prints them over the translation 71266cbadea8cd28… (all of the seat's roots in one cut). By AI agents, Wed Nov 11 2026. No macro, syntax, notation, axiom, sorry.
-/
import Derived.Test.Qxb6604355aChecked
import GoSem.Claim
import GoSem.ClaimJoined
import GoSem.ClaimMapViews
import Derived.JoinedTies
import Derived.KernelRfl
namespace Go.Proofs.Qxb6604355a
/- THE CELL 'sum', in the pinned program and in every row, IS THE sha256 OF THE DUMP (.gsa) THAT Qxb6604355aProg.lean LOADS. Nothing in Lean hashes anything: it is a label: what it is worth is what the hold of that sum in a sandbox is worth. -/
noncomputable def Try.pinned : Pinned := { name := "qxb6604355a", sum := "71266cbadea8cd281d52bf0c00d7bb7e215cc077972e62ba9e0035846f4112a0", checked := Try.checked }
namespace Rows
def none {H : Type} : Left H := { results := [], args := [] }

/-- 'zzlaws_internal_selector_b1.FnProbabilityParametersExact': WHATEVER THE INPUT: true; the input reads as it did. -/
def fnProbabilityParametersExactSpec : ChangeSpec := { name := "fnProbabilityParametersExact", fn := fun _ => fun
  | [d] => { results := [.lit (.bool true)], args := [d] }
  | _ => none }
def fnProbabilityParametersExactRow : OpenClaim := { program := "qxb6604355a", sum := "71266cbadea8cd281d52bf0c00d7bb7e215cc077972e62ba9e0035846f4112a0", func := "example.com/packetsieve/packetsieve/zzlaws_internal_selector_b1.FnProbabilityParametersExact", spec := "fnProbabilityParametersExact", inPlace := ["math.Float64bits"], apart := false }
def FnProbabilityParametersExactSaid : Prop := fnProbabilityParametersExactRow.holds Try.pinned (OpenSpec.ofChange fnProbabilityParametersExactSpec)

/-- ITS FALSE NEIGHBOUR: 'it returns false'. Refute it at one input. -/
def fnProbabilityParametersExactWrong : ChangeSpec := { name := "fnProbabilityParametersExact", fn := fun _ => fun
  | [d] => { results := [.lit (.bool false)], args := [d] }
  | _ => none }
def FnProbabilityParametersExactWrongFalsely : Prop := fnProbabilityParametersExactRow.holds Try.pinned (OpenSpec.ofChange fnProbabilityParametersExactWrong)

/-- 'zzlaws_internal_selector_b1.FnProbabilityParametersOrdered': WHATEVER THE INPUT: true; the input reads as it did. -/
def fnProbabilityParametersOrderedSpec : ChangeSpec := { name := "fnProbabilityParametersOrdered", fn := fun _ => fun
  | [d1, d2] => { results := [.lit (.bool true)], args := [d1, d2] }
  | _ => none }
def fnProbabilityParametersOrderedRow : OpenClaim := { program := "qxb6604355a", sum := "71266cbadea8cd281d52bf0c00d7bb7e215cc077972e62ba9e0035846f4112a0", func := "example.com/packetsieve/packetsieve/zzlaws_internal_selector_b1.FnProbabilityParametersOrdered", spec := "fnProbabilityParametersOrdered", inPlace := ["math.Float64bits"], apart := false }
def FnProbabilityParametersOrderedSaid : Prop := fnProbabilityParametersOrderedRow.holds Try.pinned (OpenSpec.ofChange fnProbabilityParametersOrderedSpec)

/-- ITS FALSE NEIGHBOUR: 'it returns false'. Refute it at one input. -/
def fnProbabilityParametersOrderedWrong : ChangeSpec := { name := "fnProbabilityParametersOrdered", fn := fun _ => fun
  | [d1, d2] => { results := [.lit (.bool false)], args := [d1, d2] }
  | _ => none }
def FnProbabilityParametersOrderedWrongFalsely : Prop := fnProbabilityParametersOrderedRow.holds Try.pinned (OpenSpec.ofChange fnProbabilityParametersOrderedWrong)

end Rows
end Go.Proofs.Qxb6604355a
