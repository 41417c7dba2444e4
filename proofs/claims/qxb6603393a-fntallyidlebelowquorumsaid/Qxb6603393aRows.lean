/-
  No cell of these rows narrows 'for every input' (looked for: loops, veiled, ifaces, maps, wideKeys, modest, calm, conditions, laid).
  DERIVED. THE GIVEN ROWS OF THIS SEAT. 6 by the template 'for every input the law returns true; each argument reads behind the call as it read before'; 0 by the template 'total and deterministic' (their statements: Qxb6603393aTotals.lean).
  GIVEN WITH THE SEED: the statements are not yours to turn. If you find one false, say at which input.
  Laid BY PROGRAM, IN A SANDBOX (cutbox-rows.mjs): the forced cells as the released guide's own fill.sh prints them over the translation fdb44f887ff5c288… (all of the seat's roots in one cut). By AI agents, Wed Nov 11 2026. No macro, syntax, notation, axiom, sorry.
-/
import Derived.Test.Qxb6603393aChecked
import GoSem.Claim
import GoSem.ClaimJoined
import GoSem.ClaimMapViews
import Derived.JoinedTies
import Derived.KernelRfl
namespace Go.Proofs.Qxb6603393a
/- THE CELL 'sum', in the pinned program and in every row, IS THE sha256 OF THE DUMP (.gsa) THAT Qxb6603393aProg.lean LOADS. Nothing in Lean hashes anything: it is a label: what it is worth is what the hold of that sum in a sandbox is worth. -/
noncomputable def Try.pinned : Pinned := { name := "qxb6603393a", sum := "fdb44f887ff5c28889159e77ef399478afb161617a2aa82b193131231c17ee7b", checked := Try.checked }
namespace Rows
def none {H : Type} : Left H := { results := [], args := [] }

/-- 'zzlaws_root_b1.FnWitnessBehindBound': WHATEVER THE INPUT: true; the input reads as it did. -/
def fnWitnessBehindBoundSpec : ChangeSpec := { name := "fnWitnessBehindBound", fn := fun _ => fun
  | [d1, d2, d3, d4, d5, d6, d7] => { results := [.lit (.bool true)], args := [d1, d2, d3, d4, d5, d6, d7] }
  | _ => none }
def fnWitnessBehindBoundRow : OpenClaim := { program := "qxb6603393a", sum := "fdb44f887ff5c28889159e77ef399478afb161617a2aa82b193131231c17ee7b", func := "example.com/forbear/forbear/zzlaws_root_b1.FnWitnessBehindBound", spec := "fnWitnessBehindBound", apart := false }
def FnWitnessBehindBoundSaid : Prop := fnWitnessBehindBoundRow.holds Try.pinned (OpenSpec.ofChange fnWitnessBehindBoundSpec)

/-- ITS FALSE NEIGHBOUR: 'it returns false'. Refute it at one input. -/
def fnWitnessBehindBoundWrong : ChangeSpec := { name := "fnWitnessBehindBound", fn := fun _ => fun
  | [d1, d2, d3, d4, d5, d6, d7] => { results := [.lit (.bool false)], args := [d1, d2, d3, d4, d5, d6, d7] }
  | _ => none }
def FnWitnessBehindBoundWrongFalsely : Prop := fnWitnessBehindBoundRow.holds Try.pinned (OpenSpec.ofChange fnWitnessBehindBoundWrong)

/-- 'zzlaws_root_b1.FnNoteCrashesIdempotent': WHATEVER THE INPUT: true; the input reads as it did. -/
def fnNoteCrashesIdempotentSpec : ChangeSpec := { name := "fnNoteCrashesIdempotent", fn := fun _ => fun
  | [d1, d2, d3, d4, d5] => { results := [.lit (.bool true)], args := [d1, d2, d3, d4, d5] }
  | _ => none }
def fnNoteCrashesIdempotentRow : OpenClaim := { program := "qxb6603393a", sum := "fdb44f887ff5c28889159e77ef399478afb161617a2aa82b193131231c17ee7b", func := "example.com/forbear/forbear/zzlaws_root_b1.FnNoteCrashesIdempotent", spec := "fnNoteCrashesIdempotent", apart := false }
def FnNoteCrashesIdempotentSaid : Prop := fnNoteCrashesIdempotentRow.holds Try.pinned (OpenSpec.ofChange fnNoteCrashesIdempotentSpec)

/-- ITS FALSE NEIGHBOUR: 'it returns false'. Refute it at one input. -/
def fnNoteCrashesIdempotentWrong : ChangeSpec := { name := "fnNoteCrashesIdempotent", fn := fun _ => fun
  | [d1, d2, d3, d4, d5] => { results := [.lit (.bool false)], args := [d1, d2, d3, d4, d5] }
  | _ => none }
def FnNoteCrashesIdempotentWrongFalsely : Prop := fnNoteCrashesIdempotentRow.holds Try.pinned (OpenSpec.ofChange fnNoteCrashesIdempotentWrong)

/-- 'zzlaws_root_b1.FnNoteCrashesCountInvariant': WHATEVER THE INPUT: true; the input reads as it did. -/
def fnNoteCrashesCountInvariantSpec : ChangeSpec := { name := "fnNoteCrashesCountInvariant", fn := fun _ => fun
  | [d1, d2, d3, d4, d5] => { results := [.lit (.bool true)], args := [d1, d2, d3, d4, d5] }
  | _ => none }
def fnNoteCrashesCountInvariantRow : OpenClaim := { program := "qxb6603393a", sum := "fdb44f887ff5c28889159e77ef399478afb161617a2aa82b193131231c17ee7b", func := "example.com/forbear/forbear/zzlaws_root_b1.FnNoteCrashesCountInvariant", spec := "fnNoteCrashesCountInvariant", apart := false }
def FnNoteCrashesCountInvariantSaid : Prop := fnNoteCrashesCountInvariantRow.holds Try.pinned (OpenSpec.ofChange fnNoteCrashesCountInvariantSpec)

/-- ITS FALSE NEIGHBOUR: 'it returns false'. Refute it at one input. -/
def fnNoteCrashesCountInvariantWrong : ChangeSpec := { name := "fnNoteCrashesCountInvariant", fn := fun _ => fun
  | [d1, d2, d3, d4, d5] => { results := [.lit (.bool false)], args := [d1, d2, d3, d4, d5] }
  | _ => none }
def FnNoteCrashesCountInvariantWrongFalsely : Prop := fnNoteCrashesCountInvariantRow.holds Try.pinned (OpenSpec.ofChange fnNoteCrashesCountInvariantWrong)

/-- 'zzlaws_root_b1.FnTallySpec': WHATEVER THE INPUT: true; the input reads as it did. -/
def fnTallySpecSpec : ChangeSpec := { name := "fnTallySpec", fn := fun _ => fun
  | [d1, d2, d3, d4] => { results := [.lit (.bool true)], args := [d1, d2, d3, d4] }
  | _ => none }
def fnTallySpecRow : OpenClaim := { program := "qxb6603393a", sum := "fdb44f887ff5c28889159e77ef399478afb161617a2aa82b193131231c17ee7b", func := "example.com/forbear/forbear/zzlaws_root_b1.FnTallySpec", spec := "fnTallySpec", apart := false }
def FnTallySpecSaid : Prop := fnTallySpecRow.holds Try.pinned (OpenSpec.ofChange fnTallySpecSpec)

/-- ITS FALSE NEIGHBOUR: 'it returns false'. Refute it at one input. -/
def fnTallySpecWrong : ChangeSpec := { name := "fnTallySpec", fn := fun _ => fun
  | [d1, d2, d3, d4] => { results := [.lit (.bool false)], args := [d1, d2, d3, d4] }
  | _ => none }
def FnTallySpecWrongFalsely : Prop := fnTallySpecRow.holds Try.pinned (OpenSpec.ofChange fnTallySpecWrong)

/-- 'zzlaws_root_b1.FnTallyDecidesAcknowledged': WHATEVER THE INPUT: true; the input reads as it did. -/
def fnTallyDecidesAcknowledgedSpec : ChangeSpec := { name := "fnTallyDecidesAcknowledged", fn := fun _ => fun
  | [d1, d2, d3, d4] => { results := [.lit (.bool true)], args := [d1, d2, d3, d4] }
  | _ => none }
def fnTallyDecidesAcknowledgedRow : OpenClaim := { program := "qxb6603393a", sum := "fdb44f887ff5c28889159e77ef399478afb161617a2aa82b193131231c17ee7b", func := "example.com/forbear/forbear/zzlaws_root_b1.FnTallyDecidesAcknowledged", spec := "fnTallyDecidesAcknowledged", apart := false }
def FnTallyDecidesAcknowledgedSaid : Prop := fnTallyDecidesAcknowledgedRow.holds Try.pinned (OpenSpec.ofChange fnTallyDecidesAcknowledgedSpec)

/-- ITS FALSE NEIGHBOUR: 'it returns false'. Refute it at one input. -/
def fnTallyDecidesAcknowledgedWrong : ChangeSpec := { name := "fnTallyDecidesAcknowledged", fn := fun _ => fun
  | [d1, d2, d3, d4] => { results := [.lit (.bool false)], args := [d1, d2, d3, d4] }
  | _ => none }
def FnTallyDecidesAcknowledgedWrongFalsely : Prop := fnTallyDecidesAcknowledgedRow.holds Try.pinned (OpenSpec.ofChange fnTallyDecidesAcknowledgedWrong)

/-- 'zzlaws_root_b1.FnTallyIdleBelowQuorum': WHATEVER THE INPUT: true; the input reads as it did. -/
def fnTallyIdleBelowQuorumSpec : ChangeSpec := { name := "fnTallyIdleBelowQuorum", fn := fun _ => fun
  | [d1, d2, d3, d4] => { results := [.lit (.bool true)], args := [d1, d2, d3, d4] }
  | _ => none }
def fnTallyIdleBelowQuorumRow : OpenClaim := { program := "qxb6603393a", sum := "fdb44f887ff5c28889159e77ef399478afb161617a2aa82b193131231c17ee7b", func := "example.com/forbear/forbear/zzlaws_root_b1.FnTallyIdleBelowQuorum", spec := "fnTallyIdleBelowQuorum", apart := false }
def FnTallyIdleBelowQuorumSaid : Prop := fnTallyIdleBelowQuorumRow.holds Try.pinned (OpenSpec.ofChange fnTallyIdleBelowQuorumSpec)

/-- ITS FALSE NEIGHBOUR: 'it returns false'. Refute it at one input. -/
def fnTallyIdleBelowQuorumWrong : ChangeSpec := { name := "fnTallyIdleBelowQuorum", fn := fun _ => fun
  | [d1, d2, d3, d4] => { results := [.lit (.bool false)], args := [d1, d2, d3, d4] }
  | _ => none }
def FnTallyIdleBelowQuorumWrongFalsely : Prop := fnTallyIdleBelowQuorumRow.holds Try.pinned (OpenSpec.ofChange fnTallyIdleBelowQuorumWrong)

end Rows
end Go.Proofs.Qxb6603393a
