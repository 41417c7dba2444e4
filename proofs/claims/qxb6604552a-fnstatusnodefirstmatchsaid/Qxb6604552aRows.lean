/-
  No cell of these rows narrows 'for every input' (looked for: loops, veiled, ifaces, maps, wideKeys, modest, calm, conditions, laid).
  DERIVED. THE GIVEN ROWS OF THIS SEAT. 5 by the template 'for every input the law returns true; each argument reads behind the call as it read before'; 0 by the template 'total and deterministic' (their statements: Qxb6604552aTotals.lean).
  GIVEN WITH THE SEED: the statements are not yours to turn. If you find one false, say at which input.
  Laid BY PROGRAM, IN A SANDBOX (cutbox-rows.mjs): the forced cells as the released guide's own fill.sh prints them over the translation f9a7081641390114… (all of the seat's roots in one cut). By AI agents, Wed Nov 11 2026. No macro, syntax, notation, axiom, sorry.
-/
import Derived.Test.Qxb6604552aChecked
import GoSem.Claim
import GoSem.ClaimJoined
import GoSem.ClaimMapViews
import Derived.JoinedTies
import Derived.KernelRfl
namespace Go.Proofs.Qxb6604552a
/- THE CELL 'sum', in the pinned program and in every row, IS THE sha256 OF THE DUMP (.gsa) THAT Qxb6604552aProg.lean LOADS. Nothing in Lean hashes anything: it is a label: what it is worth is what the hold of that sum in a sandbox is worth. -/
noncomputable def Try.pinned : Pinned := { name := "qxb6604552a", sum := "f9a7081641390114ff773e65b93ca62740e93892e05cfadf023d812e3d4e35bc", checked := Try.checked }
namespace Rows
def none {H : Type} : Left H := { results := [], args := [] }

/-- 'zzlaws_pkg_ledger_b1.FnStatusNodeFirstMatch': WHATEVER THE INPUT: true; the input reads as it did. -/
def fnStatusNodeFirstMatchSpec : ChangeSpec := { name := "fnStatusNodeFirstMatch", fn := fun _ => fun
  | [d1, d2] => { results := [.lit (.bool true)], args := [d1, d2] }
  | _ => none }
def fnStatusNodeFirstMatchRow : OpenClaim := { program := "qxb6604552a", sum := "f9a7081641390114ff773e65b93ca62740e93892e05cfadf023d812e3d4e35bc", func := "example.com/enclave-key-manager/enclave-key-manager/zzlaws_pkg_ledger_b1.FnStatusNodeFirstMatch", spec := "fnStatusNodeFirstMatch", unfollowed := true, recurses := true, apart := false }
def FnStatusNodeFirstMatchSaid : Prop := fnStatusNodeFirstMatchRow.holds Try.pinned (OpenSpec.ofChange fnStatusNodeFirstMatchSpec)

/-- ITS FALSE NEIGHBOUR: 'it returns false'. Refute it at one input. -/
def fnStatusNodeFirstMatchWrong : ChangeSpec := { name := "fnStatusNodeFirstMatch", fn := fun _ => fun
  | [d1, d2] => { results := [.lit (.bool false)], args := [d1, d2] }
  | _ => none }
def FnStatusNodeFirstMatchWrongFalsely : Prop := fnStatusNodeFirstMatchRow.holds Try.pinned (OpenSpec.ofChange fnStatusNodeFirstMatchWrong)

/-- 'zzlaws_pkg_ledger_b1.FnStatusNodeAppendedIsFound': WHATEVER THE INPUT: true; the input reads as it did. -/
def fnStatusNodeAppendedIsFoundSpec : ChangeSpec := { name := "fnStatusNodeAppendedIsFound", fn := fun _ => fun
  | [d1, d2] => { results := [.lit (.bool true)], args := [d1, d2] }
  | _ => none }
def fnStatusNodeAppendedIsFoundRow : OpenClaim := { program := "qxb6604552a", sum := "f9a7081641390114ff773e65b93ca62740e93892e05cfadf023d812e3d4e35bc", func := "example.com/enclave-key-manager/enclave-key-manager/zzlaws_pkg_ledger_b1.FnStatusNodeAppendedIsFound", spec := "fnStatusNodeAppendedIsFound", unfollowed := true, recurses := true, apart := false }
def FnStatusNodeAppendedIsFoundSaid : Prop := fnStatusNodeAppendedIsFoundRow.holds Try.pinned (OpenSpec.ofChange fnStatusNodeAppendedIsFoundSpec)

/-- ITS FALSE NEIGHBOUR: 'it returns false'. Refute it at one input. -/
def fnStatusNodeAppendedIsFoundWrong : ChangeSpec := { name := "fnStatusNodeAppendedIsFound", fn := fun _ => fun
  | [d1, d2] => { results := [.lit (.bool false)], args := [d1, d2] }
  | _ => none }
def FnStatusNodeAppendedIsFoundWrongFalsely : Prop := fnStatusNodeAppendedIsFoundRow.holds Try.pinned (OpenSpec.ofChange fnStatusNodeAppendedIsFoundWrong)

/-- 'zzlaws_pkg_ledger_b1.FnPendingReturnsHeldProposal': WHATEVER THE INPUT: true; the input reads as it did. -/
def fnPendingReturnsHeldProposalSpec : ChangeSpec := { name := "fnPendingReturnsHeldProposal", fn := fun _ => fun
  | [d1, d2, d3, d4, d5, d6, d7, d8] => { results := [.lit (.bool true)], args := [d1, d2, d3, d4, d5, d6, d7, d8] }
  | _ => none }
def fnPendingReturnsHeldProposalRow : OpenClaim := { program := "qxb6604552a", sum := "f9a7081641390114ff773e65b93ca62740e93892e05cfadf023d812e3d4e35bc", func := "example.com/enclave-key-manager/enclave-key-manager/zzlaws_pkg_ledger_b1.FnPendingReturnsHeldProposal", spec := "fnPendingReturnsHeldProposal", apart := false }
def FnPendingReturnsHeldProposalSaid : Prop := fnPendingReturnsHeldProposalRow.holds Try.pinned (OpenSpec.ofChange fnPendingReturnsHeldProposalSpec)

/-- ITS FALSE NEIGHBOUR: 'it returns false'. Refute it at one input. -/
def fnPendingReturnsHeldProposalWrong : ChangeSpec := { name := "fnPendingReturnsHeldProposal", fn := fun _ => fun
  | [d1, d2, d3, d4, d5, d6, d7, d8] => { results := [.lit (.bool false)], args := [d1, d2, d3, d4, d5, d6, d7, d8] }
  | _ => none }
def FnPendingReturnsHeldProposalWrongFalsely : Prop := fnPendingReturnsHeldProposalRow.holds Try.pinned (OpenSpec.ofChange fnPendingReturnsHeldProposalWrong)

/-- 'zzlaws_pkg_ledger_b1.FnPendingHandsOutOwnCopy': WHATEVER THE INPUT: true; the input reads as it did. -/
def fnPendingHandsOutOwnCopySpec : ChangeSpec := { name := "fnPendingHandsOutOwnCopy", fn := fun _ => fun
  | [d1, d2, d3, d4, d5, d6, d7] => { results := [.lit (.bool true)], args := [d1, d2, d3, d4, d5, d6, d7] }
  | _ => none }
def fnPendingHandsOutOwnCopyRow : OpenClaim := { program := "qxb6604552a", sum := "f9a7081641390114ff773e65b93ca62740e93892e05cfadf023d812e3d4e35bc", func := "example.com/enclave-key-manager/enclave-key-manager/zzlaws_pkg_ledger_b1.FnPendingHandsOutOwnCopy", spec := "fnPendingHandsOutOwnCopy", apart := false }
def FnPendingHandsOutOwnCopySaid : Prop := fnPendingHandsOutOwnCopyRow.holds Try.pinned (OpenSpec.ofChange fnPendingHandsOutOwnCopySpec)

/-- ITS FALSE NEIGHBOUR: 'it returns false'. Refute it at one input. -/
def fnPendingHandsOutOwnCopyWrong : ChangeSpec := { name := "fnPendingHandsOutOwnCopy", fn := fun _ => fun
  | [d1, d2, d3, d4, d5, d6, d7] => { results := [.lit (.bool false)], args := [d1, d2, d3, d4, d5, d6, d7] }
  | _ => none }
def FnPendingHandsOutOwnCopyWrongFalsely : Prop := fnPendingHandsOutOwnCopyRow.holds Try.pinned (OpenSpec.ofChange fnPendingHandsOutOwnCopyWrong)

/-- 'zzlaws_pkg_ledger_b1.FnApplyUsedCheckedStaysStale': WHATEVER THE INPUT: true; the input reads as it did. -/
def fnApplyUsedCheckedStaysStaleSpec : ChangeSpec := { name := "fnApplyUsedCheckedStaysStale", fn := fun _ => fun
  | [d1, d2] => { results := [.lit (.bool true)], args := [d1, d2] }
  | _ => none }
def fnApplyUsedCheckedStaysStaleRow : OpenClaim := { program := "qxb6604552a", sum := "f9a7081641390114ff773e65b93ca62740e93892e05cfadf023d812e3d4e35bc", func := "example.com/enclave-key-manager/enclave-key-manager/zzlaws_pkg_ledger_b1.FnApplyUsedCheckedStaysStale", spec := "fnApplyUsedCheckedStaysStale", unfollowed := true, recurses := true, apart := false }
def FnApplyUsedCheckedStaysStaleSaid : Prop := fnApplyUsedCheckedStaysStaleRow.holds Try.pinned (OpenSpec.ofChange fnApplyUsedCheckedStaysStaleSpec)

/-- ITS FALSE NEIGHBOUR: 'it returns false'. Refute it at one input. -/
def fnApplyUsedCheckedStaysStaleWrong : ChangeSpec := { name := "fnApplyUsedCheckedStaysStale", fn := fun _ => fun
  | [d1, d2] => { results := [.lit (.bool false)], args := [d1, d2] }
  | _ => none }
def FnApplyUsedCheckedStaysStaleWrongFalsely : Prop := fnApplyUsedCheckedStaysStaleRow.holds Try.pinned (OpenSpec.ofChange fnApplyUsedCheckedStaysStaleWrong)

end Rows
end Go.Proofs.Qxb6604552a
