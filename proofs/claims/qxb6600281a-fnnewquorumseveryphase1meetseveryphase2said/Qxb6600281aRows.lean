/-
  No cell of these rows narrows 'for every input' (looked for: loops, veiled, ifaces, maps, wideKeys, modest, calm, conditions, laid).
  DERIVED. THE GIVEN ROWS OF THIS SEAT. 7 by the template 'for every input the law returns true; each argument reads behind the call as it read before'; 0 by the template 'total and deterministic' (their statements: Qxb6600281aTotals.lean).
  GIVEN WITH THE SEED: the statements are not yours to turn. If you find one false, say at which input.
  Laid BY PROGRAM, IN A SANDBOX (cutbox-rows.mjs): the forced cells as the released guide's own fill.sh prints them over the translation a081ee9bc570535e… (all of the seat's roots in one cut). By AI agents, Wed Nov 11 2026. No macro, syntax, notation, axiom, sorry.
-/
import Derived.Test.Qxb6600281aChecked
import GoSem.Claim
import GoSem.ClaimJoined
import GoSem.ClaimMapViews
import Derived.JoinedTies
import Derived.KernelRfl
namespace Go.Proofs.Qxb6600281a
/- THE CELL 'sum', in the pinned program and in every row, IS THE sha256 OF THE DUMP (.gsa) THAT Qxb6600281aProg.lean LOADS. Nothing in Lean hashes anything: it is a label: what it is worth is what the hold of that sum in a sandbox is worth. -/
noncomputable def Try.pinned : Pinned := { name := "qxb6600281a", sum := "a081ee9bc570535e83f121974f2f7f5e9825b036a94eaec65807f7662b98701f", checked := Try.checked }
namespace Rows
def none {H : Type} : Left H := { results := [], args := [] }

/-- 'zzlaws_paxos_b1.FnNewQuorumsMajorityOfAcceptors': WHATEVER THE INPUT: true; the input reads as it did. -/
def fnNewQuorumsMajorityOfAcceptorsSpec : ChangeSpec := { name := "fnNewQuorumsMajorityOfAcceptors", fn := fun _ => fun
  | [d1, d2] => { results := [.lit (.bool true)], args := [d1, d2] }
  | _ => none }
def fnNewQuorumsMajorityOfAcceptorsRow : OpenClaim := { program := "qxb6600281a", sum := "a081ee9bc570535e83f121974f2f7f5e9825b036a94eaec65807f7662b98701f", func := "example.com/bulkhead/bulkhead/zzlaws_paxos_b1.FnNewQuorumsMajorityOfAcceptors", spec := "fnNewQuorumsMajorityOfAcceptors", apart := false }
def FnNewQuorumsMajorityOfAcceptorsSaid : Prop := fnNewQuorumsMajorityOfAcceptorsRow.holds Try.pinned (OpenSpec.ofChange fnNewQuorumsMajorityOfAcceptorsSpec)

/-- ITS FALSE NEIGHBOUR: 'it returns false'. Refute it at one input. -/
def fnNewQuorumsMajorityOfAcceptorsWrong : ChangeSpec := { name := "fnNewQuorumsMajorityOfAcceptors", fn := fun _ => fun
  | [d1, d2] => { results := [.lit (.bool false)], args := [d1, d2] }
  | _ => none }
def FnNewQuorumsMajorityOfAcceptorsWrongFalsely : Prop := fnNewQuorumsMajorityOfAcceptorsRow.holds Try.pinned (OpenSpec.ofChange fnNewQuorumsMajorityOfAcceptorsWrong)

/-- 'zzlaws_paxos_b1.FnNewQuorumsEveryPhase1MeetsEveryPhase2': WHATEVER THE INPUT: true; the input reads as it did. -/
def fnNewQuorumsEveryPhase1MeetsEveryPhase2Spec : ChangeSpec := { name := "fnNewQuorumsEveryPhase1MeetsEveryPhase2", fn := fun _ => fun
  | [d1, d2, d3] => { results := [.lit (.bool true)], args := [d1, d2, d3] }
  | _ => none }
def fnNewQuorumsEveryPhase1MeetsEveryPhase2Row : OpenClaim := { program := "qxb6600281a", sum := "a081ee9bc570535e83f121974f2f7f5e9825b036a94eaec65807f7662b98701f", func := "example.com/bulkhead/bulkhead/zzlaws_paxos_b1.FnNewQuorumsEveryPhase1MeetsEveryPhase2", spec := "fnNewQuorumsEveryPhase1MeetsEveryPhase2", apart := false }
def FnNewQuorumsEveryPhase1MeetsEveryPhase2Said : Prop := fnNewQuorumsEveryPhase1MeetsEveryPhase2Row.holds Try.pinned (OpenSpec.ofChange fnNewQuorumsEveryPhase1MeetsEveryPhase2Spec)

/-- ITS FALSE NEIGHBOUR: 'it returns false'. Refute it at one input. -/
def fnNewQuorumsEveryPhase1MeetsEveryPhase2Wrong : ChangeSpec := { name := "fnNewQuorumsEveryPhase1MeetsEveryPhase2", fn := fun _ => fun
  | [d1, d2, d3] => { results := [.lit (.bool false)], args := [d1, d2, d3] }
  | _ => none }
def FnNewQuorumsEveryPhase1MeetsEveryPhase2WrongFalsely : Prop := fnNewQuorumsEveryPhase1MeetsEveryPhase2Row.holds Try.pinned (OpenSpec.ofChange fnNewQuorumsEveryPhase1MeetsEveryPhase2Wrong)

/-- 'zzlaws_paxos_b1.FnLeastProgressIsLeastReportAtOrAboveFloor': WHATEVER THE INPUT: true; the input reads as it did. -/
def fnLeastProgressIsLeastReportAtOrAboveFloorSpec : ChangeSpec := { name := "fnLeastProgressIsLeastReportAtOrAboveFloor", fn := fun _ => fun
  | [d1, d2, d3, d4] => { results := [.lit (.bool true)], args := [d1, d2, d3, d4] }
  | _ => none }
def fnLeastProgressIsLeastReportAtOrAboveFloorRow : OpenClaim := { program := "qxb6600281a", sum := "a081ee9bc570535e83f121974f2f7f5e9825b036a94eaec65807f7662b98701f", func := "example.com/bulkhead/bulkhead/zzlaws_paxos_b1.FnLeastProgressIsLeastReportAtOrAboveFloor", spec := "fnLeastProgressIsLeastReportAtOrAboveFloor", apart := false }
def FnLeastProgressIsLeastReportAtOrAboveFloorSaid : Prop := fnLeastProgressIsLeastReportAtOrAboveFloorRow.holds Try.pinned (OpenSpec.ofChange fnLeastProgressIsLeastReportAtOrAboveFloorSpec)

/-- ITS FALSE NEIGHBOUR: 'it returns false'. Refute it at one input. -/
def fnLeastProgressIsLeastReportAtOrAboveFloorWrong : ChangeSpec := { name := "fnLeastProgressIsLeastReportAtOrAboveFloor", fn := fun _ => fun
  | [d1, d2, d3, d4] => { results := [.lit (.bool false)], args := [d1, d2, d3, d4] }
  | _ => none }
def FnLeastProgressIsLeastReportAtOrAboveFloorWrongFalsely : Prop := fnLeastProgressIsLeastReportAtOrAboveFloorRow.holds Try.pinned (OpenSpec.ofChange fnLeastProgressIsLeastReportAtOrAboveFloorWrong)

/-- 'zzlaws_paxos_b1.FnLeastProgressRisesWithFloor': WHATEVER THE INPUT: true; the input reads as it did. -/
def fnLeastProgressRisesWithFloorSpec : ChangeSpec := { name := "fnLeastProgressRisesWithFloor", fn := fun _ => fun
  | [d1, d2, d3, d4, d5] => { results := [.lit (.bool true)], args := [d1, d2, d3, d4, d5] }
  | _ => none }
def fnLeastProgressRisesWithFloorRow : OpenClaim := { program := "qxb6600281a", sum := "a081ee9bc570535e83f121974f2f7f5e9825b036a94eaec65807f7662b98701f", func := "example.com/bulkhead/bulkhead/zzlaws_paxos_b1.FnLeastProgressRisesWithFloor", spec := "fnLeastProgressRisesWithFloor", apart := false }
def FnLeastProgressRisesWithFloorSaid : Prop := fnLeastProgressRisesWithFloorRow.holds Try.pinned (OpenSpec.ofChange fnLeastProgressRisesWithFloorSpec)

/-- ITS FALSE NEIGHBOUR: 'it returns false'. Refute it at one input. -/
def fnLeastProgressRisesWithFloorWrong : ChangeSpec := { name := "fnLeastProgressRisesWithFloor", fn := fun _ => fun
  | [d1, d2, d3, d4, d5] => { results := [.lit (.bool false)], args := [d1, d2, d3, d4, d5] }
  | _ => none }
def FnLeastProgressRisesWithFloorWrongFalsely : Prop := fnLeastProgressRisesWithFloorRow.holds Try.pinned (OpenSpec.ofChange fnLeastProgressRisesWithFloorWrong)

/-- 'zzlaws_paxos_b1.FnLeastProgressSplitsOverReplicaLists': WHATEVER THE INPUT: true; the input reads as it did. -/
def fnLeastProgressSplitsOverReplicaListsSpec : ChangeSpec := { name := "fnLeastProgressSplitsOverReplicaLists", fn := fun _ => fun
  | [d1, d2, d3, d4, d5] => { results := [.lit (.bool true)], args := [d1, d2, d3, d4, d5] }
  | _ => none }
def fnLeastProgressSplitsOverReplicaListsRow : OpenClaim := { program := "qxb6600281a", sum := "a081ee9bc570535e83f121974f2f7f5e9825b036a94eaec65807f7662b98701f", func := "example.com/bulkhead/bulkhead/zzlaws_paxos_b1.FnLeastProgressSplitsOverReplicaLists", spec := "fnLeastProgressSplitsOverReplicaLists", apart := false }
def FnLeastProgressSplitsOverReplicaListsSaid : Prop := fnLeastProgressSplitsOverReplicaListsRow.holds Try.pinned (OpenSpec.ofChange fnLeastProgressSplitsOverReplicaListsSpec)

/-- ITS FALSE NEIGHBOUR: 'it returns false'. Refute it at one input. -/
def fnLeastProgressSplitsOverReplicaListsWrong : ChangeSpec := { name := "fnLeastProgressSplitsOverReplicaLists", fn := fun _ => fun
  | [d1, d2, d3, d4, d5] => { results := [.lit (.bool false)], args := [d1, d2, d3, d4, d5] }
  | _ => none }
def FnLeastProgressSplitsOverReplicaListsWrongFalsely : Prop := fnLeastProgressSplitsOverReplicaListsRow.holds Try.pinned (OpenSpec.ofChange fnLeastProgressSplitsOverReplicaListsWrong)

/-- 'zzlaws_paxos_b1.FnForgetDropsExactlyHeldBelowN': WHATEVER THE INPUT: true; the input reads as it did. -/
def fnForgetDropsExactlyHeldBelowNSpec : ChangeSpec := { name := "fnForgetDropsExactlyHeldBelowN", fn := fun _ => fun
  | [d1, d2, d3, d4] => { results := [.lit (.bool true)], args := [d1, d2, d3, d4] }
  | _ => none }
def fnForgetDropsExactlyHeldBelowNRow : OpenClaim := { program := "qxb6600281a", sum := "a081ee9bc570535e83f121974f2f7f5e9825b036a94eaec65807f7662b98701f", func := "example.com/bulkhead/bulkhead/zzlaws_paxos_b1.FnForgetDropsExactlyHeldBelowN", spec := "fnForgetDropsExactlyHeldBelowN", apart := false }
def FnForgetDropsExactlyHeldBelowNSaid : Prop := fnForgetDropsExactlyHeldBelowNRow.holds Try.pinned (OpenSpec.ofChange fnForgetDropsExactlyHeldBelowNSpec)

/-- ITS FALSE NEIGHBOUR: 'it returns false'. Refute it at one input. -/
def fnForgetDropsExactlyHeldBelowNWrong : ChangeSpec := { name := "fnForgetDropsExactlyHeldBelowN", fn := fun _ => fun
  | [d1, d2, d3, d4] => { results := [.lit (.bool false)], args := [d1, d2, d3, d4] }
  | _ => none }
def FnForgetDropsExactlyHeldBelowNWrongFalsely : Prop := fnForgetDropsExactlyHeldBelowNRow.holds Try.pinned (OpenSpec.ofChange fnForgetDropsExactlyHeldBelowNWrong)

/-- 'zzlaws_paxos_b1.FnForgetTwiceIsForgetOfLarger': WHATEVER THE INPUT: true; the input reads as it did. -/
def fnForgetTwiceIsForgetOfLargerSpec : ChangeSpec := { name := "fnForgetTwiceIsForgetOfLarger", fn := fun _ => fun
  | [d1, d2, d3, d4, d5] => { results := [.lit (.bool true)], args := [d1, d2, d3, d4, d5] }
  | _ => none }
def fnForgetTwiceIsForgetOfLargerRow : OpenClaim := { program := "qxb6600281a", sum := "a081ee9bc570535e83f121974f2f7f5e9825b036a94eaec65807f7662b98701f", func := "example.com/bulkhead/bulkhead/zzlaws_paxos_b1.FnForgetTwiceIsForgetOfLarger", spec := "fnForgetTwiceIsForgetOfLarger", apart := false }
def FnForgetTwiceIsForgetOfLargerSaid : Prop := fnForgetTwiceIsForgetOfLargerRow.holds Try.pinned (OpenSpec.ofChange fnForgetTwiceIsForgetOfLargerSpec)

/-- ITS FALSE NEIGHBOUR: 'it returns false'. Refute it at one input. -/
def fnForgetTwiceIsForgetOfLargerWrong : ChangeSpec := { name := "fnForgetTwiceIsForgetOfLarger", fn := fun _ => fun
  | [d1, d2, d3, d4, d5] => { results := [.lit (.bool false)], args := [d1, d2, d3, d4, d5] }
  | _ => none }
def FnForgetTwiceIsForgetOfLargerWrongFalsely : Prop := fnForgetTwiceIsForgetOfLargerRow.holds Try.pinned (OpenSpec.ofChange fnForgetTwiceIsForgetOfLargerWrong)

end Rows
end Go.Proofs.Qxb6600281a
