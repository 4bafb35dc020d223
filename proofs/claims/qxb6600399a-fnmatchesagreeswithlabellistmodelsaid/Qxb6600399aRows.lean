/-
  No cell of these rows narrows 'for every input' (looked for: loops, veiled, ifaces, maps, wideKeys, modest, calm, conditions, laid).
  DERIVED. THE GIVEN ROWS OF THIS SEAT. 6 by the template 'for every input the law returns true; each argument reads behind the call as it read before'; 0 by the template 'total and deterministic' (their statements: Qxb6600399aTotals.lean).
  GIVEN WITH THE SEED: the statements are not yours to turn. If you find one false, say at which input.
  Laid BY PROGRAM, IN A SANDBOX (cutbox-rows.mjs): the forced cells as the released guide's own fill.sh prints them over the translation d7038f83a8a96411… (all of the seat's roots in one cut). By AI agents, Wed Nov 11 2026. No macro, syntax, notation, axiom, sorry.
-/
import Derived.Test.Qxb6600399aChecked
import GoSem.Claim
import GoSem.ClaimJoined
import GoSem.ClaimMapViews
import Derived.JoinedTies
import Derived.KernelRfl
namespace Go.Proofs.Qxb6600399a
/- THE CELL 'sum', in the pinned program and in every row, IS THE sha256 OF THE DUMP (.gsa) THAT Qxb6600399aProg.lean LOADS. Nothing in Lean hashes anything: it is a label: what it is worth is what the hold of that sum in a sandbox is worth. -/
noncomputable def Try.pinned : Pinned := { name := "qxb6600399a", sum := "d7038f83a8a9641146207865435c3338c1f80398570d9eab13ae555a9eec62d2", checked := Try.checked }
namespace Rows
def none {H : Type} : Left H := { results := [], args := [] }

/-- 'zzlaws_internal_api_b1.FnSplitTermsCutsAtUnescapedCommas': WHATEVER THE INPUT: true; the input reads as it did. -/
def fnSplitTermsCutsAtUnescapedCommasSpec : ChangeSpec := { name := "fnSplitTermsCutsAtUnescapedCommas", fn := fun _ => fun
  | [d] => { results := [.lit (.bool true)], args := [d] }
  | _ => none }
def fnSplitTermsCutsAtUnescapedCommasRow : OpenClaim := { program := "qxb6600399a", sum := "d7038f83a8a9641146207865435c3338c1f80398570d9eab13ae555a9eec62d2", func := "example.com/countersign/countersign/zzlaws_internal_api_b1.FnSplitTermsCutsAtUnescapedCommas", spec := "fnSplitTermsCutsAtUnescapedCommas", apart := false }
def FnSplitTermsCutsAtUnescapedCommasSaid : Prop := fnSplitTermsCutsAtUnescapedCommasRow.holds Try.pinned (OpenSpec.ofChange fnSplitTermsCutsAtUnescapedCommasSpec)

/-- ITS FALSE NEIGHBOUR: 'it returns false'. Refute it at one input. -/
def fnSplitTermsCutsAtUnescapedCommasWrong : ChangeSpec := { name := "fnSplitTermsCutsAtUnescapedCommas", fn := fun _ => fun
  | [d] => { results := [.lit (.bool false)], args := [d] }
  | _ => none }
def FnSplitTermsCutsAtUnescapedCommasWrongFalsely : Prop := fnSplitTermsCutsAtUnescapedCommasRow.holds Try.pinned (OpenSpec.ofChange fnSplitTermsCutsAtUnescapedCommasWrong)

/-- 'zzlaws_internal_api_b1.FnSplitTermsInvertsEscapedJoin': WHATEVER THE INPUT: true; the input reads as it did. -/
def fnSplitTermsInvertsEscapedJoinSpec : ChangeSpec := { name := "fnSplitTermsInvertsEscapedJoin", fn := fun _ => fun
  | [d] => { results := [.lit (.bool true)], args := [d] }
  | _ => none }
def fnSplitTermsInvertsEscapedJoinRow : OpenClaim := { program := "qxb6600399a", sum := "d7038f83a8a9641146207865435c3338c1f80398570d9eab13ae555a9eec62d2", func := "example.com/countersign/countersign/zzlaws_internal_api_b1.FnSplitTermsInvertsEscapedJoin", spec := "fnSplitTermsInvertsEscapedJoin", apart := false }
def FnSplitTermsInvertsEscapedJoinSaid : Prop := fnSplitTermsInvertsEscapedJoinRow.holds Try.pinned (OpenSpec.ofChange fnSplitTermsInvertsEscapedJoinSpec)

/-- ITS FALSE NEIGHBOUR: 'it returns false'. Refute it at one input. -/
def fnSplitTermsInvertsEscapedJoinWrong : ChangeSpec := { name := "fnSplitTermsInvertsEscapedJoin", fn := fun _ => fun
  | [d] => { results := [.lit (.bool false)], args := [d] }
  | _ => none }
def FnSplitTermsInvertsEscapedJoinWrongFalsely : Prop := fnSplitTermsInvertsEscapedJoinRow.holds Try.pinned (OpenSpec.ofChange fnSplitTermsInvertsEscapedJoinWrong)

/-- 'zzlaws_internal_api_b1.FnLabelTokensArePartitionOfNonBlanks': WHATEVER THE INPUT: true; the input reads as it did. -/
def fnLabelTokensArePartitionOfNonBlanksSpec : ChangeSpec := { name := "fnLabelTokensArePartitionOfNonBlanks", fn := fun _ => fun
  | [d] => { results := [.lit (.bool true)], args := [d] }
  | _ => none }
def fnLabelTokensArePartitionOfNonBlanksRow : OpenClaim := { program := "qxb6600399a", sum := "d7038f83a8a9641146207865435c3338c1f80398570d9eab13ae555a9eec62d2", func := "example.com/countersign/countersign/zzlaws_internal_api_b1.FnLabelTokensArePartitionOfNonBlanks", spec := "fnLabelTokensArePartitionOfNonBlanks", inPlace := ["internal/bytealg.IndexByteString"], apart := false }
def FnLabelTokensArePartitionOfNonBlanksSaid : Prop := fnLabelTokensArePartitionOfNonBlanksRow.holds Try.pinned (OpenSpec.ofChange fnLabelTokensArePartitionOfNonBlanksSpec)

/-- ITS FALSE NEIGHBOUR: 'it returns false'. Refute it at one input. -/
def fnLabelTokensArePartitionOfNonBlanksWrong : ChangeSpec := { name := "fnLabelTokensArePartitionOfNonBlanks", fn := fun _ => fun
  | [d] => { results := [.lit (.bool false)], args := [d] }
  | _ => none }
def FnLabelTokensArePartitionOfNonBlanksWrongFalsely : Prop := fnLabelTokensArePartitionOfNonBlanksRow.holds Try.pinned (OpenSpec.ofChange fnLabelTokensArePartitionOfNonBlanksWrong)

/-- 'zzlaws_internal_api_b1.FnLabelTokensStableUnderRejoining': WHATEVER THE INPUT: true; the input reads as it did. -/
def fnLabelTokensStableUnderRejoiningSpec : ChangeSpec := { name := "fnLabelTokensStableUnderRejoining", fn := fun _ => fun
  | [d] => { results := [.lit (.bool true)], args := [d] }
  | _ => none }
def fnLabelTokensStableUnderRejoiningRow : OpenClaim := { program := "qxb6600399a", sum := "d7038f83a8a9641146207865435c3338c1f80398570d9eab13ae555a9eec62d2", func := "example.com/countersign/countersign/zzlaws_internal_api_b1.FnLabelTokensStableUnderRejoining", spec := "fnLabelTokensStableUnderRejoining", inPlace := ["internal/bytealg.IndexByteString"], apart := false }
def FnLabelTokensStableUnderRejoiningSaid : Prop := fnLabelTokensStableUnderRejoiningRow.holds Try.pinned (OpenSpec.ofChange fnLabelTokensStableUnderRejoiningSpec)

/-- ITS FALSE NEIGHBOUR: 'it returns false'. Refute it at one input. -/
def fnLabelTokensStableUnderRejoiningWrong : ChangeSpec := { name := "fnLabelTokensStableUnderRejoining", fn := fun _ => fun
  | [d] => { results := [.lit (.bool false)], args := [d] }
  | _ => none }
def FnLabelTokensStableUnderRejoiningWrongFalsely : Prop := fnLabelTokensStableUnderRejoiningRow.holds Try.pinned (OpenSpec.ofChange fnLabelTokensStableUnderRejoiningWrong)

/-- 'zzlaws_internal_api_b1.FnMatchesAgreesWithLabelListModel': WHATEVER THE INPUT: true; the input reads as it did. -/
def fnMatchesAgreesWithLabelListModelSpec : ChangeSpec := { name := "fnMatchesAgreesWithLabelListModel", fn := fun _ => fun
  | [d1, d2, d3, d4, d5] => { results := [.lit (.bool true)], args := [d1, d2, d3, d4, d5] }
  | _ => none }
def fnMatchesAgreesWithLabelListModelRow : OpenClaim := { program := "qxb6600399a", sum := "d7038f83a8a9641146207865435c3338c1f80398570d9eab13ae555a9eec62d2", func := "example.com/countersign/countersign/zzlaws_internal_api_b1.FnMatchesAgreesWithLabelListModel", spec := "fnMatchesAgreesWithLabelListModel", apart := false }
def FnMatchesAgreesWithLabelListModelSaid : Prop := fnMatchesAgreesWithLabelListModelRow.holds Try.pinned (OpenSpec.ofChange fnMatchesAgreesWithLabelListModelSpec)

/-- ITS FALSE NEIGHBOUR: 'it returns false'. Refute it at one input. -/
def fnMatchesAgreesWithLabelListModelWrong : ChangeSpec := { name := "fnMatchesAgreesWithLabelListModel", fn := fun _ => fun
  | [d1, d2, d3, d4, d5] => { results := [.lit (.bool false)], args := [d1, d2, d3, d4, d5] }
  | _ => none }
def FnMatchesAgreesWithLabelListModelWrongFalsely : Prop := fnMatchesAgreesWithLabelListModelRow.holds Try.pinned (OpenSpec.ofChange fnMatchesAgreesWithLabelListModelWrong)

/-- 'zzlaws_internal_api_b1.FnMatchesOfJoinedSelectorsIsConjunction': WHATEVER THE INPUT: true; the input reads as it did. -/
def fnMatchesOfJoinedSelectorsIsConjunctionSpec : ChangeSpec := { name := "fnMatchesOfJoinedSelectorsIsConjunction", fn := fun _ => fun
  | [d1, d2, d3, d4, d5, d6, d7, d8] => { results := [.lit (.bool true)], args := [d1, d2, d3, d4, d5, d6, d7, d8] }
  | _ => none }
def fnMatchesOfJoinedSelectorsIsConjunctionRow : OpenClaim := { program := "qxb6600399a", sum := "d7038f83a8a9641146207865435c3338c1f80398570d9eab13ae555a9eec62d2", func := "example.com/countersign/countersign/zzlaws_internal_api_b1.FnMatchesOfJoinedSelectorsIsConjunction", spec := "fnMatchesOfJoinedSelectorsIsConjunction", apart := false }
def FnMatchesOfJoinedSelectorsIsConjunctionSaid : Prop := fnMatchesOfJoinedSelectorsIsConjunctionRow.holds Try.pinned (OpenSpec.ofChange fnMatchesOfJoinedSelectorsIsConjunctionSpec)

/-- ITS FALSE NEIGHBOUR: 'it returns false'. Refute it at one input. -/
def fnMatchesOfJoinedSelectorsIsConjunctionWrong : ChangeSpec := { name := "fnMatchesOfJoinedSelectorsIsConjunction", fn := fun _ => fun
  | [d1, d2, d3, d4, d5, d6, d7, d8] => { results := [.lit (.bool false)], args := [d1, d2, d3, d4, d5, d6, d7, d8] }
  | _ => none }
def FnMatchesOfJoinedSelectorsIsConjunctionWrongFalsely : Prop := fnMatchesOfJoinedSelectorsIsConjunctionRow.holds Try.pinned (OpenSpec.ofChange fnMatchesOfJoinedSelectorsIsConjunctionWrong)

end Rows
end Go.Proofs.Qxb6600399a
