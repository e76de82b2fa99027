/-
  No cell of these rows narrows 'for every input' (looked for: loops, veiled, ifaces, maps, wideKeys, modest, calm, conditions, laid).
  DERIVED. THE GIVEN ROWS OF THIS SEAT. 5 by the template 'for every input the law returns true; each argument reads behind the call as it read before'; 0 by the template 'total and deterministic' (their statements: Qxb6600159aTotals.lean).
  GIVEN WITH THE SEED: the statements are not yours to turn. If you find one false, say at which input.
  Laid BY PROGRAM, IN A SANDBOX (cutbox-rows.mjs): the forced cells as the released guide's own fill.sh prints them over the translation a9c2466ddf9b9602… (all of the seat's roots in one cut). By AI agents, Wed Nov 11 2026. No macro, syntax, notation, axiom, sorry.
-/
import Derived.Test.Qxb6600159aChecked
import GoSem.Claim
import GoSem.ClaimJoined
import GoSem.ClaimMapViews
import Derived.JoinedTies
import Derived.KernelRfl
namespace Go.Proofs.Qxb6600159a
/- THE CELL 'sum', in the pinned program and in every row, IS THE sha256 OF THE DUMP (.gsa) THAT Qxb6600159aProg.lean LOADS. Nothing in Lean hashes anything: it is a label: what it is worth is what the hold of that sum in a sandbox is worth. -/
noncomputable def Try.pinned : Pinned := { name := "qxb6600159a", sum := "a9c2466ddf9b9602c5fbbdf1f87d7cf3ddee0b928c91d2b95af87ce79f0426ee", checked := Try.checked }
namespace Rows
def none {H : Type} : Left H := { results := [], args := [] }

/-- 'zzlaws_route_b1.FnNextMergesAscendingListsIntoSortedUnion': WHATEVER THE INPUT: true; the input reads as it did. -/
def fnNextMergesAscendingListsIntoSortedUnionSpec : ChangeSpec := { name := "fnNextMergesAscendingListsIntoSortedUnion", fn := fun _ => fun
  | [d] => { results := [.lit (.bool true)], args := [d] }
  | _ => none }
def fnNextMergesAscendingListsIntoSortedUnionRow : OpenClaim := { program := "qxb6600159a", sum := "a9c2466ddf9b9602c5fbbdf1f87d7cf3ddee0b928c91d2b95af87ce79f0426ee", func := "example.com/gatewright/gatewright/zzlaws_route_b1.FnNextMergesAscendingListsIntoSortedUnion", spec := "fnNextMergesAscendingListsIntoSortedUnion", apart := false }
def FnNextMergesAscendingListsIntoSortedUnionSaid : Prop := fnNextMergesAscendingListsIntoSortedUnionRow.holds Try.pinned (OpenSpec.ofChange fnNextMergesAscendingListsIntoSortedUnionSpec)

/-- ITS FALSE NEIGHBOUR: 'it returns false'. Refute it at one input. -/
def fnNextMergesAscendingListsIntoSortedUnionWrong : ChangeSpec := { name := "fnNextMergesAscendingListsIntoSortedUnion", fn := fun _ => fun
  | [d] => { results := [.lit (.bool false)], args := [d] }
  | _ => none }
def FnNextMergesAscendingListsIntoSortedUnionWrongFalsely : Prop := fnNextMergesAscendingListsIntoSortedUnionRow.holds Try.pinned (OpenSpec.ofChange fnNextMergesAscendingListsIntoSortedUnionWrong)

/-- 'zzlaws_route_b1.FnNextIsIndependentOfTheOrderOfLists': WHATEVER THE INPUT: true; the input reads as it did. -/
def fnNextIsIndependentOfTheOrderOfListsSpec : ChangeSpec := { name := "fnNextIsIndependentOfTheOrderOfLists", fn := fun _ => fun
  | [d] => { results := [.lit (.bool true)], args := [d] }
  | _ => none }
def fnNextIsIndependentOfTheOrderOfListsRow : OpenClaim := { program := "qxb6600159a", sum := "a9c2466ddf9b9602c5fbbdf1f87d7cf3ddee0b928c91d2b95af87ce79f0426ee", func := "example.com/gatewright/gatewright/zzlaws_route_b1.FnNextIsIndependentOfTheOrderOfLists", spec := "fnNextIsIndependentOfTheOrderOfLists", apart := false }
def FnNextIsIndependentOfTheOrderOfListsSaid : Prop := fnNextIsIndependentOfTheOrderOfListsRow.holds Try.pinned (OpenSpec.ofChange fnNextIsIndependentOfTheOrderOfListsSpec)

/-- ITS FALSE NEIGHBOUR: 'it returns false'. Refute it at one input. -/
def fnNextIsIndependentOfTheOrderOfListsWrong : ChangeSpec := { name := "fnNextIsIndependentOfTheOrderOfLists", fn := fun _ => fun
  | [d] => { results := [.lit (.bool false)], args := [d] }
  | _ => none }
def FnNextIsIndependentOfTheOrderOfListsWrongFalsely : Prop := fnNextIsIndependentOfTheOrderOfListsRow.holds Try.pinned (OpenSpec.ofChange fnNextIsIndependentOfTheOrderOfListsWrong)

/-- 'zzlaws_route_b1.FnCandidatesAreTheRulesThatMatchPath': WHATEVER THE INPUT: true; the input reads as it did. -/
def fnCandidatesAreTheRulesThatMatchPathSpec : ChangeSpec := { name := "fnCandidatesAreTheRulesThatMatchPath", fn := fun _ => fun
  | [d1, d2, d3, d4, d5, d6] => { results := [.lit (.bool true)], args := [d1, d2, d3, d4, d5, d6] }
  | _ => none }
def fnCandidatesAreTheRulesThatMatchPathRow : OpenClaim := { program := "qxb6600159a", sum := "a9c2466ddf9b9602c5fbbdf1f87d7cf3ddee0b928c91d2b95af87ce79f0426ee", func := "example.com/gatewright/gatewright/zzlaws_route_b1.FnCandidatesAreTheRulesThatMatchPath", spec := "fnCandidatesAreTheRulesThatMatchPath", apart := false }
def FnCandidatesAreTheRulesThatMatchPathSaid : Prop := fnCandidatesAreTheRulesThatMatchPathRow.holds Try.pinned (OpenSpec.ofChange fnCandidatesAreTheRulesThatMatchPathSpec)

/-- ITS FALSE NEIGHBOUR: 'it returns false'. Refute it at one input. -/
def fnCandidatesAreTheRulesThatMatchPathWrong : ChangeSpec := { name := "fnCandidatesAreTheRulesThatMatchPath", fn := fun _ => fun
  | [d1, d2, d3, d4, d5, d6] => { results := [.lit (.bool false)], args := [d1, d2, d3, d4, d5, d6] }
  | _ => none }
def FnCandidatesAreTheRulesThatMatchPathWrongFalsely : Prop := fnCandidatesAreTheRulesThatMatchPathRow.holds Try.pinned (OpenSpec.ofChange fnCandidatesAreTheRulesThatMatchPathWrong)

/-- 'zzlaws_route_b1.FnCandidatesOnlyGrowAsThePathDeepens': WHATEVER THE INPUT: true; the input reads as it did. -/
def fnCandidatesOnlyGrowAsThePathDeepensSpec : ChangeSpec := { name := "fnCandidatesOnlyGrowAsThePathDeepens", fn := fun _ => fun
  | [d1, d2, d3, d4, d5] => { results := [.lit (.bool true)], args := [d1, d2, d3, d4, d5] }
  | _ => none }
def fnCandidatesOnlyGrowAsThePathDeepensRow : OpenClaim := { program := "qxb6600159a", sum := "a9c2466ddf9b9602c5fbbdf1f87d7cf3ddee0b928c91d2b95af87ce79f0426ee", func := "example.com/gatewright/gatewright/zzlaws_route_b1.FnCandidatesOnlyGrowAsThePathDeepens", spec := "fnCandidatesOnlyGrowAsThePathDeepens", apart := false }
def FnCandidatesOnlyGrowAsThePathDeepensSaid : Prop := fnCandidatesOnlyGrowAsThePathDeepensRow.holds Try.pinned (OpenSpec.ofChange fnCandidatesOnlyGrowAsThePathDeepensSpec)

/-- ITS FALSE NEIGHBOUR: 'it returns false'. Refute it at one input. -/
def fnCandidatesOnlyGrowAsThePathDeepensWrong : ChangeSpec := { name := "fnCandidatesOnlyGrowAsThePathDeepens", fn := fun _ => fun
  | [d1, d2, d3, d4, d5] => { results := [.lit (.bool false)], args := [d1, d2, d3, d4, d5] }
  | _ => none }
def FnCandidatesOnlyGrowAsThePathDeepensWrongFalsely : Prop := fnCandidatesOnlyGrowAsThePathDeepensRow.holds Try.pinned (OpenSpec.ofChange fnCandidatesOnlyGrowAsThePathDeepensWrong)

/-- 'zzlaws_route_b1.FnRulesOfGivesOneEntryPerHostKey': WHATEVER THE INPUT: true; the input reads as it did. -/
def fnRulesOfGivesOneEntryPerHostKeySpec : ChangeSpec := { name := "fnRulesOfGivesOneEntryPerHostKey", fn := fun _ => fun
  | [d] => { results := [.lit (.bool true)], args := [d] }
  | _ => none }
def fnRulesOfGivesOneEntryPerHostKeyRow : OpenClaim := { program := "qxb6600159a", sum := "a9c2466ddf9b9602c5fbbdf1f87d7cf3ddee0b928c91d2b95af87ce79f0426ee", func := "example.com/gatewright/gatewright/zzlaws_route_b1.FnRulesOfGivesOneEntryPerHostKey", spec := "fnRulesOfGivesOneEntryPerHostKey", apart := false }
def FnRulesOfGivesOneEntryPerHostKeySaid : Prop := fnRulesOfGivesOneEntryPerHostKeyRow.holds Try.pinned (OpenSpec.ofChange fnRulesOfGivesOneEntryPerHostKeySpec)

/-- ITS FALSE NEIGHBOUR: 'it returns false'. Refute it at one input. -/
def fnRulesOfGivesOneEntryPerHostKeyWrong : ChangeSpec := { name := "fnRulesOfGivesOneEntryPerHostKey", fn := fun _ => fun
  | [d] => { results := [.lit (.bool false)], args := [d] }
  | _ => none }
def FnRulesOfGivesOneEntryPerHostKeyWrongFalsely : Prop := fnRulesOfGivesOneEntryPerHostKeyRow.holds Try.pinned (OpenSpec.ofChange fnRulesOfGivesOneEntryPerHostKeyWrong)

end Rows
end Go.Proofs.Qxb6600159a
