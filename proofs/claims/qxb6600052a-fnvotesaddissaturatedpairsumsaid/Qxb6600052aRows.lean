/-
  No cell of these rows narrows 'for every input' (looked for: loops, veiled, ifaces, maps, wideKeys, modest, calm, conditions, laid).
  DERIVED. THE GIVEN ROWS OF THIS SEAT. 6 by the template 'for every input the law returns true; each argument reads behind the call as it read before'; 0 by the template 'total and deterministic' (their statements: Qxb6600052aTotals.lean).
  GIVEN WITH THE SEED: the statements are not yours to turn. If you find one false, say at which input.
  Laid BY PROGRAM, IN A SANDBOX (cutbox-rows.mjs): the forced cells as the released guide's own fill.sh prints them over the translation 518ddfbe6af707d4… (all of the seat's roots in one cut). By AI agents, Wed Nov 11 2026. No macro, syntax, notation, axiom, sorry.
-/
import Derived.Test.Qxb6600052aChecked
import GoSem.Claim
import GoSem.ClaimJoined
import GoSem.ClaimMapViews
import Derived.JoinedTies
import Derived.KernelRfl
namespace Go.Proofs.Qxb6600052a
/- THE CELL 'sum', in the pinned program and in every row, IS THE sha256 OF THE DUMP (.gsa) THAT Qxb6600052aProg.lean LOADS. Nothing in Lean hashes anything: it is a label: what it is worth is what the hold of that sum in a sandbox is worth. -/
noncomputable def Try.pinned : Pinned := { name := "qxb6600052a", sum := "518ddfbe6af707d4d291582b1ddca79efd9b74ed51039b7fce18b0e8bf34b4e4", checked := Try.checked }
namespace Rows
def none {H : Type} : Left H := { results := [], args := [] }

/-- 'zzlaws_root_b1.FnVotesAddIsSaturatedPairSum': WHATEVER THE INPUT: true; the input reads as it did. -/
def fnVotesAddIsSaturatedPairSumSpec : ChangeSpec := { name := "fnVotesAddIsSaturatedPairSum", fn := fun _ => fun
  | [d1, d2, d3] => { results := [.lit (.bool true)], args := [d1, d2, d3] }
  | _ => none }
def fnVotesAddIsSaturatedPairSumRow : OpenClaim := { program := "qxb6600052a", sum := "518ddfbe6af707d4d291582b1ddca79efd9b74ed51039b7fce18b0e8bf34b4e4", func := "example.com/roundcall/roundcall/zzlaws_root_b1.FnVotesAddIsSaturatedPairSum", spec := "fnVotesAddIsSaturatedPairSum", apart := false }
def FnVotesAddIsSaturatedPairSumSaid : Prop := fnVotesAddIsSaturatedPairSumRow.holds Try.pinned (OpenSpec.ofChange fnVotesAddIsSaturatedPairSumSpec)

/-- ITS FALSE NEIGHBOUR: 'it returns false'. Refute it at one input. -/
def fnVotesAddIsSaturatedPairSumWrong : ChangeSpec := { name := "fnVotesAddIsSaturatedPairSum", fn := fun _ => fun
  | [d1, d2, d3] => { results := [.lit (.bool false)], args := [d1, d2, d3] }
  | _ => none }
def FnVotesAddIsSaturatedPairSumWrongFalsely : Prop := fnVotesAddIsSaturatedPairSumRow.holds Try.pinned (OpenSpec.ofChange fnVotesAddIsSaturatedPairSumWrong)

/-- 'zzlaws_root_b1.FnVotesAddOrderFree': WHATEVER THE INPUT: true; the input reads as it did. -/
def fnVotesAddOrderFreeSpec : ChangeSpec := { name := "fnVotesAddOrderFree", fn := fun _ => fun
  | [d1, d2, d3, d4] => { results := [.lit (.bool true)], args := [d1, d2, d3, d4] }
  | _ => none }
def fnVotesAddOrderFreeRow : OpenClaim := { program := "qxb6600052a", sum := "518ddfbe6af707d4d291582b1ddca79efd9b74ed51039b7fce18b0e8bf34b4e4", func := "example.com/roundcall/roundcall/zzlaws_root_b1.FnVotesAddOrderFree", spec := "fnVotesAddOrderFree", apart := false }
def FnVotesAddOrderFreeSaid : Prop := fnVotesAddOrderFreeRow.holds Try.pinned (OpenSpec.ofChange fnVotesAddOrderFreeSpec)

/-- ITS FALSE NEIGHBOUR: 'it returns false'. Refute it at one input. -/
def fnVotesAddOrderFreeWrong : ChangeSpec := { name := "fnVotesAddOrderFree", fn := fun _ => fun
  | [d1, d2, d3, d4] => { results := [.lit (.bool false)], args := [d1, d2, d3, d4] }
  | _ => none }
def FnVotesAddOrderFreeWrongFalsely : Prop := fnVotesAddOrderFreeRow.holds Try.pinned (OpenSpec.ofChange fnVotesAddOrderFreeWrong)

/-- 'zzlaws_root_b1.FnVotesAddDistributesOverUnion': WHATEVER THE INPUT: true; the input reads as it did. -/
def fnVotesAddDistributesOverUnionSpec : ChangeSpec := { name := "fnVotesAddDistributesOverUnion", fn := fun _ => fun
  | [d1, d2, d3, d4, d5] => { results := [.lit (.bool true)], args := [d1, d2, d3, d4, d5] }
  | _ => none }
def fnVotesAddDistributesOverUnionRow : OpenClaim := { program := "qxb6600052a", sum := "518ddfbe6af707d4d291582b1ddca79efd9b74ed51039b7fce18b0e8bf34b4e4", func := "example.com/roundcall/roundcall/zzlaws_root_b1.FnVotesAddDistributesOverUnion", spec := "fnVotesAddDistributesOverUnion", apart := false }
def FnVotesAddDistributesOverUnionSaid : Prop := fnVotesAddDistributesOverUnionRow.holds Try.pinned (OpenSpec.ofChange fnVotesAddDistributesOverUnionSpec)

/-- ITS FALSE NEIGHBOUR: 'it returns false'. Refute it at one input. -/
def fnVotesAddDistributesOverUnionWrong : ChangeSpec := { name := "fnVotesAddDistributesOverUnion", fn := fun _ => fun
  | [d1, d2, d3, d4, d5] => { results := [.lit (.bool false)], args := [d1, d2, d3, d4, d5] }
  | _ => none }
def FnVotesAddDistributesOverUnionWrongFalsely : Prop := fnVotesAddDistributesOverUnionRow.holds Try.pinned (OpenSpec.ofChange fnVotesAddDistributesOverUnionWrong)

/-- 'zzlaws_root_b1.FnSkipStringBounds': WHATEVER THE INPUT: true; the input reads as it did. -/
def fnSkipStringBoundsSpec : ChangeSpec := { name := "fnSkipStringBounds", fn := fun _ => fun
  | [d1, d2] => { results := [.lit (.bool true)], args := [d1, d2] }
  | _ => none }
def fnSkipStringBoundsRow : OpenClaim := { program := "qxb6600052a", sum := "518ddfbe6af707d4d291582b1ddca79efd9b74ed51039b7fce18b0e8bf34b4e4", func := "example.com/roundcall/roundcall/zzlaws_root_b1.FnSkipStringBounds", spec := "fnSkipStringBounds", apart := false }
def FnSkipStringBoundsSaid : Prop := fnSkipStringBoundsRow.holds Try.pinned (OpenSpec.ofChange fnSkipStringBoundsSpec)

/-- ITS FALSE NEIGHBOUR: 'it returns false'. Refute it at one input. -/
def fnSkipStringBoundsWrong : ChangeSpec := { name := "fnSkipStringBounds", fn := fun _ => fun
  | [d1, d2] => { results := [.lit (.bool false)], args := [d1, d2] }
  | _ => none }
def FnSkipStringBoundsWrongFalsely : Prop := fnSkipStringBoundsRow.holds Try.pinned (OpenSpec.ofChange fnSkipStringBoundsWrong)

/-- 'zzlaws_root_b1.FnSkipStringIgnoresWhatFollows': WHATEVER THE INPUT: true; the input reads as it did. -/
def fnSkipStringIgnoresWhatFollowsSpec : ChangeSpec := { name := "fnSkipStringIgnoresWhatFollows", fn := fun _ => fun
  | [d1, d2, d3] => { results := [.lit (.bool true)], args := [d1, d2, d3] }
  | _ => none }
def fnSkipStringIgnoresWhatFollowsRow : OpenClaim := { program := "qxb6600052a", sum := "518ddfbe6af707d4d291582b1ddca79efd9b74ed51039b7fce18b0e8bf34b4e4", func := "example.com/roundcall/roundcall/zzlaws_root_b1.FnSkipStringIgnoresWhatFollows", spec := "fnSkipStringIgnoresWhatFollows", apart := false }
def FnSkipStringIgnoresWhatFollowsSaid : Prop := fnSkipStringIgnoresWhatFollowsRow.holds Try.pinned (OpenSpec.ofChange fnSkipStringIgnoresWhatFollowsSpec)

/-- ITS FALSE NEIGHBOUR: 'it returns false'. Refute it at one input. -/
def fnSkipStringIgnoresWhatFollowsWrong : ChangeSpec := { name := "fnSkipStringIgnoresWhatFollows", fn := fun _ => fun
  | [d1, d2, d3] => { results := [.lit (.bool false)], args := [d1, d2, d3] }
  | _ => none }
def FnSkipStringIgnoresWhatFollowsWrongFalsely : Prop := fnSkipStringIgnoresWhatFollowsRow.holds Try.pinned (OpenSpec.ofChange fnSkipStringIgnoresWhatFollowsWrong)

/-- 'zzlaws_root_b1.FnSkipStringMatchesParityModel': WHATEVER THE INPUT: true; the input reads as it did. -/
def fnSkipStringMatchesParityModelSpec : ChangeSpec := { name := "fnSkipStringMatchesParityModel", fn := fun _ => fun
  | [d1, d2] => { results := [.lit (.bool true)], args := [d1, d2] }
  | _ => none }
def fnSkipStringMatchesParityModelRow : OpenClaim := { program := "qxb6600052a", sum := "518ddfbe6af707d4d291582b1ddca79efd9b74ed51039b7fce18b0e8bf34b4e4", func := "example.com/roundcall/roundcall/zzlaws_root_b1.FnSkipStringMatchesParityModel", spec := "fnSkipStringMatchesParityModel", apart := false }
def FnSkipStringMatchesParityModelSaid : Prop := fnSkipStringMatchesParityModelRow.holds Try.pinned (OpenSpec.ofChange fnSkipStringMatchesParityModelSpec)

/-- ITS FALSE NEIGHBOUR: 'it returns false'. Refute it at one input. -/
def fnSkipStringMatchesParityModelWrong : ChangeSpec := { name := "fnSkipStringMatchesParityModel", fn := fun _ => fun
  | [d1, d2] => { results := [.lit (.bool false)], args := [d1, d2] }
  | _ => none }
def FnSkipStringMatchesParityModelWrongFalsely : Prop := fnSkipStringMatchesParityModelRow.holds Try.pinned (OpenSpec.ofChange fnSkipStringMatchesParityModelWrong)

end Rows
end Go.Proofs.Qxb6600052a
