/-
  No cell of these rows narrows 'for every input' (looked for: loops, veiled, ifaces, maps, wideKeys, modest, calm, conditions, laid).
  DERIVED. THE GIVEN ROWS OF THIS SEAT. 7 by the template 'for every input the law returns true; each argument reads behind the call as it read before'; 0 by the template 'total and deterministic' (their statements: Qxb6600017aTotals.lean).
  GIVEN WITH THE SEED: the statements are not yours to turn. If you find one false, say at which input.
  Laid BY PROGRAM, IN A SANDBOX (cutbox-rows.mjs): the forced cells as the released guide's own fill.sh prints them over the translation 13515cf5e623ae56… (all of the seat's roots in one cut). By AI agents, Wed Nov 11 2026. No macro, syntax, notation, axiom, sorry.
-/
import Derived.Test.Qxb6600017aChecked
import GoSem.Claim
import GoSem.ClaimJoined
import GoSem.ClaimMapViews
import Derived.JoinedTies
import Derived.KernelRfl
namespace Go.Proofs.Qxb6600017a
/- THE CELL 'sum', in the pinned program and in every row, IS THE sha256 OF THE DUMP (.gsa) THAT Qxb6600017aProg.lean LOADS. Nothing in Lean hashes anything: it is a label: what it is worth is what the hold of that sum in a sandbox is worth. -/
noncomputable def Try.pinned : Pinned := { name := "qxb6600017a", sum := "13515cf5e623ae56dd34c31a49d3f4a1c4e2aa59b619e5cb5156916f7806e880", checked := Try.checked }
namespace Rows
def none {H : Type} : Left H := { results := [], args := [] }

/-- 'zzlaws_internal_sim_b1.FnChordViewShowsValidFingers': WHATEVER THE INPUT: true; the input reads as it did. -/
def fnChordViewShowsValidFingersSpec : ChangeSpec := { name := "fnChordViewShowsValidFingers", fn := fun _ => fun
  | [d1, d2] => { results := [.lit (.bool true)], args := [d1, d2] }
  | _ => none }
def fnChordViewShowsValidFingersRow : OpenClaim := { program := "qxb6600017a", sum := "13515cf5e623ae56dd34c31a49d3f4a1c4e2aa59b619e5cb5156916f7806e880", func := "example.com/ringwright/ringwright/zzlaws_internal_sim_b1.FnChordViewShowsValidFingers", spec := "fnChordViewShowsValidFingers", apart := false }
def FnChordViewShowsValidFingersSaid : Prop := fnChordViewShowsValidFingersRow.holds Try.pinned (OpenSpec.ofChange fnChordViewShowsValidFingersSpec)

/-- ITS FALSE NEIGHBOUR: 'it returns false'. Refute it at one input. -/
def fnChordViewShowsValidFingersWrong : ChangeSpec := { name := "fnChordViewShowsValidFingers", fn := fun _ => fun
  | [d1, d2] => { results := [.lit (.bool false)], args := [d1, d2] }
  | _ => none }
def FnChordViewShowsValidFingersWrongFalsely : Prop := fnChordViewShowsValidFingersRow.holds Try.pinned (OpenSpec.ofChange fnChordViewShowsValidFingersWrong)

/-- 'zzlaws_internal_sim_b1.FnChordViewReadsOnlyItsOwnTable': WHATEVER THE INPUT: true; the input reads as it did. -/
def fnChordViewReadsOnlyItsOwnTableSpec : ChangeSpec := { name := "fnChordViewReadsOnlyItsOwnTable", fn := fun _ => fun
  | [d1, d2, d3] => { results := [.lit (.bool true)], args := [d1, d2, d3] }
  | _ => none }
def fnChordViewReadsOnlyItsOwnTableRow : OpenClaim := { program := "qxb6600017a", sum := "13515cf5e623ae56dd34c31a49d3f4a1c4e2aa59b619e5cb5156916f7806e880", func := "example.com/ringwright/ringwright/zzlaws_internal_sim_b1.FnChordViewReadsOnlyItsOwnTable", spec := "fnChordViewReadsOnlyItsOwnTable", apart := false }
def FnChordViewReadsOnlyItsOwnTableSaid : Prop := fnChordViewReadsOnlyItsOwnTableRow.holds Try.pinned (OpenSpec.ofChange fnChordViewReadsOnlyItsOwnTableSpec)

/-- ITS FALSE NEIGHBOUR: 'it returns false'. Refute it at one input. -/
def fnChordViewReadsOnlyItsOwnTableWrong : ChangeSpec := { name := "fnChordViewReadsOnlyItsOwnTable", fn := fun _ => fun
  | [d1, d2, d3] => { results := [.lit (.bool false)], args := [d1, d2, d3] }
  | _ => none }
def FnChordViewReadsOnlyItsOwnTableWrongFalsely : Prop := fnChordViewReadsOnlyItsOwnTableRow.holds Try.pinned (OpenSpec.ofChange fnChordViewReadsOnlyItsOwnTableWrong)

/-- 'zzlaws_internal_sim_b1.FnChordAndRelaxedViewsAgree': WHATEVER THE INPUT: true; the input reads as it did. -/
def fnChordAndRelaxedViewsAgreeSpec : ChangeSpec := { name := "fnChordAndRelaxedViewsAgree", fn := fun _ => fun
  | [d] => { results := [.lit (.bool true)], args := [d] }
  | _ => none }
def fnChordAndRelaxedViewsAgreeRow : OpenClaim := { program := "qxb6600017a", sum := "13515cf5e623ae56dd34c31a49d3f4a1c4e2aa59b619e5cb5156916f7806e880", func := "example.com/ringwright/ringwright/zzlaws_internal_sim_b1.FnChordAndRelaxedViewsAgree", spec := "fnChordAndRelaxedViewsAgree", apart := false }
def FnChordAndRelaxedViewsAgreeSaid : Prop := fnChordAndRelaxedViewsAgreeRow.holds Try.pinned (OpenSpec.ofChange fnChordAndRelaxedViewsAgreeSpec)

/-- ITS FALSE NEIGHBOUR: 'it returns false'. Refute it at one input. -/
def fnChordAndRelaxedViewsAgreeWrong : ChangeSpec := { name := "fnChordAndRelaxedViewsAgree", fn := fun _ => fun
  | [d] => { results := [.lit (.bool false)], args := [d] }
  | _ => none }
def FnChordAndRelaxedViewsAgreeWrongFalsely : Prop := fnChordAndRelaxedViewsAgreeRow.holds Try.pinned (OpenSpec.ofChange fnChordAndRelaxedViewsAgreeWrong)

/-- 'zzlaws_internal_sim_b1.FnRelaxedViewShowsValidFingers': WHATEVER THE INPUT: true; the input reads as it did. -/
def fnRelaxedViewShowsValidFingersSpec : ChangeSpec := { name := "fnRelaxedViewShowsValidFingers", fn := fun _ => fun
  | [d1, d2] => { results := [.lit (.bool true)], args := [d1, d2] }
  | _ => none }
def fnRelaxedViewShowsValidFingersRow : OpenClaim := { program := "qxb6600017a", sum := "13515cf5e623ae56dd34c31a49d3f4a1c4e2aa59b619e5cb5156916f7806e880", func := "example.com/ringwright/ringwright/zzlaws_internal_sim_b1.FnRelaxedViewShowsValidFingers", spec := "fnRelaxedViewShowsValidFingers", apart := false }
def FnRelaxedViewShowsValidFingersSaid : Prop := fnRelaxedViewShowsValidFingersRow.holds Try.pinned (OpenSpec.ofChange fnRelaxedViewShowsValidFingersSpec)

/-- ITS FALSE NEIGHBOUR: 'it returns false'. Refute it at one input. -/
def fnRelaxedViewShowsValidFingersWrong : ChangeSpec := { name := "fnRelaxedViewShowsValidFingers", fn := fun _ => fun
  | [d1, d2] => { results := [.lit (.bool false)], args := [d1, d2] }
  | _ => none }
def FnRelaxedViewShowsValidFingersWrongFalsely : Prop := fnRelaxedViewShowsValidFingersRow.holds Try.pinned (OpenSpec.ofChange fnRelaxedViewShowsValidFingersWrong)

/-- 'zzlaws_internal_sim_b1.FnRelaxedViewMirror': WHATEVER THE INPUT: true; the input reads as it did. -/
def fnRelaxedViewMirrorSpec : ChangeSpec := { name := "fnRelaxedViewMirror", fn := fun _ => fun
  | [d1, d2] => { results := [.lit (.bool true)], args := [d1, d2] }
  | _ => none }
def fnRelaxedViewMirrorRow : OpenClaim := { program := "qxb6600017a", sum := "13515cf5e623ae56dd34c31a49d3f4a1c4e2aa59b619e5cb5156916f7806e880", func := "example.com/ringwright/ringwright/zzlaws_internal_sim_b1.FnRelaxedViewMirror", spec := "fnRelaxedViewMirror", apart := false }
def FnRelaxedViewMirrorSaid : Prop := fnRelaxedViewMirrorRow.holds Try.pinned (OpenSpec.ofChange fnRelaxedViewMirrorSpec)

/-- ITS FALSE NEIGHBOUR: 'it returns false'. Refute it at one input. -/
def fnRelaxedViewMirrorWrong : ChangeSpec := { name := "fnRelaxedViewMirror", fn := fun _ => fun
  | [d1, d2] => { results := [.lit (.bool false)], args := [d1, d2] }
  | _ => none }
def FnRelaxedViewMirrorWrongFalsely : Prop := fnRelaxedViewMirrorRow.holds Try.pinned (OpenSpec.ofChange fnRelaxedViewMirrorWrong)

/-- 'zzlaws_internal_sim_b1.FnRelaxedEmptyClearsFingersKeepsNeighbours': WHATEVER THE INPUT: true; the input reads as it did. -/
def fnRelaxedEmptyClearsFingersKeepsNeighboursSpec : ChangeSpec := { name := "fnRelaxedEmptyClearsFingersKeepsNeighbours", fn := fun _ => fun
  | [d1, d2] => { results := [.lit (.bool true)], args := [d1, d2] }
  | _ => none }
def fnRelaxedEmptyClearsFingersKeepsNeighboursRow : OpenClaim := { program := "qxb6600017a", sum := "13515cf5e623ae56dd34c31a49d3f4a1c4e2aa59b619e5cb5156916f7806e880", func := "example.com/ringwright/ringwright/zzlaws_internal_sim_b1.FnRelaxedEmptyClearsFingersKeepsNeighbours", spec := "fnRelaxedEmptyClearsFingersKeepsNeighbours", apart := false }
def FnRelaxedEmptyClearsFingersKeepsNeighboursSaid : Prop := fnRelaxedEmptyClearsFingersKeepsNeighboursRow.holds Try.pinned (OpenSpec.ofChange fnRelaxedEmptyClearsFingersKeepsNeighboursSpec)

/-- ITS FALSE NEIGHBOUR: 'it returns false'. Refute it at one input. -/
def fnRelaxedEmptyClearsFingersKeepsNeighboursWrong : ChangeSpec := { name := "fnRelaxedEmptyClearsFingersKeepsNeighbours", fn := fun _ => fun
  | [d1, d2] => { results := [.lit (.bool false)], args := [d1, d2] }
  | _ => none }
def FnRelaxedEmptyClearsFingersKeepsNeighboursWrongFalsely : Prop := fnRelaxedEmptyClearsFingersKeepsNeighboursRow.holds Try.pinned (OpenSpec.ofChange fnRelaxedEmptyClearsFingersKeepsNeighboursWrong)

/-- 'zzlaws_internal_sim_b1.FnRelaxedEmptyTouchesNoOtherTable': WHATEVER THE INPUT: true; the input reads as it did. -/
def fnRelaxedEmptyTouchesNoOtherTableSpec : ChangeSpec := { name := "fnRelaxedEmptyTouchesNoOtherTable", fn := fun _ => fun
  | [d1, d2] => { results := [.lit (.bool true)], args := [d1, d2] }
  | _ => none }
def fnRelaxedEmptyTouchesNoOtherTableRow : OpenClaim := { program := "qxb6600017a", sum := "13515cf5e623ae56dd34c31a49d3f4a1c4e2aa59b619e5cb5156916f7806e880", func := "example.com/ringwright/ringwright/zzlaws_internal_sim_b1.FnRelaxedEmptyTouchesNoOtherTable", spec := "fnRelaxedEmptyTouchesNoOtherTable", apart := false }
def FnRelaxedEmptyTouchesNoOtherTableSaid : Prop := fnRelaxedEmptyTouchesNoOtherTableRow.holds Try.pinned (OpenSpec.ofChange fnRelaxedEmptyTouchesNoOtherTableSpec)

/-- ITS FALSE NEIGHBOUR: 'it returns false'. Refute it at one input. -/
def fnRelaxedEmptyTouchesNoOtherTableWrong : ChangeSpec := { name := "fnRelaxedEmptyTouchesNoOtherTable", fn := fun _ => fun
  | [d1, d2] => { results := [.lit (.bool false)], args := [d1, d2] }
  | _ => none }
def FnRelaxedEmptyTouchesNoOtherTableWrongFalsely : Prop := fnRelaxedEmptyTouchesNoOtherTableRow.holds Try.pinned (OpenSpec.ofChange fnRelaxedEmptyTouchesNoOtherTableWrong)

end Rows
end Go.Proofs.Qxb6600017a
