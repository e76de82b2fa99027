/-
  No cell of these rows narrows 'for every input' (looked for: loops, veiled, ifaces, maps, wideKeys, modest, calm, conditions, laid).
  DERIVED. THE GIVEN ROWS OF THIS SEAT. 6 by the template 'for every input the law returns true; each argument reads behind the call as it read before'; 0 by the template 'total and deterministic' (their statements: Qxb6600410aTotals.lean).
  GIVEN WITH THE SEED: the statements are not yours to turn. If you find one false, say at which input.
  Laid BY PROGRAM, IN A SANDBOX (cutbox-rows.mjs): the forced cells as the released guide's own fill.sh prints them over the translation 45de3d78cfdc1a44… (all of the seat's roots in one cut). By AI agents, Wed Nov 11 2026. No macro, syntax, notation, axiom, sorry.
-/
import Derived.Test.Qxb6600410aChecked
import GoSem.Claim
import GoSem.ClaimJoined
import GoSem.ClaimMapViews
import Derived.JoinedTies
import Derived.KernelRfl
namespace Go.Proofs.Qxb6600410a
/- THE CELL 'sum', in the pinned program and in every row, IS THE sha256 OF THE DUMP (.gsa) THAT Qxb6600410aProg.lean LOADS. Nothing in Lean hashes anything: it is a label: what it is worth is what the hold of that sum in a sandbox is worth. -/
noncomputable def Try.pinned : Pinned := { name := "qxb6600410a", sum := "45de3d78cfdc1a440bbf15dd5cd97a5cdc42f788225bca357c4a25390f0b421f", checked := Try.checked }
namespace Rows
def none {H : Type} : Left H := { results := [], args := [] }

/-- 'zzlaws_wire_b1.FnModeStringParsesBack': WHATEVER THE INPUT: true; the input reads as it did. -/
def fnModeStringParsesBackSpec : ChangeSpec := { name := "fnModeStringParsesBack", fn := fun _ => fun
  | [d] => { results := [.lit (.bool true)], args := [d] }
  | _ => none }
def fnModeStringParsesBackRow : OpenClaim := { program := "qxb6600410a", sum := "45de3d78cfdc1a440bbf15dd5cd97a5cdc42f788225bca357c4a25390f0b421f", func := "example.com/waxwing/waxwing/zzlaws_wire_b1.FnModeStringParsesBack", spec := "fnModeStringParsesBack", inPlace := ["internal/abi.NoEscape"], apart := false }
def FnModeStringParsesBackSaid : Prop := fnModeStringParsesBackRow.holds Try.pinned (OpenSpec.ofChange fnModeStringParsesBackSpec)

/-- ITS FALSE NEIGHBOUR: 'it returns false'. Refute it at one input. -/
def fnModeStringParsesBackWrong : ChangeSpec := { name := "fnModeStringParsesBack", fn := fun _ => fun
  | [d] => { results := [.lit (.bool false)], args := [d] }
  | _ => none }
def FnModeStringParsesBackWrongFalsely : Prop := fnModeStringParsesBackRow.holds Try.pinned (OpenSpec.ofChange fnModeStringParsesBackWrong)

/-- 'zzlaws_wire_b1.FnModeStringLengthAndDistinct': WHATEVER THE INPUT: true; the input reads as it did. -/
def fnModeStringLengthAndDistinctSpec : ChangeSpec := { name := "fnModeStringLengthAndDistinct", fn := fun _ => fun
  | [d] => { results := [.lit (.bool true)], args := [d] }
  | _ => none }
def fnModeStringLengthAndDistinctRow : OpenClaim := { program := "qxb6600410a", sum := "45de3d78cfdc1a440bbf15dd5cd97a5cdc42f788225bca357c4a25390f0b421f", func := "example.com/waxwing/waxwing/zzlaws_wire_b1.FnModeStringLengthAndDistinct", spec := "fnModeStringLengthAndDistinct", inPlace := ["internal/abi.NoEscape"], apart := false }
def FnModeStringLengthAndDistinctSaid : Prop := fnModeStringLengthAndDistinctRow.holds Try.pinned (OpenSpec.ofChange fnModeStringLengthAndDistinctSpec)

/-- ITS FALSE NEIGHBOUR: 'it returns false'. Refute it at one input. -/
def fnModeStringLengthAndDistinctWrong : ChangeSpec := { name := "fnModeStringLengthAndDistinct", fn := fun _ => fun
  | [d] => { results := [.lit (.bool false)], args := [d] }
  | _ => none }
def FnModeStringLengthAndDistinctWrongFalsely : Prop := fnModeStringLengthAndDistinctRow.holds Try.pinned (OpenSpec.ofChange fnModeStringLengthAndDistinctWrong)

/-- 'zzlaws_wire_b1.FnModeStringSubsetIsSubsequence': WHATEVER THE INPUT: true; the input reads as it did. -/
def fnModeStringSubsetIsSubsequenceSpec : ChangeSpec := { name := "fnModeStringSubsetIsSubsequence", fn := fun _ => fun
  | [d1, d2] => { results := [.lit (.bool true)], args := [d1, d2] }
  | _ => none }
def fnModeStringSubsetIsSubsequenceRow : OpenClaim := { program := "qxb6600410a", sum := "45de3d78cfdc1a440bbf15dd5cd97a5cdc42f788225bca357c4a25390f0b421f", func := "example.com/waxwing/waxwing/zzlaws_wire_b1.FnModeStringSubsetIsSubsequence", spec := "fnModeStringSubsetIsSubsequence", inPlace := ["internal/abi.NoEscape"], apart := false }
def FnModeStringSubsetIsSubsequenceSaid : Prop := fnModeStringSubsetIsSubsequenceRow.holds Try.pinned (OpenSpec.ofChange fnModeStringSubsetIsSubsequenceSpec)

/-- ITS FALSE NEIGHBOUR: 'it returns false'. Refute it at one input. -/
def fnModeStringSubsetIsSubsequenceWrong : ChangeSpec := { name := "fnModeStringSubsetIsSubsequence", fn := fun _ => fun
  | [d1, d2] => { results := [.lit (.bool false)], args := [d1, d2] }
  | _ => none }
def FnModeStringSubsetIsSubsequenceWrongFalsely : Prop := fnModeStringSubsetIsSubsequenceRow.holds Try.pinned (OpenSpec.ofChange fnModeStringSubsetIsSubsequenceWrong)

/-- 'zzlaws_wire_b1.FnModeChangeStringParsesBack': WHATEVER THE INPUT: true; the input reads as it did. -/
def fnModeChangeStringParsesBackSpec : ChangeSpec := { name := "fnModeChangeStringParsesBack", fn := fun _ => fun
  | [d1, d2] => { results := [.lit (.bool true)], args := [d1, d2] }
  | _ => none }
def fnModeChangeStringParsesBackRow : OpenClaim := { program := "qxb6600410a", sum := "45de3d78cfdc1a440bbf15dd5cd97a5cdc42f788225bca357c4a25390f0b421f", func := "example.com/waxwing/waxwing/zzlaws_wire_b1.FnModeChangeStringParsesBack", spec := "fnModeChangeStringParsesBack", inPlace := ["internal/abi.NoEscape"], apart := false }
def FnModeChangeStringParsesBackSaid : Prop := fnModeChangeStringParsesBackRow.holds Try.pinned (OpenSpec.ofChange fnModeChangeStringParsesBackSpec)

/-- ITS FALSE NEIGHBOUR: 'it returns false'. Refute it at one input. -/
def fnModeChangeStringParsesBackWrong : ChangeSpec := { name := "fnModeChangeStringParsesBack", fn := fun _ => fun
  | [d1, d2] => { results := [.lit (.bool false)], args := [d1, d2] }
  | _ => none }
def FnModeChangeStringParsesBackWrongFalsely : Prop := fnModeChangeStringParsesBackRow.holds Try.pinned (OpenSpec.ofChange fnModeChangeStringParsesBackWrong)

/-- 'zzlaws_wire_b1.FnModeChangeStringLength': WHATEVER THE INPUT: true; the input reads as it did. -/
def fnModeChangeStringLengthSpec : ChangeSpec := { name := "fnModeChangeStringLength", fn := fun _ => fun
  | [d1, d2] => { results := [.lit (.bool true)], args := [d1, d2] }
  | _ => none }
def fnModeChangeStringLengthRow : OpenClaim := { program := "qxb6600410a", sum := "45de3d78cfdc1a440bbf15dd5cd97a5cdc42f788225bca357c4a25390f0b421f", func := "example.com/waxwing/waxwing/zzlaws_wire_b1.FnModeChangeStringLength", spec := "fnModeChangeStringLength", inPlace := ["internal/abi.NoEscape"], apart := false }
def FnModeChangeStringLengthSaid : Prop := fnModeChangeStringLengthRow.holds Try.pinned (OpenSpec.ofChange fnModeChangeStringLengthSpec)

/-- ITS FALSE NEIGHBOUR: 'it returns false'. Refute it at one input. -/
def fnModeChangeStringLengthWrong : ChangeSpec := { name := "fnModeChangeStringLength", fn := fun _ => fun
  | [d1, d2] => { results := [.lit (.bool false)], args := [d1, d2] }
  | _ => none }
def FnModeChangeStringLengthWrongFalsely : Prop := fnModeChangeStringLengthRow.holds Try.pinned (OpenSpec.ofChange fnModeChangeStringLengthWrong)

/-- 'zzlaws_wire_b1.FnDefaultAccessWithCompose': WHATEVER THE INPUT: true; the input reads as it did. -/
def fnDefaultAccessWithComposeSpec : ChangeSpec := { name := "fnDefaultAccessWithCompose", fn := fun _ => fun
  | [d1, d2, d3, d4, d5, d6, d7, d8, d9, d10, d11, d12] => { results := [.lit (.bool true)], args := [d1, d2, d3, d4, d5, d6, d7, d8, d9, d10, d11, d12] }
  | _ => none }
def fnDefaultAccessWithComposeRow : OpenClaim := { program := "qxb6600410a", sum := "45de3d78cfdc1a440bbf15dd5cd97a5cdc42f788225bca357c4a25390f0b421f", func := "example.com/waxwing/waxwing/zzlaws_wire_b1.FnDefaultAccessWithCompose", spec := "fnDefaultAccessWithCompose", apart := false }
def FnDefaultAccessWithComposeSaid : Prop := fnDefaultAccessWithComposeRow.holds Try.pinned (OpenSpec.ofChange fnDefaultAccessWithComposeSpec)

/-- ITS FALSE NEIGHBOUR: 'it returns false'. Refute it at one input. -/
def fnDefaultAccessWithComposeWrong : ChangeSpec := { name := "fnDefaultAccessWithCompose", fn := fun _ => fun
  | [d1, d2, d3, d4, d5, d6, d7, d8, d9, d10, d11, d12] => { results := [.lit (.bool false)], args := [d1, d2, d3, d4, d5, d6, d7, d8, d9, d10, d11, d12] }
  | _ => none }
def FnDefaultAccessWithComposeWrongFalsely : Prop := fnDefaultAccessWithComposeRow.holds Try.pinned (OpenSpec.ofChange fnDefaultAccessWithComposeWrong)

end Rows
end Go.Proofs.Qxb6600410a
