/-
  No cell of these rows narrows 'for every input' (looked for: loops, veiled, ifaces, maps, wideKeys, modest, calm, conditions, laid).
  DERIVED. THE GIVEN ROWS OF THIS SEAT. 3 by the template 'for every input the law returns true; each argument reads behind the call as it read before'; 0 by the template 'total and deterministic' (their statements: Qxb6609523aTotals.lean).
  GIVEN WITH THE SEED: the statements are not yours to turn. If you find one false, say at which input.
  Laid BY PROGRAM, IN A SANDBOX (cutbox-rows.mjs): the forced cells as the released guide's own fill.sh prints them over the translation f1174b08bd6f7f58… (all of the seat's roots in one cut). By AI agents, Wed Nov 11 2026. No macro, syntax, notation, axiom, sorry.
-/
import Derived.Test.Qxb6609523aChecked
import GoSem.Claim
import GoSem.ClaimJoined
import GoSem.ClaimMapViews
import Derived.JoinedTies
import Derived.KernelRfl
namespace Go.Proofs.Qxb6609523a
/- THE CELL 'sum', in the pinned program and in every row, IS THE sha256 OF THE DUMP (.gsa) THAT Qxb6609523aProg.lean LOADS. Nothing in Lean hashes anything: it is a label: what it is worth is what the hold of that sum in a sandbox is worth. -/
noncomputable def Try.pinned : Pinned := { name := "qxb6609523a", sum := "f1174b08bd6f7f58fddab9c495f58327c66560e76b5e984274f1d7698c94fe86", checked := Try.checked }
namespace Rows
def none {H : Type} : Left H := { results := [], args := [] }

/-- 'zzlaws_internal_object_b1.FnSkipSameOverItsOwnCopyLeavesNoWholeEntry': WHATEVER THE INPUT: true; the input reads as it did. -/
def fnSkipSameOverItsOwnCopyLeavesNoWholeEntrySpec : ChangeSpec := { name := "fnSkipSameOverItsOwnCopyLeavesNoWholeEntry", fn := fun _ => fun
  | [d] => { results := [.lit (.bool true)], args := [d] }
  | _ => none }
def fnSkipSameOverItsOwnCopyLeavesNoWholeEntryRow : OpenClaim := { program := "qxb6609523a", sum := "f1174b08bd6f7f58fddab9c495f58327c66560e76b5e984274f1d7698c94fe86", func := "example.com/packwire/packwire/zzlaws_internal_object_b1.FnSkipSameOverItsOwnCopyLeavesNoWholeEntry", spec := "fnSkipSameOverItsOwnCopyLeavesNoWholeEntry", inPlace := ["internal/bytealg.IndexByte"], apart := false }
def FnSkipSameOverItsOwnCopyLeavesNoWholeEntrySaid : Prop := fnSkipSameOverItsOwnCopyLeavesNoWholeEntryRow.holds Try.pinned (OpenSpec.ofChange fnSkipSameOverItsOwnCopyLeavesNoWholeEntrySpec)

/-- ITS FALSE NEIGHBOUR: 'it returns false'. Refute it at one input. -/
def fnSkipSameOverItsOwnCopyLeavesNoWholeEntryWrong : ChangeSpec := { name := "fnSkipSameOverItsOwnCopyLeavesNoWholeEntry", fn := fun _ => fun
  | [d] => { results := [.lit (.bool false)], args := [d] }
  | _ => none }
def FnSkipSameOverItsOwnCopyLeavesNoWholeEntryWrongFalsely : Prop := fnSkipSameOverItsOwnCopyLeavesNoWholeEntryRow.holds Try.pinned (OpenSpec.ofChange fnSkipSameOverItsOwnCopyLeavesNoWholeEntryWrong)

/-- 'zzlaws_internal_object_b1.FnIDStringIsLowerHex': WHATEVER THE INPUT: true; the input reads as it did. -/
def fnIDStringIsLowerHexSpec : ChangeSpec := { name := "fnIDStringIsLowerHex", fn := fun _ => fun
  | [d] => { results := [.lit (.bool true)], args := [d] }
  | _ => none }
def fnIDStringIsLowerHexRow : OpenClaim := { program := "qxb6609523a", sum := "f1174b08bd6f7f58fddab9c495f58327c66560e76b5e984274f1d7698c94fe86", func := "example.com/packwire/packwire/zzlaws_internal_object_b1.FnIDStringIsLowerHex", spec := "fnIDStringIsLowerHex", apart := false }
def FnIDStringIsLowerHexSaid : Prop := fnIDStringIsLowerHexRow.holds Try.pinned (OpenSpec.ofChange fnIDStringIsLowerHexSpec)

/-- ITS FALSE NEIGHBOUR: 'it returns false'. Refute it at one input. -/
def fnIDStringIsLowerHexWrong : ChangeSpec := { name := "fnIDStringIsLowerHex", fn := fun _ => fun
  | [d] => { results := [.lit (.bool false)], args := [d] }
  | _ => none }
def FnIDStringIsLowerHexWrongFalsely : Prop := fnIDStringIsLowerHexRow.holds Try.pinned (OpenSpec.ofChange fnIDStringIsLowerHexWrong)

/-- 'zzlaws_internal_object_b1.FnIDStringDecodesBackAndSeparates': WHATEVER THE INPUT: true; the input reads as it did. -/
def fnIDStringDecodesBackAndSeparatesSpec : ChangeSpec := { name := "fnIDStringDecodesBackAndSeparates", fn := fun _ => fun
  | [d1, d2] => { results := [.lit (.bool true)], args := [d1, d2] }
  | _ => none }
def fnIDStringDecodesBackAndSeparatesRow : OpenClaim := { program := "qxb6609523a", sum := "f1174b08bd6f7f58fddab9c495f58327c66560e76b5e984274f1d7698c94fe86", func := "example.com/packwire/packwire/zzlaws_internal_object_b1.FnIDStringDecodesBackAndSeparates", spec := "fnIDStringDecodesBackAndSeparates", apart := false }
def FnIDStringDecodesBackAndSeparatesSaid : Prop := fnIDStringDecodesBackAndSeparatesRow.holds Try.pinned (OpenSpec.ofChange fnIDStringDecodesBackAndSeparatesSpec)

/-- ITS FALSE NEIGHBOUR: 'it returns false'. Refute it at one input. -/
def fnIDStringDecodesBackAndSeparatesWrong : ChangeSpec := { name := "fnIDStringDecodesBackAndSeparates", fn := fun _ => fun
  | [d1, d2] => { results := [.lit (.bool false)], args := [d1, d2] }
  | _ => none }
def FnIDStringDecodesBackAndSeparatesWrongFalsely : Prop := fnIDStringDecodesBackAndSeparatesRow.holds Try.pinned (OpenSpec.ofChange fnIDStringDecodesBackAndSeparatesWrong)

end Rows
end Go.Proofs.Qxb6609523a
