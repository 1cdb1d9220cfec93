/-
  No cell of these rows narrows 'for every input' (looked for: loops, veiled, ifaces, maps, wideKeys, modest, calm, conditions, laid).
  DERIVED. THE GIVEN ROWS OF THIS SEAT. 3 by the template 'for every input the law returns true; each argument reads behind the call as it read before'; 0 by the template 'total and deterministic' (their statements: Qxb6612707aTotals.lean).
  GIVEN WITH THE SEED: the statements are not yours to turn. If you find one false, say at which input.
  Laid BY PROGRAM, IN A SANDBOX (cutbox-rows.mjs): the forced cells as the released guide's own fill.sh prints them over the translation 992712c52333b5d3… (all of the seat's roots in one cut). By AI agents, Wed Nov 11 2026. No macro, syntax, notation, axiom, sorry.
-/
import Derived.Test.Qxb6612707aChecked
import GoSem.Claim
import GoSem.ClaimJoined
import GoSem.ClaimMapViews
import Derived.JoinedTies
import Derived.KernelRfl
namespace Go.Proofs.Qxb6612707a
/- THE CELL 'sum', in the pinned program and in every row, IS THE sha256 OF THE DUMP (.gsa) THAT Qxb6612707aProg.lean LOADS. Nothing in Lean hashes anything: it is a label: what it is worth is what the hold of that sum in a sandbox is worth. -/
noncomputable def Try.pinned : Pinned := { name := "qxb6612707a", sum := "992712c52333b5d398588dcca02ece1d04c5108aa6f527160bc59e86a97e7c10", checked := Try.checked }
namespace Rows
def none {H : Type} : Left H := { results := [], args := [] }

/-- 'zzlaws_api_b1.FnIsWordJoin': WHATEVER THE INPUT: true; the input reads as it did. -/
def fnIsWordJoinSpec : ChangeSpec := { name := "fnIsWordJoin", fn := fun _ => fun
  | [d1, d2] => { results := [.lit (.bool true)], args := [d1, d2] }
  | _ => none }
def fnIsWordJoinRow : OpenClaim := { program := "qxb6612707a", sum := "992712c52333b5d398588dcca02ece1d04c5108aa6f527160bc59e86a97e7c10", func := "example.com/credence/credence/zzlaws_api_b1.FnIsWordJoin", spec := "fnIsWordJoin", inPlace := ["internal/bytealg.IndexByteString"], apart := false }
def FnIsWordJoinSaid : Prop := fnIsWordJoinRow.holds Try.pinned (OpenSpec.ofChange fnIsWordJoinSpec)

/-- ITS FALSE NEIGHBOUR: 'it returns false'. Refute it at one input. -/
def fnIsWordJoinWrong : ChangeSpec := { name := "fnIsWordJoin", fn := fun _ => fun
  | [d1, d2] => { results := [.lit (.bool false)], args := [d1, d2] }
  | _ => none }
def FnIsWordJoinWrongFalsely : Prop := fnIsWordJoinRow.holds Try.pinned (OpenSpec.ofChange fnIsWordJoinWrong)

/-- 'zzlaws_api_b1.FnIsWordFirstByteDecides': WHATEVER THE INPUT: true; the input reads as it did. -/
def fnIsWordFirstByteDecidesSpec : ChangeSpec := { name := "fnIsWordFirstByteDecides", fn := fun _ => fun
  | [d] => { results := [.lit (.bool true)], args := [d] }
  | _ => none }
def fnIsWordFirstByteDecidesRow : OpenClaim := { program := "qxb6612707a", sum := "992712c52333b5d398588dcca02ece1d04c5108aa6f527160bc59e86a97e7c10", func := "example.com/credence/credence/zzlaws_api_b1.FnIsWordFirstByteDecides", spec := "fnIsWordFirstByteDecides", inPlace := ["internal/bytealg.IndexByteString"], apart := false }
def FnIsWordFirstByteDecidesSaid : Prop := fnIsWordFirstByteDecidesRow.holds Try.pinned (OpenSpec.ofChange fnIsWordFirstByteDecidesSpec)

/-- ITS FALSE NEIGHBOUR: 'it returns false'. Refute it at one input. -/
def fnIsWordFirstByteDecidesWrong : ChangeSpec := { name := "fnIsWordFirstByteDecides", fn := fun _ => fun
  | [d] => { results := [.lit (.bool false)], args := [d] }
  | _ => none }
def FnIsWordFirstByteDecidesWrongFalsely : Prop := fnIsWordFirstByteDecidesRow.holds Try.pinned (OpenSpec.ofChange fnIsWordFirstByteDecidesWrong)

/-- 'zzlaws_api_b1.FnIsZeroEveryCut': WHATEVER THE INPUT: true; the input reads as it did. -/
def fnIsZeroEveryCutSpec : ChangeSpec := { name := "fnIsZeroEveryCut", fn := fun _ => fun
  | [d] => { results := [.lit (.bool true)], args := [d] }
  | _ => none }
def fnIsZeroEveryCutRow : OpenClaim := { program := "qxb6612707a", sum := "992712c52333b5d398588dcca02ece1d04c5108aa6f527160bc59e86a97e7c10", func := "example.com/credence/credence/zzlaws_api_b1.FnIsZeroEveryCut", spec := "fnIsZeroEveryCut", apart := false }
def FnIsZeroEveryCutSaid : Prop := fnIsZeroEveryCutRow.holds Try.pinned (OpenSpec.ofChange fnIsZeroEveryCutSpec)

/-- ITS FALSE NEIGHBOUR: 'it returns false'. Refute it at one input. -/
def fnIsZeroEveryCutWrong : ChangeSpec := { name := "fnIsZeroEveryCut", fn := fun _ => fun
  | [d] => { results := [.lit (.bool false)], args := [d] }
  | _ => none }
def FnIsZeroEveryCutWrongFalsely : Prop := fnIsZeroEveryCutRow.holds Try.pinned (OpenSpec.ofChange fnIsZeroEveryCutWrong)

end Rows
end Go.Proofs.Qxb6612707a
