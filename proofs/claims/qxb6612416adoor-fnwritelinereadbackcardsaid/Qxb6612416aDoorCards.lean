/-
  DERIVED. GIVEN WITH THE SEED: THE CARDS: each row of Qxb6612416aDoorRows.lean that lists a variable, with what it lists TIED to the program's text (the seventh form; the later family's looks); each row that meets fmt, with fmt's text TOLD by the authors' own Lean function (tested against real Go, not proved from fmt's source: count such statements apart). THE CARD IS WHAT COUNTS. Prove the row's statement (the work); the ties are given (Qxb6612416aDoorTie.lean); close each card by the builder's one call (the guide's Derived/Test/ToyasCard.lean, 'card_holds'). Laid BY PROGRAM, IN A SANDBOX (cutbox-door.mjs). By AI agents, Wed Nov 11 2026. No macro, syntax, notation, axiom, sorry.
-/
import Derived.Test.Qxb6612416aDoorRows
import GoSem.ClaimSeven
namespace Go.Proofs.Qxb6612416aDoor
namespace Rows

/-- THE TIED CARD OF 'zzlaws_pkg_protocol_b1.FnWriteLineReadBack'. -/
def fnWriteLineReadBackCard : Claim7 := { stood := { row := fnWriteLineReadBackRow, standIns := [], harness := (true, "41408a77a52ca7adf2bccfb5aa43bd742ca4ae5746aedb41992c29a64d16f375"), looks := true }, kinds := [], alts := [], laidByText := true, laidKinds := [.sentinel, .sentinel, .sentinel, .sentinel, .sentinel, .sentinel], laidTests := true, laidLooks := .later }
def FnWriteLineReadBackCardSaid : Prop := Claim7.holds Tryd.pinned (.plain (OpenSpec.ofChange fnWriteLineReadBackSpec)) fnWriteLineReadBackCard

/-- THE TIED CARD OF 'zzlaws_pkg_protocol_b1.FnBlockAnswerExact'. -/
def fnBlockAnswerExactCard : Claim7 := { stood := { row := fnBlockAnswerExactRow, standIns := [], harness := (true, "41408a77a52ca7adf2bccfb5aa43bd742ca4ae5746aedb41992c29a64d16f375"), looks := true }, kinds := [], alts := [], laidByText := true, laidKinds := [.sentinel, .sentinel, .sentinel, .sentinel, .sentinel, .sentinel, .sentinel], laidTests := true, laidLooks := .later }
def FnBlockAnswerExactCardSaid : Prop := Claim7.holds Tryd.pinned (.plain (OpenSpec.ofChange fnBlockAnswerExactSpec)) fnBlockAnswerExactCard

/-- THE TIED CARD OF 'zzlaws_pkg_protocol_b1.FnBlockReadsWriteBlock'. -/
def fnBlockReadsWriteBlockCard : Claim7 := { stood := { row := fnBlockReadsWriteBlockRow, standIns := [], harness := (true, "41408a77a52ca7adf2bccfb5aa43bd742ca4ae5746aedb41992c29a64d16f375"), looks := true }, kinds := [], alts := [], laidByText := true, laidKinds := [.sentinel, .sentinel, .sentinel, .sentinel, .sentinel, .sentinel, .sentinel], laidTests := true, laidLooks := .later }
def FnBlockReadsWriteBlockCardSaid : Prop := Claim7.holds Tryd.pinned (.plain (OpenSpec.ofChange fnBlockReadsWriteBlockSpec)) fnBlockReadsWriteBlockCard
end Rows
end Go.Proofs.Qxb6612416aDoor
