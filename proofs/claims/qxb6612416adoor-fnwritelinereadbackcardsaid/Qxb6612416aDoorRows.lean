/-
  NARROWER THAN 'FOR EVERY INPUT', by the rows' own cells (each row's printed sentence says how): FnWriteLineReadBack: ifaces, laid · FnBlockAnswerExact: ifaces, laid · FnBlockReadsWriteBlock: ifaces, laid.
  DERIVED. THE GIVEN ROWS OF THIS SEAT. 3 by the template 'for every input the law returns true; each argument reads behind the call as it read before'; 0 by the template 'total and deterministic' (their statements: Qxb6612416aDoorTotals.lean).
  GIVEN WITH THE SEED: the statements are not yours to turn. If you find one false, say at which input.
  Laid BY PROGRAM, IN A SANDBOX (cutbox-rows.mjs): the forced cells as the released guide's own fill.sh prints them over the translation 1446bf2356c72306… (all of the seat's roots in one cut). By AI agents, Wed Nov 11 2026. No macro, syntax, notation, axiom, sorry.
-/
import Derived.Test.Qxb6612416aDoorChecked
import GoSem.Claim
import GoSem.ClaimJoined
import GoSem.ClaimMapViews
import Derived.JoinedTies
import Derived.KernelRfl
namespace Go.Proofs.Qxb6612416aDoor
/- THE CELL 'sum', in the pinned program and in every row, IS THE sha256 OF THE DUMP (.gsa) THAT Qxb6612416aDoorProg.lean LOADS. Nothing in Lean hashes anything: it is a label: what it is worth is what the hold of that sum in a sandbox is worth. -/
noncomputable def Tryd.pinned : Pinned := { name := "qxb6612416adoor", sum := "1446bf2356c7230649967c071bb73b383eb807378d682c535f49dbb228aac9f9", checked := Tryd.checked }
namespace Rows
def none {H : Type} : Left H := { results := [], args := [] }

/- WHAT THE LISTED PACKAGE-LEVEL VARIABLES READ AS WHEN THE CALL BEGINS. Each datum BY PROGRAM (the guide's laid-datum.mjs) off the statement by which the dump's own 'gosem.cut.vars' lays the variable. In a bare row this is a premise. The card (Qxb6612416aDoorCards.lean) ties it to the program's text. -/
def laid_io_ErrShortWrite {H : Type} : DataW H := .iface "*errors.errorString" (.ptr (.agg [.lit (.string [115, 104, 111, 114, 116, 32, 119, 114, 105, 116, 101])]))
def laid_io_EOF {H : Type} : DataW H := .iface "*errors.errorString" (.ptr (.agg [.lit (.string [69, 79, 70])]))
def laid_io_ErrNoProgress {H : Type} : DataW H := .iface "*errors.errorString" (.ptr (.agg [.lit (.string [109, 117, 108, 116, 105, 112, 108, 101, 32, 82, 101, 97, 100, 32, 99, 97, 108, 108, 115, 32, 114, 101, 116, 117, 114, 110, 32, 110, 111, 32, 100, 97, 116, 97, 32, 111, 114, 32, 101, 114, 114, 111, 114])]))
def laid_bufio_ErrBufferFull {H : Type} : DataW H := .iface "*errors.errorString" (.ptr (.agg [.lit (.string [98, 117, 102, 105, 111, 58, 32, 98, 117, 102, 102, 101, 114, 32, 102, 117, 108, 108])]))
def laid_bufio_errNegativeRead {H : Type} : DataW H := .iface "*errors.errorString" (.ptr (.agg [.lit (.string [98, 117, 102, 105, 111, 58, 32, 114, 101, 97, 100, 101, 114, 32, 114, 101, 116, 117, 114, 110, 101, 100, 32, 110, 101, 103, 97, 116, 105, 118, 101, 32, 99, 111, 117, 110, 116, 32, 102, 114, 111, 109, 32, 82, 101, 97, 100])]))
def laid_example_com_pollwick_pollwick_pkg_protocol_ErrLineTooLong {H : Type} : DataW H := .iface "*errors.errorString" (.ptr (.agg [.lit (.string [108, 105, 110, 101, 32, 116, 111, 111, 32, 108, 111, 110, 103])]))
def laid_example_com_pollwick_pollwick_pkg_protocol_ErrClosed {H : Type} : DataW H := .iface "*errors.errorString" (.ptr (.agg [.lit (.string [116, 104, 101, 32, 110, 111, 100, 101, 32, 99, 108, 111, 115, 101, 100, 32, 116, 104, 101, 32, 99, 111, 110, 110, 101, 99, 116, 105, 111, 110])]))

/-- 'zzlaws_pkg_protocol_b1.FnWriteLineReadBack': WHATEVER THE INPUT: true; the input reads as it did. -/
def fnWriteLineReadBackSpec : ChangeSpec := { name := "fnWriteLineReadBack", vars := ["example.com/pollwick/pollwick/pkg/protocol.ErrLineTooLong"], fn := fun _ => fun
  | [d, g1] => { results := [.lit (.bool true)], args := [d], vars := [g1] }
  | _ => none }
def fnWriteLineReadBackRow : OpenClaim := { program := "qxb6612416adoor", sum := "1446bf2356c7230649967c071bb73b383eb807378d682c535f49dbb228aac9f9", func := "example.com/pollwick/pollwick/zzlaws_pkg_protocol_b1.FnWriteLineReadBack", spec := "fnWriteLineReadBack", inPlace := ["internal/bytealg.IndexByte"], unfollowed := true, recurses := true, named := ["io.ErrShortWrite", "example.com/pollwick/pollwick/pkg/protocol.ErrLineTooLong", "bufio.ErrBufferFull", "io.EOF", "bufio.errNegativeRead", "io.ErrNoProgress"], ifaces := true, apart := false, laid := [("io.ErrShortWrite", laid_io_ErrShortWrite), ("io.EOF", laid_io_EOF), ("io.ErrNoProgress", laid_io_ErrNoProgress), ("bufio.ErrBufferFull", laid_bufio_ErrBufferFull), ("bufio.errNegativeRead", laid_bufio_errNegativeRead), ("example.com/pollwick/pollwick/pkg/protocol.ErrLineTooLong", laid_example_com_pollwick_pollwick_pkg_protocol_ErrLineTooLong)] }
def FnWriteLineReadBackSaid : Prop := fnWriteLineReadBackRow.holds Tryd.pinned (OpenSpec.ofChange fnWriteLineReadBackSpec)

/-- ITS FALSE NEIGHBOUR: 'it returns false'. Refute it at one input. -/
def fnWriteLineReadBackWrong : ChangeSpec := { name := "fnWriteLineReadBack", vars := ["example.com/pollwick/pollwick/pkg/protocol.ErrLineTooLong"], fn := fun _ => fun
  | [d, g1] => { results := [.lit (.bool false)], args := [d], vars := [g1] }
  | _ => none }
def FnWriteLineReadBackWrongFalsely : Prop := fnWriteLineReadBackRow.holds Tryd.pinned (OpenSpec.ofChange fnWriteLineReadBackWrong)

/-- 'zzlaws_pkg_protocol_b1.FnBlockAnswerExact': WHATEVER THE INPUT: true; the input reads as it did. -/
def fnBlockAnswerExactSpec : ChangeSpec := { name := "fnBlockAnswerExact", vars := ["example.com/pollwick/pollwick/pkg/protocol.ErrClosed", "example.com/pollwick/pollwick/pkg/protocol.ErrLineTooLong"], fn := fun _ => fun
  | [d1, d2, g1, g2] => { results := [.lit (.bool true)], args := [d1, d2], vars := [g1, g2] }
  | _ => none }
def fnBlockAnswerExactRow : OpenClaim := { program := "qxb6612416adoor", sum := "1446bf2356c7230649967c071bb73b383eb807378d682c535f49dbb228aac9f9", func := "example.com/pollwick/pollwick/zzlaws_pkg_protocol_b1.FnBlockAnswerExact", spec := "fnBlockAnswerExact", inPlace := ["internal/bytealg.IndexByte", "internal/reflectlite.TypeOf"], unfollowed := true, recurses := true, named := ["io.ErrShortWrite", "io.EOF", "example.com/pollwick/pollwick/pkg/protocol.ErrClosed", "example.com/pollwick/pollwick/pkg/protocol.ErrLineTooLong", "bufio.ErrBufferFull", "bufio.errNegativeRead", "io.ErrNoProgress"], ifaces := true, apart := false, laid := [("io.ErrShortWrite", laid_io_ErrShortWrite), ("io.EOF", laid_io_EOF), ("io.ErrNoProgress", laid_io_ErrNoProgress), ("bufio.ErrBufferFull", laid_bufio_ErrBufferFull), ("bufio.errNegativeRead", laid_bufio_errNegativeRead), ("example.com/pollwick/pollwick/pkg/protocol.ErrClosed", laid_example_com_pollwick_pollwick_pkg_protocol_ErrClosed), ("example.com/pollwick/pollwick/pkg/protocol.ErrLineTooLong", laid_example_com_pollwick_pollwick_pkg_protocol_ErrLineTooLong)] }
def FnBlockAnswerExactSaid : Prop := fnBlockAnswerExactRow.holds Tryd.pinned (OpenSpec.ofChange fnBlockAnswerExactSpec)

/-- ITS FALSE NEIGHBOUR: 'it returns false'. Refute it at one input. -/
def fnBlockAnswerExactWrong : ChangeSpec := { name := "fnBlockAnswerExact", vars := ["example.com/pollwick/pollwick/pkg/protocol.ErrClosed", "example.com/pollwick/pollwick/pkg/protocol.ErrLineTooLong"], fn := fun _ => fun
  | [d1, d2, g1, g2] => { results := [.lit (.bool false)], args := [d1, d2], vars := [g1, g2] }
  | _ => none }
def FnBlockAnswerExactWrongFalsely : Prop := fnBlockAnswerExactRow.holds Tryd.pinned (OpenSpec.ofChange fnBlockAnswerExactWrong)

/-- 'zzlaws_pkg_protocol_b1.FnBlockReadsWriteBlock': WHATEVER THE INPUT: true; the input reads as it did. -/
def fnBlockReadsWriteBlockSpec : ChangeSpec := { name := "fnBlockReadsWriteBlock", vars := ["example.com/pollwick/pollwick/pkg/protocol.ErrClosed", "example.com/pollwick/pollwick/pkg/protocol.ErrLineTooLong"], fn := fun _ => fun
  | [d1, d2, g1, g2] => { results := [.lit (.bool true)], args := [d1, d2], vars := [g1, g2] }
  | _ => none }
def fnBlockReadsWriteBlockRow : OpenClaim := { program := "qxb6612416adoor", sum := "1446bf2356c7230649967c071bb73b383eb807378d682c535f49dbb228aac9f9", func := "example.com/pollwick/pollwick/zzlaws_pkg_protocol_b1.FnBlockReadsWriteBlock", spec := "fnBlockReadsWriteBlock", inPlace := ["internal/bytealg.IndexByte", "internal/reflectlite.TypeOf"], unfollowed := true, recurses := true, named := ["io.ErrShortWrite", "io.EOF", "example.com/pollwick/pollwick/pkg/protocol.ErrClosed", "example.com/pollwick/pollwick/pkg/protocol.ErrLineTooLong", "bufio.ErrBufferFull", "bufio.errNegativeRead", "io.ErrNoProgress"], ifaces := true, apart := false, laid := [("io.ErrShortWrite", laid_io_ErrShortWrite), ("io.EOF", laid_io_EOF), ("io.ErrNoProgress", laid_io_ErrNoProgress), ("bufio.ErrBufferFull", laid_bufio_ErrBufferFull), ("bufio.errNegativeRead", laid_bufio_errNegativeRead), ("example.com/pollwick/pollwick/pkg/protocol.ErrClosed", laid_example_com_pollwick_pollwick_pkg_protocol_ErrClosed), ("example.com/pollwick/pollwick/pkg/protocol.ErrLineTooLong", laid_example_com_pollwick_pollwick_pkg_protocol_ErrLineTooLong)] }
def FnBlockReadsWriteBlockSaid : Prop := fnBlockReadsWriteBlockRow.holds Tryd.pinned (OpenSpec.ofChange fnBlockReadsWriteBlockSpec)

/-- ITS FALSE NEIGHBOUR: 'it returns false'. Refute it at one input. -/
def fnBlockReadsWriteBlockWrong : ChangeSpec := { name := "fnBlockReadsWriteBlock", vars := ["example.com/pollwick/pollwick/pkg/protocol.ErrClosed", "example.com/pollwick/pollwick/pkg/protocol.ErrLineTooLong"], fn := fun _ => fun
  | [d1, d2, g1, g2] => { results := [.lit (.bool false)], args := [d1, d2], vars := [g1, g2] }
  | _ => none }
def FnBlockReadsWriteBlockWrongFalsely : Prop := fnBlockReadsWriteBlockRow.holds Tryd.pinned (OpenSpec.ofChange fnBlockReadsWriteBlockWrong)

end Rows
end Go.Proofs.Qxb6612416aDoor
