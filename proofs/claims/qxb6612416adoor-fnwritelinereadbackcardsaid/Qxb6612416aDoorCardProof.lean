import Derived.Test.Qxb6612416aDoorRow
import Derived.Test.Qxb6612416aDoorTie
import Derived.Test.Qxb6612416aDoorCards
import Derived.SevenTiedAt
namespace Go.Proofs.Qxb6612416aDoor.line
open Go

/-- ████ THE STATEMENT: THE TIED CARD ████ -/
theorem proved : Rows.FnWriteLineReadBackCardSaid :=
  Claim7.holds_tied_plain_at .later [] [.sentinel, .sentinel, .sentinel, .sentinel, .sentinel, .sentinel] true (true, "41408a77a52ca7adf2bccfb5aa43bd742ca4ae5746aedb41992c29a64d16f375") true
    row_holds (fun _ h => by cases h) (by kernel_rfl) (fun _ h => by cases h) fnWriteLineReadBack_row_tie rfl ⟨rfl, rfl⟩ (by kernel_rfl) rfl
    (fun f fn hf hfn => by
      obtain rfl : f = 3 := Option.some.inj ((show Tryd.prog.funcNamed "example.com/pollwick/pollwick/zzlaws_pkg_protocol_b1.FnWriteLineReadBack" = some 3 by kernel_rfl).symm.trans hf) |>.symm
      obtain rfl : fn = Tryd.f3 := (Option.some.inj (Tryd.func3.symm.trans hfn)).symm
      exact ⟨by kernel_rfl, fun j t ht => by
        rw [Tryd.params3] at ht
        have h9 : t = 9 := by
          rcases j with _ | j
          · simpa using ht.symm
          · simp at ht
        subst h9
        exact (show Tryd.prog.wantsStandIn 9 = false by kernel_rfl)⟩)
    (by kernel_rfl)
#print axioms proved
end Go.Proofs.Qxb6612416aDoor.line
