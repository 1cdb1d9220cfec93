import Derived.Test.Qxb6612416aDoorWLine
import Derived.Deep.RegionWith
namespace Go.Proofs.Qxb6612416aDoor.line
open Go.RowKit

theorem newWriter_over (b : Nat) (w : World) (hb : w.heap.size = b) :
    Calls Tryd.prog 18 #[.iface 47 (.pointer (some ⟨b, 0, none⟩))] (w.alloc (.cells #[.slice none 0 0, .int .i64 0, .int .i8 0] 41)) fun e w' => e = .returned (.pointer (some ⟨b + 2, 0, none⟩)) ∧
      WR w' (b + 2) (b + 1) b 0 ∧ w'.heap[b + 1]? = some (.cells zeros 5 (0, 0)) ∧ BU w' b (.slice none 0 0) 0 ∧ Below b w w' := by
  have hz : (w.alloc (.cells #[.slice none 0 0, .int .i64 0, .int .i8 0] 41)).heap.size = b + 1 := by simp [hb]
  refine (newWriter_any b _).mono ?_
  rintro e w1 ⟨rfl, h1, h2, h3⟩
  rw [hz] at *
  refine ⟨rfl, h1, h2, ?_, ?_⟩
  · unfold BU
    rw [h3.block b (by omega)]
    subst hb
    exact heap_alloc_new w _
  · exact (((Below.refl _ _).alloc (by omega) _).trans (h3.mono (by omega)))

set_option maxHeartbeats 2000000 in
set_option maxRecDepth 20000 in
theorem zzWriteLine_any (s : ByteArray) (l : List UInt8) (hl : s.data.toList = l) (hs : l.length ≤ 131072) (w : World) :
    Calls Tryd.prog 8 #[.string s] w fun e w' => e = .returned (.tuple #[.string ⟨(l ++ [10]).toArray⟩, .bool false]) ∧ Below w.heap.size w w' := by
  have HN := hid (newWriter_over w.heap.size w rfl)
  have HS := hid hs
  clear hs
  go_enter Tryd.func8, Tryd.ntmps8
  go_wp2_with (first
    | (go_at_call 18; refine HN.out.mono ?_; rintro e w1 ⟨rfl, h1, h2, h3, h4⟩)
    | (go_at_call 17; refine (writeLine_any w.heap.size (w.heap.size + 2) (w.heap.size + 1) w.heap.size 0 s l hl HS.out w1 h1 h2 h3 (Nat.le_refl _) (by omega) (by omega) (by omega) (by omega) (by omega)).mono ?_; rintro e w2 ⟨rfl, i2, b2⟩))
  have HI := hid i2
  have HB := hid (h4.trans b2)
  clear h1 h2 h3 h4 i2 b2
  go_quiet ((go_at_call 19; exact Calls.quiet_of (bString w.heap.size w.heap.size (l ++ [10]) _ (by exact HI.out))))
  go_wp2
  go_ret2
  exact ⟨rfl, ⟨HB.out.os, HB.out.tape, HB.out.output, HB.out.size, HB.out.block⟩⟩

end Go.Proofs.Qxb6612416aDoor.line
