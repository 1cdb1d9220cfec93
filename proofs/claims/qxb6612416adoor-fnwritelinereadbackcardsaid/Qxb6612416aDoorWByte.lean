import Derived.Test.Qxb6612416aDoorWStr
namespace Go.Proofs.Qxb6612416aDoor.line
open Go.RowKit

set_option maxHeartbeats 2000000 in
set_option maxRecDepth 20000 in
theorem wbyte_room (wb rw b n : Nat) (row : Array Value) (w : World) (h : WR w wb rw b n) (hn : n < 4096) (hr : w.heap[rw]? = some (.cells row 5 (0, 0))) (hrow : row.size = 4096) (hne : rw ≠ wb) :
    Calls Tryd.prog 26 #[.pointer (some ⟨wb, 0, none⟩), .int .u8 10] w fun e w' => e = .returned .nilIface ∧ WR w' wb rw b (n + 1) ∧ w'.heap[rw]? = some (.cells (row.setIfInBounds n (.int .u8 10)) 5 (0, 0)) ∧ Kept [wb, rw] w w' := by
  have c0 := h.c0
  have hn1 : (n : Int) < 4096 := by omega
  have HA := hid (available_any wb rw b n w h (by omega))
  have HR := hid hrow
  clear hrow
  go_enter Tryd.func26, Tryd.ntmps26
  go_wp2_with (go_at_call 34; refine HA.out.mono ?_; rintro e w1 ⟨rfl, q, rfl⟩)
  have h2 : WR (w.drewN q) wb rw b n := h
  have hr2 : (w.drewN q).heap[rw]? = some (.cells row 5 (0, 0)) := hr
  have hk2 : Kept [wb, rw] w (w.drewN q) := (Kept.refl _ _).drewN _
  generalize w.drewN q = W at h2 hr2 hk2 ⊢
  clear c0 HA h hr
  have c1 := h2.c1
  have c2 := h2.c2
  have hc : ∃ v, W.cell? ⟨rw, n, none⟩ = some v := by
    rw [cell_of_row _ _ _ _ _ _ hr2]
    exact ⟨_, Array.getElem?_eq_getElem (by have := HR.out; omega)⟩
  obtain ⟨v, hv⟩ := hc
  have hf : W.frozen? ⟨rw, n, none⟩ = false := frozen_of_row _ _ _ _ _ hr2
  have f2 := h2.f 2
  go_region
  have h3 : WR (W.drew.setCell ⟨rw, n, none⟩ (.int .u8 10)) wb rw b n := by unfold WR; exact row_other (w := W.drew) h2 (by exact fun e => hne e.symm) _
  have hr3 : (W.drew.setCell ⟨rw, n, none⟩ (.int .u8 10)).heap[rw]? = some (.cells (row.setIfInBounds n (.int .u8 10)) 5 (0, 0)) := heap_setCell_same W.drew rw n row 5 _ hr2
  have hk3 : Kept [wb, rw] w (W.drew.setCell ⟨rw, n, none⟩ (.int .u8 10)) := hk2.drew.setCell _ (by simp) _
  go_wp2
  go_ret
  exact ⟨rfl, h3.s2 (n + 1), row_other hr3 (by exact hne) _, hk3.setCell _ (by simp) _⟩

theorem isBuffer_row {w : World} {B b : Nat} {bs : List Value} {rw : Nat} (h : Lib.IsBuffer 41 5 B b bs w) (hg : OffRow w rw b) (hne : rw ≠ b) (j : Nat) (u : Value) : Lib.IsBuffer 41 5 B b bs (w.setCell ⟨rw, j, none⟩ u) := by
  obtain ⟨hB, v, lr, hbk, hown, hn⟩ := h
  refine ⟨hB, v, lr, row_other hbk (by exact fun e => hne e.symm) _, ⟨hown.1, ?_⟩, hn⟩
  rcases hown.2 with h2 | ⟨g, cap, cur, h1, h2, h3, h4⟩
  · exact Or.inl h2
  · refine Or.inr ⟨g, cap, cur, h1, h2, row_other h3 ?_ _, h4⟩
    intro e
    exact hg v lr hbk (by rw [h1]; exact congrArg some e)

set_option maxHeartbeats 2000000 in
set_option maxRecDepth 20000 in
theorem wbyte_full (B wb rw b : Nat) (lr : Int) (l : List UInt8) (hl : l.length = 4096) (row : Array Value) (w : World) (h : WR w wb rw b 4096) (hb : BU w b (.slice none 0 0) lr) (hB : B ≤ b) (hsh : Shows w rw 0 l)
    (hr : w.heap[rw]? = some (.cells row 5 (0, 0))) (hrow : row.size = 4096) (hne : rw ≠ wb) (hwb : wb ≠ b) (hrb : rw ≠ b) :
    Calls Tryd.prog 26 #[.pointer (some ⟨wb, 0, none⟩), .int .u8 10] w fun e w' => e = .returned .nilIface ∧ WR w' wb rw b 1 ∧ w'.heap[rw]? = some (.cells (row.setIfInBounds 0 (.int .u8 10)) 5 (0, 0)) ∧
      Lib.IsBuffer 41 5 B b (Lib.byteCells l) w' ∧ KeptG [wb, rw, b] w w' := by
  have c0 := h.c0
  have hrl : rw < w.heap.size := (Array.getElem?_eq_some_iff.1 hr).1
  have HA := hid (available_any wb rw b 4096 w h (by omega))
  have HF := hid (fun q => flush_core wb rw b 4096 (fun w1 => Lib.IsBuffer 41 5 B b (Lib.byteCells l) w1 ∧ KeptG [b] w w1 ∧ OffRow w1 rw b) (w.drewN q) h (by omega) (by omega) (hid fun q2 => by
    refine (write_fresh B b rw 4096 4096 lr l ((w.drewN q).drewN q2) hB hb hl (by omega) (by omega) hsh hrb hrl).mono ?_
    rintro e w1 ⟨rfl, i1, k1, o1⟩
    exact ⟨rfl, WR.keptg (w := (w.drewN q).drewN q2) h k1 (by simpa using hwb), i1, (((KeptG.refl [b] w).drewN q).drewN q2).trans k1, o1 rw hrl⟩))
  have HR := hid hrow
  clear hrow
  go_enter Tryd.func26, Tryd.ntmps26
  go_wp2_with (first
    | (go_at_call 34; refine HA.out.mono ?_; rintro e w1 ⟨rfl, q, rfl⟩)
    | (go_at_call 27; refine (HF.out _).mono ?_; rintro e w1 ⟨rfl, w2, r2, ⟨i2, k2, o2⟩, hw⟩; have hw2 := hw.symm; subst hw2; refine Hid.out ?_))
  refine hid ?_
  have hr2 : w2.heap[rw]? = some (.cells row 5 (0, 0)) := by rw [k2.block rw hrl (by simpa using hrb)]; exact hr
  have r3 := r2.s2 0
  have hr3 : (w2.setCell ⟨wb, 2, none⟩ (.int .i64 (0 : Nat))).heap[rw]? = some (.cells row 5 (0, 0)) := row_other hr2 (by exact hne) _
  have i3 := isBuffer_other i2 r2 hwb 2 (.int .i64 (0 : Nat))
  have o3 := o2.setCell ⟨wb, 2, none⟩ hwb (.int .i64 (0 : Nat))
  have k3 : KeptG [wb, rw, b] w (w2.setCell ⟨wb, 2, none⟩ (.int .i64 (0 : Nat))) := KeptG.setCell ⟨k2.os, k2.tape, k2.output, k2.size, fun k h1 h2 => k2.block k h1 (by simp at h2 ⊢; exact h2.2.2)⟩ _ (by simp) _
  have hz : (w2.setCell ⟨wb, 2, none⟩ (.int .i64 0)) = (w2.setCell ⟨wb, 2, none⟩ (.int .i64 (0 : Nat))) := rfl
  rw [hz]
  generalize (w2.setCell ⟨wb, 2, none⟩ (.int .i64 (0 : Nat))) = W at r3 hr3 i3 o3 k3 ⊢
  clear c0 HA HF hr2 i2 o2 k2 r2 hz
  have c1 := r3.c1
  have c2 := r3.c2
  have hc : ∃ v, W.cell? ⟨rw, 0, none⟩ = some v := by
    rw [cell_of_row _ _ _ _ _ _ hr3]
    exact ⟨_, Array.getElem?_eq_getElem (by have := HR.out; omega)⟩
  obtain ⟨v, hv⟩ := hc
  have hf : W.frozen? ⟨rw, 0, none⟩ = false := frozen_of_row _ _ _ _ _ hr3
  have f2 := r3.f 2
  have HI := hid i3
  have HO := hid o3
  have HK := hid k3
  clear i3 o3 k3
  go_wp2
  go_region
  have h4 : WR (W.drew.setCell ⟨rw, 0, none⟩ (.int .u8 10)) wb rw b 0 := by unfold WR; exact row_other (w := W.drew) r3 (by exact fun e => hne e.symm) _
  have hr4 : (W.drew.setCell ⟨rw, 0, none⟩ (.int .u8 10)).heap[rw]? = some (.cells (row.setIfInBounds 0 (.int .u8 10)) 5 (0, 0)) := heap_setCell_same W.drew rw 0 row 5 _ hr3
  have hI : Lib.IsBuffer 41 5 B b (Lib.byteCells l) W.drew := HI.out
  have hO : OffRow W.drew rw b := HO.out
  have hI4 := hid (isBuffer_row hI hO hrb 0 (.int .u8 10))
  have hk4 : KeptG [wb, rw, b] w (W.drew.setCell ⟨rw, 0, none⟩ (.int .u8 10)) := KeptG.setCell (w1 := W.drew) (HK.out.drewN 1) _ (by simp) _
  clear hI hO
  go_wp2
  go_ret
  exact ⟨rfl, h4.s2 1, row_other hr4 (by exact hne) _, isBuffer_other hI4.out h4 hwb _ _, hk4.setCell _ (by simp) _⟩

end Go.Proofs.Qxb6612416aDoor.line
