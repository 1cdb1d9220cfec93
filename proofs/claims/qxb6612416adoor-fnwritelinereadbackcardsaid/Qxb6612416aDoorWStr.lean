import Derived.Test.Qxb6612416aDoorFlush
namespace Go.Proofs.Qxb6612416aDoor.line
open Go.RowKit

set_option maxHeartbeats 2000000 in
set_option maxRecDepth 20000 in
theorem wstr_short (wb rw b : Nat) (s : ByteArray) (hs : s.size ≤ 4096) (row : Array Value) (w : World) (h : WR w wb rw b 0) (hr : w.heap[rw]? = some (.cells row 5 (0, 0))) (hrow : row.size = 4096) (hne : rw ≠ wb) :
    Calls Tryd.prog 25 #[.pointer (some ⟨wb, 0, none⟩), .string s] w fun e w' => e = .returned (.tuple #[.int .i64 s.size, .nilIface]) ∧ WR w' wb rw b s.size ∧ w'.heap[rw]? = some (.cells (put row 0 s.data.toList) 5 (0, 0)) ∧ Kept [wb, rw] w w' := by
  have HR := hid hrow
  clear hrow
  go_enter Tryd.func25, Tryd.ntmps25
  go_wp2
  go_loopw [1, 8] (fun v nn wr => v = .string s ∧ nn = .int .i64 0 ∧ wr = w) (fun _ _ _ => 0)
  case atStart => exact ⟨rfl, rfl, rfl⟩
  case round =>
    obtain ⟨rfl, rfl, hwr⟩ := hrel
    subst hwr
    have c0 := h.c0
    have HA := hid (available_any wb rw b 0 wr h (by omega))
    go_wp2_with (go_at_call 34; refine HA.out.mono ?_; rintro e w1 ⟨rfl, q, rfl⟩)
    have h2 : WR (wr.drewN q) wb rw b 0 := h
    have hr2 : (wr.drewN q).heap[rw]? = some (.cells row 5 (0, 0)) := hr
    have hk2 : Kept [wb, rw] wr (wr.drewN q) := (Kept.refl _ _).drewN _
    generalize wr.drewN q = W at h2 hr2 hk2 ⊢
    clear c0 HA h hr
    have c1 := h2.c1
    have c2 := h2.c2
    have hsl : s.data.toList.length = s.size := (Lib.size_eq s).symm
    have hcp := copy_trunc W.drew rw 0 4096 4096 s row 5 s.size (by omega) hr2 (by have := HR.out; omega)
    rw [List.take_of_length_le (by rw [hsl]; exact Nat.le_refl _)] at hcp
    obtain ⟨row', hrow'⟩ : ∃ r, put row 0 s.data.toList = r := ⟨_, rfl⟩
    rw [hrow'] at hcp
    have HRow := hid hrow'
    clear hrow' hsl
    go_region
    have h3 : WR (W.drew.setRow rw row') wb rw b 0 := by unfold WR; rw [setRow_other _ _ _ _ (by exact fun e => hne e.symm)]; exact h2
    have hr3 : (W.drew.setRow rw row').heap[rw]? = some (.cells row' 5 (0, 0)) := setRow_heap W.drew rw row row' 5 _ hr2
    have hk3 : Kept [wb, rw] wr (W.drew.setRow rw row') := hk2.drew.setRow _ (by simp) _
    generalize W.drew.setRow rw row' = W3 at h3 hr3 hk3 ⊢
    clear c1 c2 hcp h2 hr2 hk2
    have c2 := h3.c2
    have f2 := h3.f 2
    go_wp2
    go_ret2
    exact ⟨rfl, h3.s2 s.size, by rw [HRow.out]; exact row_other hr3 (by exact hne) _, hk3.setCell _ (by simp) _⟩

theorem isBuffer_other {w : World} {B b : Nat} {bs : List Value} {wb : Nat} {cs : Array Value} (h : Lib.IsBuffer 41 5 B b bs w) (hw : w.heap[wb]? = some (.cells cs 85 (0, 0))) (hne : wb ≠ b) (j : Nat) (u : Value) : Lib.IsBuffer 41 5 B b bs (w.setCell ⟨wb, j, none⟩ u) := by
  obtain ⟨hB, v, lr, hbk, hown, hn⟩ := h
  refine ⟨hB, v, lr, row_other hbk (by exact fun e => hne e.symm) _, ⟨hown.1, ?_⟩, hn⟩
  rcases hown.2 with h2 | ⟨g, cap, cur, h1, h2, h3, h4⟩
  · exact Or.inl h2
  · refine Or.inr ⟨g, cap, cur, h1, h2, row_other h3 ?_ _, h4⟩
    show g ≠ wb
    rintro rfl
    rw [h3] at hw
    cases hw

set_option maxHeartbeats 2000000 in
set_option maxRecDepth 20000 in
theorem wstr_long (B wb rw b : Nat) (lr : Int) (s : ByteArray) (hs : 4096 < s.size) (hs2 : s.size ≤ 1048576) (w : World) (h : WR w wb rw b 0) (hb : BU w b (.slice none 0 0) lr) (hB : B ≤ b) (hne : wb ≠ b) (hrl : rw < w.heap.size) :
    Calls Tryd.prog 25 #[.pointer (some ⟨wb, 0, none⟩), .string s] w fun e w' => e = .returned (.tuple #[.int .i64 s.size, .nilIface]) ∧ WR w' wb rw b 0 ∧ Lib.IsBuffer 41 5 B b (Lib.byteCells s.data.toList) w' ∧ KeptG [wb, b] w w' ∧ OffRow w' rw b := by
  have hs1 : (4096 : Int) < (s.size : Int) := by omega
  go_enter Tryd.func25, Tryd.ntmps25
  go_wp2
  go_loopg [1, 6, 7, 8] 1 (fun g v sw tr nn wr => (g = 1 ∧ v = .string s ∧ sw = .nilIface ∧ tr = .bool true ∧ nn = .int .i64 0 ∧ wr = w) ∨
    (g = 0 ∧ v = .string ByteArray.empty ∧ nn = .int .i64 s.size ∧ WR wr wb rw b 0 ∧ Lib.IsBuffer 41 5 B b (Lib.byteCells s.data.toList) wr ∧ KeptG [wb, b] w wr ∧ OffRow wr rw b))
  case atStart => exact Or.inl ⟨rfl, rfl, rfl, rfl, rfl, rfl⟩
  case round =>
    rcases hrel with ⟨rfl, rfl, rfl, rfl, rfl, hwr⟩ | ⟨rfl, rfl, rfl, h2, hI, hkg, hoff⟩
    · subst hwr
      have c0 := h.c0
      have c3 := h.c3
      have HA := hid (available_any wb rw b 0 wr h (by omega))
      have HB := hid (fun q => wbuffered_any wb rw b 0 (wr.drewN q) h)
      have HWS := hid (fun q => writeString_fresh B b lr s (wr.drewN q) hB hb (by omega) hs2)
      have hm := meth_writeString ⟨b, 0, none⟩
      have has := assert82 ⟨b, 0, none⟩
      go_wp2_with (first
        | (go_at_call 34; refine HA.out.mono ?_; rintro e w1 ⟨rfl, q, rfl⟩)
        | (go_at_call 35; refine (HB.out _).mono ?_; rintro e w1 ⟨rfl, hw⟩; have hw2 := hw.symm; subst hw2)
        | (go_at_call 66; refine (HWS.out _).mono ?_; rintro e w1 ⟨rfl, i1, k1, o1⟩; refine Hid.out ?_))
      refine hid ?_
      have hkg : KeptG [wb, b] wr w1 := ((KeptG.refl _ wr).drewN _).trans ⟨k1.os, k1.tape, k1.output, k1.size, fun k h1 h2 => k1.block k h1 (by simp at h2 ⊢; exact h2.2)⟩
      have h1 : WR w1 wb rw b 0 := h.keptg (((KeptG.refl [b] wr).drewN _).trans k1) (by simpa using hne)
      have HI := hid i1
      have HO := hid (o1 rw hrl)
      have HK := hid hkg
      clear c0 c3 HA HB HWS hm has i1 k1 hkg o1
      have d0 := h1.c0
      have f0 := h1.f 0
      go_wp2
      go_roundg 0
      case measure => omega
      case rel => exact Or.inr ⟨rfl, rfl, rfl, h1.s0, isBuffer_other HI.out h1 hne _ _, HK.out.setCell _ (by simp) _, HO.out.setCell _ hne _⟩
    · have c0 := h2.c0
      have HA := hid (available_any wb rw b 0 wr h2 (by omega))
      go_wp2_with (go_at_call 34; refine HA.out.mono ?_; rintro e w1 ⟨rfl, q, rfl⟩)
      have h3 : WR (wr.drewN q) wb rw b 0 := h2
      have hI3 : Lib.IsBuffer 41 5 B b (Lib.byteCells s.data.toList) (wr.drewN q) := hI
      have hk3 : KeptG [wb, b] w (wr.drewN q) := hkg.drewN _
      have hO3 : OffRow (wr.drewN q) rw b := hoff
      generalize wr.drewN q = W at h3 hI3 hk3 hO3 ⊢
      clear c0 HA h2 hI hkg hoff
      have HO := hid hO3
      clear hO3
      have c1 := h3.c1
      have c2 := h3.c2
      have f2 := h3.f 2
      have hcp := fun n => Lib.run_copy_empty_string (P := Tryd.prog) (W.drewN n) 37 9 3 5 (some ⟨rw, 0, none⟩) 4096 4096 ByteArray.empty Tryd.underlying37 (by rw [size5]; rfl) rfl
      have HI := hid hI3
      clear hI3
      go_quiet (fail)
      clear hcp
      go_wp2
      go_ret2
      have hI4 : Lib.IsBuffer 41 5 B b (Lib.byteCells s.data.toList) (W.drewN nq) := HI.out
      exact ⟨rfl, WR.s2 (w := W.drewN _) h3 0, isBuffer_other hI4 h3 hne _ _, (hk3.drewN _).setCell _ (by simp) _, OffRow.setCell (w := W.drewN _) HO.out _ hne _⟩

end Go.Proofs.Qxb6612416aDoor.line
