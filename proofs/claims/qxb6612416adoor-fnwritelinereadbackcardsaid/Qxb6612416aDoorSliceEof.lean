import Derived.Test.Qxb6612416aDoorSlice
import Derived.Test.Qxb6612416aDoorFillEof
namespace Go.Proofs.Qxb6612416aDoor.line
open Go.RowKit

set_option maxHeartbeats 2000000 in
set_option maxRecDepth 20000 in
theorem slice_eof (rb bb sb : Nat) (T : ByteArray) (p q : Nat) (hq : q ≤ 4096) (prev lb lr : Int) (row : Array Value) (hp : T.size ≤ p) (te : TypeId) (pe : Value) (w : World) (hs : SR w sb T p prev) (hb : w.heap[bb]? = some (.cells row 5 (0, 0)))
    (hr : RB w rb bb sb q q .nilIface lb lr) (hn2 : rb ≠ sb) (hn3 : rb ≠ bb) (he : w.cell? ⟨2, 0, none⟩ = some (.iface te pe)) (hg : rb ≠ 2) :
    Calls Tryd.prog 30 #[.pointer (some ⟨rb, 0, none⟩), .int .u8 10] w fun e w' => ∃ o c, e = .returned (.tuple #[.slice (some ⟨bb, o, none⟩) 0 c, .iface te pe]) ∧ (∃ lb lr, RB w' rb bb sb 0 0 .nilIface lb lr) ∧ Kept [rb] w w' := by
  have HF := hid (fill_eof rb bb sb T p q hq prev lb lr row hp te pe)
  have HE := hid he
  clear he
  go_enter Tryd.func30, Tryd.ntmps30
  go_wp2
  go_loopg [5, 6] 1 (fun g e5 s wr => e5 = .nilIface ∧ s = .int .i64 0 ∧ ((g = 1 ∧ RB wr rb bb sb q q .nilIface lb lr ∧ Kept [] w wr) ∨ (g = 0 ∧ RB wr rb bb sb 0 0 (.iface te pe) lb lr ∧ Kept [rb] w wr)))
  case atStart => exact ⟨rfl, rfl, Or.inl ⟨rfl, hr, Kept.refl _ _⟩⟩
  case round =>
    obtain ⟨rfl, rfl, ⟨rfl, hr0, hk0⟩ | ⟨rfl, hr1, hk1⟩⟩ := hrel
    · have c0 := hr0.c0
      have c2 := hr0.c2
      have c3 := hr0.c3
      have c4 := hr0.c4
      obtain ⟨oX, cX, hsl⟩ := cut_void bb q 4096 hq
      have hix : ∀ n, Calls Tryd.prog 37 #[.slice (some ⟨bb, oX, none⟩) 0 cX, .int .u8 10] (wr.drewN n) fun e w' => e = .returned (.int .i64 (-1)) ∧ w' = wr.drewN n := fun n => index_any bb oX 0 cX [] (wr.drewN n) rfl (fun i h => absurd h (by simp))
      have HX := hid hix
      clear hix
      go_wp2
      go_quiet ((go_at_call 37; exact Calls.quiet_of_same (HX.out _)))
      go_wp2
      have hr2 : RB (wr.drewN nq) rb bb sb q q .nilIface lb lr := hr0
      have hk2' : Kept [] w (wr.drewN nq) := hk0.drewN _
      generalize wr.drewN nq = W at hr2 hk2' ⊢
      clear c0 c2 c3 c4 hr0 hk0 HX hsl
      have c0 := hr2.c0
      have c2 := hr2.c2
      have c3 := hr2.c3
      go_quiet ((go_at_call 39; exact Calls.quiet_of (buffered_any rb bb sb q q .nilIface lb lr _ (by exact hr2) (Nat.le_refl _) hq)))
      go_wp2
      go_quiet (fail)
      go_wp2_with fail
      have hsW : SR W sb T p prev := by unfold SR; rw [hk2'.block _ (by simp)]; exact hs
      have hbW : W.heap[bb]? = some (.cells row 5 (0, 0)) := by rw [hk2'.block _ (by simp)]; exact hb
      have hE : W.cell? ⟨2, 0, none⟩ = some (.iface te pe) := by rw [World.cell?_of_block (w := w) (a := ⟨2, 0, none⟩) (hk2'.block 2 (by simp))]; exact HE.out
      refine (HF.out _ (by exact hsW) (by exact hbW) (by exact hr2) hn2 hn3 (by exact hE) hg).mono ?_
      rintro e w1 ⟨rfl, r1, k1⟩
      go_wp2
      go_roundg 0
      case measure => omega
      case rel => exact ⟨rfl, rfl, Or.inr ⟨rfl, r1, (((hk2'.mono (by simp)).drewN _).trans k1)⟩⟩
    · have c0 := hr1.c0
      have c2 := hr1.c2
      have c3 := hr1.c3
      have c4 := hr1.c4
      have hix : ∀ n, Calls Tryd.prog 37 #[.slice (some ⟨bb, 0, none⟩) 0 4096, .int .u8 10] (wr.drewN n) fun e w' => e = .returned (.int .i64 (-1)) ∧ w' = wr.drewN n := fun n => index_any bb 0 0 4096 [] (wr.drewN n) rfl (fun i h => absurd h (by simp))
      have HX := hid hix
      clear hix
      go_wp2
      go_quiet ((go_at_call 37; exact Calls.quiet_of_same (HX.out _)))
      go_wp2
      have f2 := hr1.f 2
      go_quiet (fail)
      go_wp2_with fail
      refine (readErr_any rb bb sb 0 0 te pe lb lr _ (RB.s2 (w := wr.drewN _) hr1 0)).mono ?_
      rintro e w1 ⟨rfl, rfl⟩
      go_wp2
      go_ret2
      exact ⟨0, 4096, rfl, ⟨lb, lr, (RB.s2 (w := wr.drewN _) hr1 0).s4 _⟩, (((hk1.drewN _).setCell _ (by simp) _).setCell _ (by simp) _)⟩

end Go.Proofs.Qxb6612416aDoor.line
