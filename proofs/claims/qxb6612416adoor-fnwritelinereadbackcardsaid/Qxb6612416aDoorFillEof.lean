import Derived.Test.Qxb6612416aDoorFill
namespace Go.Proofs.Qxb6612416aDoor.line
open Go.RowKit

set_option maxHeartbeats 2000000 in
set_option maxRecDepth 20000 in
theorem fill_eof (rb bb sb : Nat) (T : ByteArray) (p q : Nat) (hq : q ≤ 4096) (prev lb lr : Int) (row : Array Value) (hp : T.size ≤ p) (te : TypeId) (pe : Value) (w : World) (hs : SR w sb T p prev) (hb : w.heap[bb]? = some (.cells row 5 (0, 0)))
    (hr : RB w rb bb sb q q .nilIface lb lr) (hn2 : rb ≠ sb) (hn3 : rb ≠ bb) (he : w.cell? ⟨2, 0, none⟩ = some (.iface te pe)) (hg : rb ≠ 2) :
    Calls Tryd.prog 40 #[.pointer (some ⟨rb, 0, none⟩)] w fun e w' => e = .returned (.tuple #[]) ∧ RB w' rb bb sb 0 0 (.iface te pe) lb lr ∧ Kept [rb] w w' := by
  have c0 := hr.c0
  have c2 := hr.c2
  have c3 := hr.c3
  have f2 := hr.f 2
  have f3 := hr.f 3
  have HE := hid he
  clear he
  go_enter Tryd.func40, Tryd.ntmps40
  go_upto_if 9 with fail
  go_cut [] (fun wc => RB wc rb bb sb 0 0 .nilIface lb lr ∧ Kept [rb] w wc)
  case first =>
    by_cases h0 : q = 0
    · subst h0
      go_wp2
      go_meet
      case rel => exact ⟨hr, Kept.refl _ _⟩
    · have hq1 : (0 : Int) < (q : Int) := by omega
      have hcn := fun n => copy_none (w.drewN n) (some ⟨bb, 0, none⟩) 4096 4096
      obtain ⟨X, cX, hsl⟩ := cut_empty bb q 4096 hq
      go_wp2
      go_quiet (fail)
      clear hcn hsl
      go_wp2
      go_region
      go_wp2
      go_meet
      case rel => exact ⟨(RB.s3 (w := w.drewN _) hr 0).s2 0, ((((Kept.refl _ w).drewN _).setCell _ (by simp) _).setCell _ (by simp) _)⟩
  case rest =>
    obtain ⟨hr0, hk0⟩ := hcut
    have hs0 : SR wc sb T p prev := by unfold SR; rw [hk0.block _ (by simp; omega)]; exact hs
    have he0 : wc.cell? ⟨2, 0, none⟩ = some (.iface te pe) := by rw [World.cell?_of_block (w := w) (a := ⟨2, 0, none⟩) (hk0.block 2 (by simp; omega))]; exact HE.out
    have hb0 : wc.heap[bb]? = some (.cells row 5 (0, 0)) := by rw [hk0.block _ (by simp; omega)]; exact hb
    clear c0 c2 c3 f2 f3 hr hs hb
    have c0 := hr0.c0
    have c1 := hr0.c1
    have c2 := hr0.c2
    have c3 := hr0.c3
    go_wp2
    go_quiet (fail)
    go_wp2
    go_loopw [2] (fun i wr => i = .int .i64 100 ∧ wr = wc.drewN nq) (fun _ _ => 0)
    case atStart => exact ⟨rfl, rfl⟩
    case round =>
      obtain ⟨rfl, rfl⟩ := hrel
      go_wp2
      have hm := meth_read ⟨sb, 0, none⟩
      have HE0 := hid he0
      clear he0
      go_region_with (go_at_call 75; refine (read_eof sb T p prev hp _ te pe (wc.drewN (nq + 1)) hs0 HE0.out).mono ?_; rintro e w1 ⟨rfl, qq, rfl⟩)
      all_goals
        have d4 := hr0.c4
        have e3 := hr0.f 3
        have e4 := hr0.f 4
        go_wp2
        exact bodyPost_ret (v := .tuple #[]) (by simp [results, Tryd.results40, go_sem]) rfl ⟨rfl, (RB.s3 (w := wc.drewN _) hr0 0).s4 _, (((hk0.drewN _).setCell _ (by simp) _).setCell _ (by simp) _)⟩

end Go.Proofs.Qxb6612416aDoor.line
