import Derived.Test.Qxb6612416aDoorRead
import Derived.Deep.DeepCutAuto
namespace Go.Proofs.Qxb6612416aDoor.line
open Go.RowKit

/-- the cells of a bufio.Reader -/
def rdCells (bb sb r wd : Nat) (err : Value) (lb lr : Int) : Array Value :=
  #[.slice (some ⟨bb, 0, none⟩) 4096 4096, .iface 51 (.pointer (some ⟨sb, 0, none⟩)), .int .i64 r, .int .i64 wd, err, .int .i64 lb, .int .i64 lr]
def RB (w : World) (rb bb sb r wd : Nat) (err : Value) (lb lr : Int) : Prop := w.heap[rb]? = some (.cells (rdCells bb sb r wd err lb lr) 91 (0, 0))

section
variable {w : World} {rb bb sb r wd : Nat} {err : Value} {lb lr : Int}
theorem RB.c0 (h : RB w rb bb sb r wd err lb lr) : w.cell? ⟨rb, 0, none⟩ = some (.slice (some ⟨bb, 0, none⟩) 4096 4096) := by rw [cell_of_row _ _ _ _ _ _ h]; rfl
theorem RB.c1 (h : RB w rb bb sb r wd err lb lr) : w.cell? ⟨rb, 1, none⟩ = some (.iface 51 (.pointer (some ⟨sb, 0, none⟩))) := by rw [cell_of_row _ _ _ _ _ _ h]; rfl
theorem RB.c2 (h : RB w rb bb sb r wd err lb lr) : w.cell? ⟨rb, 2, none⟩ = some (.int .i64 r) := by rw [cell_of_row _ _ _ _ _ _ h]; rfl
theorem RB.c3 (h : RB w rb bb sb r wd err lb lr) : w.cell? ⟨rb, 3, none⟩ = some (.int .i64 wd) := by rw [cell_of_row _ _ _ _ _ _ h]; rfl
theorem RB.c4 (h : RB w rb bb sb r wd err lb lr) : w.cell? ⟨rb, 4, none⟩ = some err := by rw [cell_of_row _ _ _ _ _ _ h]; rfl
theorem RB.c5 (h : RB w rb bb sb r wd err lb lr) : w.cell? ⟨rb, 5, none⟩ = some (.int .i64 lb) := by rw [cell_of_row _ _ _ _ _ _ h]; rfl
theorem RB.c6 (h : RB w rb bb sb r wd err lb lr) : w.cell? ⟨rb, 6, none⟩ = some (.int .i64 lr) := by rw [cell_of_row _ _ _ _ _ _ h]; rfl
theorem RB.f (h : RB w rb bb sb r wd err lb lr) (j : Nat) : w.frozen? ⟨rb, j, none⟩ = false := frozen_of_row _ _ _ _ _ h
theorem RB.s2 (h : RB w rb bb sb r wd err lb lr) (v : Nat) : RB (w.setCell ⟨rb, 2, none⟩ (.int .i64 v)) rb bb sb v wd err lb lr := by unfold RB; rw [heap_setCell_same _ _ _ _ _ _ h]; rfl
theorem RB.s3 (h : RB w rb bb sb r wd err lb lr) (v : Nat) : RB (w.setCell ⟨rb, 3, none⟩ (.int .i64 v)) rb bb sb r v err lb lr := by unfold RB; rw [heap_setCell_same _ _ _ _ _ _ h]; rfl
theorem RB.s4 (h : RB w rb bb sb r wd err lb lr) (v : Value) : RB (w.setCell ⟨rb, 4, none⟩ v) rb bb sb r wd v lb lr := by unfold RB; rw [heap_setCell_same _ _ _ _ _ _ h]; rfl
theorem RB.s5 (h : RB w rb bb sb r wd err lb lr) (v : Int) : RB (w.setCell ⟨rb, 5, none⟩ (.int .i64 v)) rb bb sb r wd err v lr := by unfold RB; rw [heap_setCell_same _ _ _ _ _ _ h]; rfl
theorem RB.s6 (h : RB w rb bb sb r wd err lb lr) (v : Int) : RB (w.setCell ⟨rb, 6, none⟩ (.int .i64 v)) rb bb sb r wd err lb v := by unfold RB; rw [heap_setCell_same _ _ _ _ _ _ h]; rfl
theorem RB.kept (h : RB w rb bb sb r wd err lb lr) {B : List Nat} {w' : World} (k : Kept B w w') (hb : rb ∉ B) : RB w' rb bb sb r wd err lb lr := by unfold RB; rw [k.block _ hb]; exact h
end

theorem SR.other {w : World} {b : Nat} {T : ByteArray} {p : Nat} {v : Int} (h : SR w b T p v) {a : Addr} (ha : b ≠ a.block) (u : Value) : SR (w.setCell a u) b T p v := by
  unfold SR; rw [heap_setCell_other _ _ _ _ ha]; exact h
theorem row_other {w : World} {b : Nat} {o : Obj} (h : w.heap[b]? = some o) {a : Addr} (ha : b ≠ a.block) (u : Value) : (w.setCell a u).heap[b]? = some o := by
  rw [heap_setCell_other _ _ _ _ ha]; exact h
theorem meth_read (a : Addr) (w : World) : (method 316 51 (.pointer (some a)) "Read").run Tryd.prog w = .ok (75, .pointer (some a)) w := by kernel_rfl

theorem copy_none (W : World) (d : Option Addr) (dl dc c : Nat) (X : Option Addr) : (Builtin.copy_ #[37, 37] 3 #[.slice d dl dc, .slice X 0 c]).run Tryd.prog W = .ok (goInt 0) W :=
  run_copy_none W 37 37 3 5 d X dl dc 0 c Tryd.underlying37 size5 (Nat.zero_min _)

theorem size1 : ∀ w, (Go.sizeOf 5).run Tryd.prog w = .ok 1 w := fun _ => by kernel_rfl
theorem elem37 : Tryd.prog.elem 37 = 5 := by kernel_rfl
theorem under37 : Tryd.prog.underlying 37 = some (.slice (Tryd.prog.elem 37)) := by kernel_rfl
/-- 'buf[q:q]' -/
theorem cut_empty (b q N : Nat) (hq : q ≤ N) : ∃ X c, ∀ W, (Instr.slice 37 (.slice (some ⟨b, 0, none⟩) N N) (some (.int .i64 (q : Int))) (some (.int .i64 (q : Int))) none).run Tryd.prog W = .ok (.slice X 0 c) W := by
  refine ⟨if N = q then some ⟨b, 0, none⟩ else (some (⟨b, 0, none⟩ : Addr)).map (·.add (q * 1)), N - q, fun W => ?_⟩
  rw [run_slice_lh W 37 (some ⟨b, 0, none⟩) N N under37 .i64 .i64 (q : Int) (q : Int) (by omega) (by omega) (by omega), elem37, size1]
  simp [Result.andThen, sliced]

set_option maxHeartbeats 2000000 in
set_option maxRecDepth 20000 in
theorem fill_data (rb bb sb : Nat) (T : ByteArray) (p q : Nat) (hq : q ≤ 4096) (prev lb lr : Int) (row : Array Value) (hT : T.size ≤ 1048577) (hp : p < T.size) (w : World) (hs : SR w sb T p prev) (hb : w.heap[bb]? = some (.cells row 5 (0, 0)))
    (hr : RB w rb bb sb q q .nilIface lb lr) (hn1 : bb ≠ sb) (hn2 : rb ≠ sb) (hn3 : rb ≠ bb) (hrow : row.size = 4096) (k : Nat) (hk : k = min (T.size - p) 4096) :
    Calls Tryd.prog 40 #[.pointer (some ⟨rb, 0, none⟩)] w fun e w' => e = .returned (.tuple #[]) ∧ SR w' sb T (p + k) (-1) ∧ w'.heap[bb]? = some (.cells (put row 0 ((T.data.toList.drop p).take k)) 5 (0, 0)) ∧
      RB w' rb bb sb 0 k .nilIface lb lr ∧ Kept [rb, bb, sb] w w' := by
  have c0 := hr.c0
  have c2 := hr.c2
  have c3 := hr.c3
  have f2 := hr.f 2
  have f3 := hr.f 3
  have hk1 : 0 < k := by omega
  have hk2 : k ≤ 4096 := by omega
  have hk3 : (0 : Int) < (k : Int) := by omega
  have HK := hid hk
  have HR := hid hrow
  clear hk hrow
  go_enter Tryd.func40, Tryd.ntmps40
  go_upto_if 9 with fail
  go_cut [] (fun wc => RB wc rb bb sb 0 0 .nilIface lb lr ∧ Kept [rb] w wc)
  case first =>
    by_cases h0 : q = 0
    · subst h0
      go_wp2
      go_meet
      case rel => exact ⟨hr, Kept.refl _ _⟩
    · have hq1 : (0 : Int) < (q : Int) := by omega
      have hcn := fun n => copy_none (w.drewN n) (some ⟨bb, 0, none⟩) 4096 4096
      obtain ⟨X, cX, hsl⟩ := cut_empty bb q 4096 hq
      go_wp2
      go_quiet (fail)
      clear hcn hsl
      go_wp2
      go_region
      go_wp2
      go_meet
      case rel => exact ⟨(RB.s3 (w := w.drewN _) hr 0).s2 0, ((((Kept.refl _ w).drewN _).setCell _ (by simp) _).setCell _ (by simp) _)⟩
  case rest =>
    obtain ⟨hr0, hk0⟩ := hcut
    have hs0 : SR wc sb T p prev := by unfold SR; rw [hk0.block _ (by simp; omega)]; exact hs
    have hb0 : wc.heap[bb]? = some (.cells row 5 (0, 0)) := by rw [hk0.block _ (by simp; omega)]; exact hb
    clear c0 c2 c3 f2 f3 hr hs hb
    have c0 := hr0.c0
    have c1 := hr0.c1
    have c2 := hr0.c2
    have c3 := hr0.c3
    go_wp2
    go_quiet (fail)
    go_wp2
    go_loopw [2] (fun i wr => i = .int .i64 100 ∧ wr = wc.drewN nq) (fun _ _ => 0)
    case atStart => exact ⟨rfl, rfl⟩
    case round =>
      obtain ⟨rfl, rfl⟩ := hrel
      go_wp2
      have hm := meth_read ⟨sb, 0, none⟩
      go_region_with (go_at_call 75; refine (read_data sb bb 0 4096 4096 T p prev row hT hp (wc.drewN (nq + 1)) hs0 hb0 hn1 (by have := HR.out; omega) k HK.out).mono ?_; rintro e w1 ⟨rfl, hs1, hb1, hkp⟩; have hr1 := RB.kept (w := wc.drewN (nq + 1)) hr0 hkp (by simp; omega); have d3 := hr1.c3; have d4 := hr1.c4; have e3 := hr1.f 3)
      all_goals
        clear c0 c1 c2 c3 hm
        go_wp2
        exact bodyPost_ret (v := .tuple #[]) (by simp [results, Tryd.results40, go_sem]) rfl ⟨rfl, hs1.other (by exact fun e => hn2 e.symm) _, row_other hb1 (by exact fun e => hn3 e.symm) _, hr1.s3 k, ((((hk0.mono (by simp)).drewN _).trans (hkp.mono (by simp))).setCell _ (by simp) _)⟩

end Go.Proofs.Qxb6612416aDoor.line
