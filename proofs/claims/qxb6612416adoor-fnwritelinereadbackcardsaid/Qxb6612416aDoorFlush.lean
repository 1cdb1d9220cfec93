import Derived.Test.Qxb6612416aDoorWriteBuf
import Derived.Test.Qxb6612416aDoorTwice
namespace Go.Proofs.Qxb6612416aDoor.line
open Go.RowKit

/-- the cells of a bufio.Writer over the bytes.Buffer at b, its row at rw, n bytes waiting -/
def wrCells (rw b n : Nat) : Array Value := #[.nilIface, .slice (some ⟨rw, 0, none⟩) 4096 4096, .int .i64 n, .iface 47 (.pointer (some ⟨b, 0, none⟩))]
def WR (w : World) (wb rw b n : Nat) : Prop := w.heap[wb]? = some (.cells (wrCells rw b n) 85 (0, 0))
section
variable {w : World} {wb rw b n : Nat}
theorem WR.c0 (h : WR w wb rw b n) : w.cell? ⟨wb, 0, none⟩ = some .nilIface := by rw [cell_of_row _ _ _ _ _ _ h]; rfl
theorem WR.c1 (h : WR w wb rw b n) : w.cell? ⟨wb, 1, none⟩ = some (.slice (some ⟨rw, 0, none⟩) 4096 4096) := by rw [cell_of_row _ _ _ _ _ _ h]; rfl
theorem WR.c2 (h : WR w wb rw b n) : w.cell? ⟨wb, 2, none⟩ = some (.int .i64 n) := by rw [cell_of_row _ _ _ _ _ _ h]; rfl
theorem WR.c3 (h : WR w wb rw b n) : w.cell? ⟨wb, 3, none⟩ = some (.iface 47 (.pointer (some ⟨b, 0, none⟩))) := by rw [cell_of_row _ _ _ _ _ _ h]; rfl
theorem WR.f (h : WR w wb rw b n) (j : Nat) : w.frozen? ⟨wb, j, none⟩ = false := frozen_of_row _ _ _ _ _ h
theorem WR.s2 (h : WR w wb rw b n) (v : Nat) : WR (w.setCell ⟨wb, 2, none⟩ (.int .i64 v)) wb rw b v := by unfold WR; rw [heap_setCell_same _ _ _ _ _ _ h]; rfl
theorem WR.s0 (h : WR w wb rw b n) : WR (w.setCell ⟨wb, 0, none⟩ .nilIface) wb rw b n := by unfold WR; rw [heap_setCell_same _ _ _ _ _ _ h]; rfl
theorem WR.keptg (h : WR w wb rw b n) {B : List Nat} {w' : World} (k : KeptG B w w') (hb : wb ∉ B) : WR w' wb rw b n := by
  unfold WR; rw [k.block _ ((Array.getElem?_eq_some_iff.1 h).1) hb]; exact h
theorem WR.others (h : WR w wb rw b n) {w' : World} (k : Lib.OthersKept 5 (some b) w w') (hb : wb ≠ b) : WR w' wb rw b n :=
  k wb _ h (fun e => hb (Option.some.inj e)) (fun c fz e => by cases e)
end

set_option maxHeartbeats 1000000 in
theorem available_any (wb rw b n : Nat) (w : World) (h : WR w wb rw b n) (hn : n ≤ 4096) :
    Calls Tryd.prog 34 #[.pointer (some ⟨wb, 0, none⟩)] w fun e w' => e = .returned (.int .i64 (4096 - (n : Int))) ∧ ∃ q, w' = w.drewN q := by
  have c1 := h.c1
  have c2 := h.c2
  go_enter Tryd.func34, Tryd.ntmps34
  go_wp2
  go_quiet (fail)
  go_wp2
  go_ret
  exact ⟨rfl, _, rfl⟩

set_option maxHeartbeats 1000000 in
theorem wbuffered_any (wb rw b n : Nat) (w : World) (h : WR w wb rw b n) :
    Calls Tryd.prog 35 #[.pointer (some ⟨wb, 0, none⟩)] w fun e w' => e = .returned (.int .i64 n) ∧ w' = w := by
  have c2 := h.c2
  go_enter Tryd.func35, Tryd.ntmps35
  go_wp2
  go_ret
  exact ⟨rfl, rfl⟩

theorem meth_write (a : Addr) (w : World) : (method 316 47 (.pointer (some a)) "Write").run Tryd.prog w = .ok (65, .pointer (some a)) w := by kernel_rfl
theorem meth_writeString (a : Addr) (w : World) : (method 316 47 (.pointer (some a)) "WriteString").run Tryd.prog w = .ok (66, .pointer (some a)) w := by kernel_rfl
theorem assert47 (a : Addr) (W : World) : (Instr.typeAssert (.iface 47 (.pointer (some a))) 69 45 true).run Tryd.prog W = .ok (.tuple #[.pointer none, .bool false]) W := by kernel_rfl
theorem assert82 (a : Addr) (W : World) : (Instr.typeAssert (.iface 47 (.pointer (some a))) 69 82 true).run Tryd.prog W = .ok (.tuple #[.iface 47 (.pointer (some a)), .bool true]) W := by kernel_rfl

set_option maxHeartbeats 1000000 in
set_option maxRecDepth 20000 in
theorem newWriterSize_any (b : Nat) (w : World) :
    Calls Tryd.prog 28 #[.iface 47 (.pointer (some ⟨b, 0, none⟩)), .int .i64 4096] w fun e w' => e = .returned (.pointer (some ⟨w.heap.size + 1, 0, none⟩)) ∧
      WR w' (w.heap.size + 1) w.heap.size b 0 ∧ w'.heap[w.heap.size]? = some (.cells zeros 5 (0, 0)) ∧ Below w.heap.size w w' := by
  have hmk := make4096
  have has := assert47 ⟨b, 0, none⟩
  go_enter Tryd.func28, Tryd.ntmps28
  go_wp2
  go_ret
  exact ⟨rfl, heap_alloc2_new w _ _, heap_alloc2_old w _ _, ((Below.refl _ _).alloc (Nat.le_refl _) _).alloc (by simp) _⟩

set_option maxHeartbeats 1000000 in
theorem newWriter_any (b : Nat) (w : World) :
    Calls Tryd.prog 18 #[.iface 47 (.pointer (some ⟨b, 0, none⟩))] w fun e w' => e = .returned (.pointer (some ⟨w.heap.size + 1, 0, none⟩)) ∧
      WR w' (w.heap.size + 1) w.heap.size b 0 ∧ w'.heap[w.heap.size]? = some (.cells zeros 5 (0, 0)) ∧ Below w.heap.size w w' := by
  go_enter Tryd.func18, Tryd.ntmps18
  go_wp2_with (go_at_call 28; refine (newWriterSize_any _ _).mono ?_; rintro e w1 ⟨rfl, h1, h2, h3⟩)
  go_ret
  exact ⟨rfl, h1, h2, h3⟩

set_option maxHeartbeats 3000000 in
set_option maxRecDepth 20000 in
/-- Flush, n bytes waiting: by what Write does -/
theorem flush_core (wb rw b n : Nat) (Post : World → Prop) (w : World) (h : WR w wb rw b n) (hn : 0 < n) (hn2 : n ≤ 4096)
    (HW : Hid (∀ q, Calls Tryd.prog 65 #[.pointer (some ⟨b, 0, none⟩), .slice (some ⟨rw, 0, none⟩) n 4096] (w.drewN q) fun e w' => e = .returned (.tuple #[.int .i64 n, .nilIface]) ∧ WR w' wb rw b n ∧ Post w')) :
    Calls Tryd.prog 27 #[.pointer (some ⟨wb, 0, none⟩)] w fun e w' => e = .returned .nilIface ∧ ∃ w1, WR w1 wb rw b n ∧ Post w1 ∧ w' = w1.setCell ⟨wb, 2, none⟩ (.int .i64 0) := by
  have c0 := h.c0
  have c1 := h.c1
  have c2 := h.c2
  have c3 := h.c3
  have hn1 : (0 : Int) < (n : Int) := by omega
  have hn0 : ((n : Int) == 0) = false := by simp; omega
  have hm := meth_write ⟨b, 0, none⟩
  go_enter Tryd.func27, Tryd.ntmps27
  go_wp2
  go_region_with (go_at_call 65; refine (HW.out 1).mono ?_; rintro e w1 ⟨rfl, r1, p1⟩; have d2 := r1.c2; have e2 := r1.f 2)
  all_goals
    clear c0 c1 c2 c3 hm
    go_wp2
    go_ret
    exact ⟨rfl, w1, r1, p1, rfl⟩

end Go.Proofs.Qxb6612416aDoor.line
