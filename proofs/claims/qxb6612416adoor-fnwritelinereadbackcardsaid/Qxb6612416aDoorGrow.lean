import Derived.Test.Qxb6612416aDoorLine
import Derived.Test.Qxb6612416aDoorBuf
namespace Go.Proofs.Qxb6612416aDoor.line
open Go.RowKit

/-- block b is a bytes.Buffer: buf is v, off 0 -/
def BU (w : World) (b : Nat) (v : Value) (lr : Int) : Prop := w.heap[b]? = some (.cells #[v, .int .i64 0, .int .i8 lr] 41 (0, 0))
section
variable {w : World} {b : Nat} {v : Value} {lr : Int}
theorem BU.c0 (h : BU w b v lr) : w.cell? ⟨b, 0, none⟩ = some v := by rw [cell_of_row _ _ _ _ _ _ h]; rfl
theorem BU.c1 (h : BU w b v lr) : w.cell? ⟨b, 1, none⟩ = some (.int .i64 0) := by rw [cell_of_row _ _ _ _ _ _ h]; rfl
theorem BU.c2 (h : BU w b v lr) : w.cell? ⟨b, 2, none⟩ = some (.int .i8 lr) := by rw [cell_of_row _ _ _ _ _ _ h]; rfl
theorem BU.f (h : BU w b v lr) (j : Nat) : w.frozen? ⟨b, j, none⟩ = false := frozen_of_row _ _ _ _ _ h
theorem BU.s0 (h : BU w b v lr) (u : Value) : BU (w.setCell ⟨b, 0, none⟩ u) b u lr := by unfold BU; rw [heap_setCell_same _ _ _ _ _ _ h]; rfl
theorem BU.s1 (h : BU w b v lr) : BU (w.setCell ⟨b, 1, none⟩ (.int .i64 0)) b v lr := by unfold BU; rw [heap_setCell_same _ _ _ _ _ _ h]; rfl
theorem BU.s2 (h : BU w b v lr) (x : Int) : BU (w.setCell ⟨b, 2, none⟩ (.int .i8 x)) b v x := by unfold BU; rw [heap_setCell_same _ _ _ _ _ _ h]; rfl
theorem BU.lt (h : BU w b v lr) : b < w.heap.size := (Array.getElem?_eq_some_iff.1 h).1
end
theorem KeptG.setCell {B : List Nat} {w w1 : World} (h : KeptG B w w1) (p : Addr) (hp : p.block ∈ B) (u : Value) : KeptG B w (w1.setCell p u) :=
  h.trans ⟨rfl, rfl, rfl, by simp [World.setCell], fun k _ hk => heap_setCell_other _ _ _ _ (fun e => hk (e ▸ hp))⟩
theorem Below.g {w w' : World} (h : Below w.heap.size w w') (B : List Nat) : KeptG B w w' := ⟨h.os, h.tape, h.output, h.size, fun k hk _ => h.block k hk⟩

set_option maxHeartbeats 2000000 in
set_option maxRecDepth 20000 in
theorem grow_fresh (b n : Nat) (lr : Int) (w : World) (h : BU w b (.slice none 0 0) lr) (h64 : 64 < n) (hlim : n ≤ 1048576) :
    Calls Tryd.prog 69 #[.pointer (some ⟨b, 0, none⟩), .int .i64 n] w fun e w' => e = .returned (.int .i64 0) ∧ ∃ cap cells, BU w' b (.slice (some ⟨w.heap.size, 0, none⟩) n cap) lr ∧
      w'.heap[w.heap.size]? = some (.cells cells 5 (0, 0)) ∧ cells.size = cap ∧ n ≤ cap ∧ cap ≤ maxLen ∧ KeptG [b] w w' := by
  have hIs : Lib.IsBuffer 41 5 0 b [] w := ⟨Nat.zero_le _, _, _, h, World.ownsRow_nil _ _ _ _, by simp [Value.ownBlock]⟩
  have hnil : ∀ W, (binOp .eql 37 (.slice none 0 0) (.slice none 0 0)).run Tryd.prog W = .ok (.bool true) W := fun W => Lib.run_eql_slice_nil_nil W _ _ Tryd.underlying37
  have HL := hid (bLen 0 b [] w hIs)
  clear hIs
  have c0 := h.c0
  have c1 := h.c1
  have f0 := h.f 0
  have f1 := h.f 1
  have HT := hid (fun q => bTry b none 0 0 n (w.drewN q) h.c0 (Nat.le_refl _) (Nat.zero_le _) (by omega))
  have hwn : IntKind.i64.wrap (n : Int) = n := by rw [IntKind.wrap_i64]; omega
  go_enter Tryd.func69, Tryd.ntmps69
  go_wp2_with (first
    | (go_at_call 70; refine HL.out.mono ?_; rintro e w1 ⟨rfl, q, rfl⟩)
    | (go_at_call 68; refine (HT.out _).mono ?_; rintro e w1 ⟨rfl, hw⟩; have hw2 := hw.symm; subst hw2))
  have hb := h.lt
  go_region_with (go_at_call 71; refine (bGrowSlice n _ (by omega) (by omega)).mono ?_; rintro e w2 ⟨cap2, cells, rfl, hN, hcsz, hcap2, hcm2, hbel⟩; have h2 : BU w2 b (.slice none 0 0) lr := (hbel.block b hb).trans h; have d0 := h2.c0; have d1 := h2.c1; have e0 := h2.f 0; have e1 := h2.f 1)
  all_goals
    clear c0 c1 f0 f1
    unfold maxLen at hcm2
    go_wp2
    go_ret
    have hkg : KeptG [b] w w2 := (((KeptG.refl _ w).drewN _).trans (Below.g hbel [b]))
    refine ⟨rfl, cap2, cells, ((h2.s0 _).s1).s0 _, ?_, hcsz, hcap2, by unfold maxLen; exact hcm2, ((hkg.setCell _ (by simp) _).setCell _ (by simp) _).setCell _ (by simp) _⟩
    exact row_other (row_other (row_other hN (by exact Nat.ne_of_gt hb) _) (by exact Nat.ne_of_gt hb) _) (by exact Nat.ne_of_gt hb) _

end Go.Proofs.Qxb6612416aDoor.line
