import Derived.Test.Qxb6612416aDoorGrow
namespace Go.Proofs.Qxb6612416aDoor.line
open Go.RowKit

/-- the row of the buffer at b is not block r -/
def OffRow (w : World) (r b : Nat) : Prop := ∀ v lr, w.heap[b]? = some (.cells #[v, .int .i64 0, .int .i8 lr] 41 (0, 0)) → v.ownBlock ≠ some r
theorem OffRow.of {w : World} {r b g n cap : Nat} {lr : Int} (h : BU w b (.slice (some ⟨g, 0, none⟩) n cap) lr) (hg : g ≠ r) : OffRow w r b := by
  intro v lr2 h2
  unfold BU at h
  rw [h] at h2
  cases h2
  show some g ≠ some r
  exact fun e => hg (Option.some.inj e)
theorem OffRow.setCell {w : World} {r b : Nat} (h : OffRow w r b) (p : Addr) (hp : p.block ≠ b) (u : Value) : OffRow (w.setCell p u) r b := by
  intro v lr h2
  rw [heap_setCell_other _ _ _ _ (fun e => hp e.symm)] at h2
  exact h v lr h2

theorem isBuffer_put {w : World} {B b g cap : Nat} {lr : Int} {cells : Array Value} {l : List UInt8} (hB : B ≤ b) (hBg : B ≤ g) (h : BU w b (.slice (some ⟨g, 0, none⟩) l.length cap) lr) (hg : w.heap[g]? = some (.cells (put cells 0 l) 5 (0, 0)))
    (hs : cells.size = cap) (hc : l.length ≤ cap) (hm : cap ≤ maxLen) (hne : g ≠ b) : Lib.IsBuffer 41 5 B b (Lib.byteCells l) w := by
  refine ⟨hB, .slice (some ⟨g, 0, none⟩) l.length cap, lr, h, ?_, ?_⟩
  · rw [Lib.byteCells_length]
    refine ⟨by rw [Lib.byteCells_length]; omega, Or.inr ⟨g, cap, _, rfl, hBg, hg, hc, hm, ?_, ?_⟩⟩
    · rw [put_size _ _ _ (by omega)]; omega
    · simp [put, Lib.byteCells]
  · show some g ≠ some b
    exact fun e => hne (Option.some.inj e)

set_option maxHeartbeats 2000000 in
set_option maxRecDepth 20000 in
theorem writeString_fresh (B b : Nat) (lr : Int) (s : ByteArray) (w : World) (hB : B ≤ b) (h : BU w b (.slice none 0 0) lr) (h64 : 64 < s.size) (hlim : s.size ≤ 1048576) :
    Calls Tryd.prog 66 #[.pointer (some ⟨b, 0, none⟩), .string s] w fun e w' => e = .returned (.tuple #[.int .i64 s.size, .nilIface]) ∧ Lib.IsBuffer 41 5 B b (Lib.byteCells s.data.toList) w' ∧ KeptG [b] w w' ∧ ∀ r, r < w.heap.size → OffRow w' r b := by
  have c2 := h.c2
  have f2 := h.f 2
  have h' := h.s2 0
  have hk' : KeptG [b] w (w.setCell ⟨b, 2, none⟩ (.int .i8 0)) := (KeptG.refl _ w).setCell _ (by simp) _
  have hsz : (w.setCell ⟨b, 2, none⟩ (.int .i8 0)).heap.size = w.heap.size := by simp [World.setCell]
  have HT := hid (bTry b none 0 0 s.size (w.setCell ⟨b, 2, none⟩ (.int .i8 0)) h'.c0 (Nat.le_refl _) (Nat.zero_le _) (by omega))
  have HG := hid (grow_fresh b s.size 0 (w.setCell ⟨b, 2, none⟩ (.int .i8 0)) h' h64 hlim)
  have hb := h.lt
  go_enter Tryd.func66, Tryd.ntmps66
  go_wp2_with (first
    | (go_at_call 68; refine HT.out.mono ?_; rintro e w1 ⟨rfl, hw⟩; have hw2 := hw.symm; subst hw2)
    | (go_at_call 69; refine HG.out.mono ?_; rintro e w1 ⟨rfl, cap, cells, q1, q2, q3, q4, q5, q6⟩; refine Hid.out ?_))
  refine hid ?_
  rw [hsz] at q1 q2
  obtain ⟨g, hg⟩ : ∃ g, w.heap.size = g := ⟨_, rfl⟩
  rw [hg] at q1 q2 hb
  have d0 := q1.c0
  have HGG := hid hg
  have hsl : s.data.toList.length = s.size := (Lib.size_eq s).symm
  have hcp := copy_trunc w1 g 0 s.size cap s cells 5 s.size (Nat.min_self _).symm q2 (by omega)
  rw [List.take_of_length_le (by rw [hsl]; exact Nat.le_refl _)] at hcp
  obtain ⟨W, hW⟩ : ∃ W, w1.setRow g (put cells 0 s.data.toList) = W := ⟨_, rfl⟩
  rw [hW] at hcp
  have hend : Lib.IsBuffer 41 5 B b (Lib.byteCells s.data.toList) W ∧ KeptG [b] w W ∧ ∀ r, r < g → OffRow W r b := by
    rw [← hW]
    have hgb : g ≠ b := by omega
    refine ⟨isBuffer_put (g := g) (cap := cap) (lr := 0) (cells := cells) hB (by omega) ?_ (setRow_heap w1 g cells _ 5 _ q2) q3 (by omega) q5 hgb, ?_, fun r hr => OffRow.of (g := g) (n := s.size) (cap := cap) (lr := 0) ?_ (by omega)⟩
    · unfold BU
      rw [setRow_other _ _ _ _ (fun e => hgb e.symm), hsl]
      exact q1
    · have hkk := hk'.trans q6
      exact ⟨hkk.os, hkk.tape, hkk.output, by rw [size_setRow]; exact hkk.size, fun k hk hb => (setRow_other _ _ _ _ (by omega)).trans (hkk.block k hk hb)⟩
    · unfold BU
      rw [setRow_other _ _ _ _ (fun e => hgb e.symm)]
      exact q1
  have HEnd := hid hend
  have hcap : cap ≤ 9223372036854775807 := by unfold maxLen at q5; omega
  clear hend hW hsz q1 q2 q5 q6 h' hk' HT HG hg c2 f2 h
  go_wp2
  go_ret2
  exact ⟨rfl, HEnd.out.1, HEnd.out.2.1, fun r hr => HEnd.out.2.2 r (HGG.out ▸ hr)⟩

set_option maxHeartbeats 2000000 in
set_option maxRecDepth 20000 in
theorem write_fresh (B b wb n c : Nat) (lr : Int) (l : List UInt8) (w : World) (hB : B ≤ b) (h : BU w b (.slice none 0 0) lr) (hl : l.length = n) (h64 : 64 < n) (hlim : n ≤ 1048576) (hsrc : Shows w wb 0 l) (hwb : wb ≠ b) (hwl : wb < w.heap.size) :
    Calls Tryd.prog 65 #[.pointer (some ⟨b, 0, none⟩), .slice (some ⟨wb, 0, none⟩) n c] w fun e w' => e = .returned (.tuple #[.int .i64 n, .nilIface]) ∧ Lib.IsBuffer 41 5 B b (Lib.byteCells l) w' ∧ KeptG [b] w w' ∧ ∀ r, r < w.heap.size → OffRow w' r b := by
  have c2 := h.c2
  have f2 := h.f 2
  have h' := h.s2 0
  have hk' : KeptG [b] w (w.setCell ⟨b, 2, none⟩ (.int .i8 0)) := (KeptG.refl _ w).setCell _ (by simp) _
  have hsz : (w.setCell ⟨b, 2, none⟩ (.int .i8 0)).heap.size = w.heap.size := by simp [World.setCell]
  have HT := hid (bTry b none 0 0 n (w.setCell ⟨b, 2, none⟩ (.int .i8 0)) h'.c0 (Nat.le_refl _) (Nat.zero_le _) (by omega))
  have HG := hid (grow_fresh b n 0 (w.setCell ⟨b, 2, none⟩ (.int .i8 0)) h' h64 hlim)
  have hb := h.lt
  have HL := hid hl
  clear hl
  go_enter Tryd.func65, Tryd.ntmps65
  go_wp2_with (first
    | (go_at_call 68; refine HT.out.mono ?_; rintro e w1 ⟨rfl, hw⟩; have hw2 := hw.symm; subst hw2)
    | (go_at_call 69; refine HG.out.mono ?_; rintro e w1 ⟨rfl, cap, cells, q1, q2, q3, q4, q5, q6⟩; refine Hid.out ?_))
  refine hid ?_
  rw [hsz] at q1 q2
  obtain ⟨g, hg⟩ : ∃ g, w.heap.size = g := ⟨_, rfl⟩
  rw [hg] at q1 q2 hb hwl
  have d0 := q1.c0
  have HGG := hid hg
  have hsl := HL.out
  have hkk := hk'.trans q6
  have hsrc1 : Shows w1 wb 0 l := by
    intro i hi
    rw [World.cell?_of_block (w := w) (hkk.block wb (by omega) (by simpa using hwb))]
    exact hsrc i hi
  have hcp := run_copy_row (P := Tryd.prog) w1 37 37 3 5 g 0 n cap ⟨wb, 0, none⟩ n c cells 5 (Lib.byteCells l) Tryd.underlying37 size5 q2 (by rw [Lib.byteCells_length, hsl]; exact (Nat.min_self n).symm) (news_cells hsrc1) (by rw [Lib.byteCells_length]; omega) (Lib.byteCells_one _)
  rw [Lib.byteCells_length, hsl] at hcp
  have hput : (cells.toList.take 0 ++ Lib.byteCells l ++ cells.toList.drop (0 + n)).toArray = put cells 0 l := by unfold put; rw [hsl]
  rw [hput] at hcp
  obtain ⟨W, hW⟩ : ∃ W, w1.setRow g (put cells 0 l) = W := ⟨_, rfl⟩
  rw [hW] at hcp
  have hend : Lib.IsBuffer 41 5 B b (Lib.byteCells l) W ∧ KeptG [b] w W ∧ ∀ r, r < g → OffRow W r b := by
    rw [← hW]
    have hgb : g ≠ b := by omega
    refine ⟨isBuffer_put (g := g) (cap := cap) (lr := 0) (cells := cells) hB (by omega) ?_ (setRow_heap w1 g cells _ 5 _ q2) q3 (by omega) q5 hgb, ?_, fun r hr => OffRow.of (g := g) (n := n) (cap := cap) (lr := 0) ?_ (by omega)⟩
    · unfold BU
      rw [setRow_other _ _ _ _ (fun e => hgb e.symm), hsl]
      exact q1
    · exact ⟨hkk.os, hkk.tape, hkk.output, by rw [size_setRow]; exact hkk.size, fun k hk hb => (setRow_other _ _ _ _ (by omega)).trans (hkk.block k hk hb)⟩
    · unfold BU
      rw [setRow_other _ _ _ _ (fun e => hgb e.symm)]
      exact q1
  have HEnd := hid hend
  have hcap : cap ≤ 9223372036854775807 := by unfold maxLen at q5; omega
  clear hend hW hsz q1 q2 q5 q6 h' hk' HT HG hg c2 f2 h hput hsl hkk hsrc1 hsrc
  go_wp2
  go_ret2
  exact ⟨rfl, HEnd.out.1, HEnd.out.2.1, fun r hr => HEnd.out.2.2 r (HGG.out ▸ hr)⟩

end Go.Proofs.Qxb6612416aDoor.line
