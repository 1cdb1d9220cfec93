import Derived.Test.Qxb6612416aDoorLineEof
namespace Go.Proofs.Qxb6612416aDoor.line
open Go.RowKit

def zeros : Array Value := madeCells #[.int .u8 0] 4096
theorem zeros_size : zeros.size = 4096 := size_madeCells _ _
theorem make4096 (W : World) : (Instr.makeSlice 37 (.int .i64 4096) (.int .i64 4096)).run Tryd.prog W = .ok (.slice (some ⟨W.heap.size, 0, none⟩) 4096 4096) (W.alloc (.cells zeros 5)) :=
  run_make_row' (P := Tryd.prog) 37 5 (.int .u8 0) 1 Tryd.underlying37 info5 rfl .i64 .i64 4096 (by omega) (by omega) W
theorem zero91 : ∀ w, (zeroValue 91).run Tryd.prog w = .ok (.agg #[.slice none 0 0, .nilIface, .int .i64 0, .int .i64 0, .nilIface, .int .i64 0, .int .i64 0]) w := fun _ => by kernel_rfl
theorem size91 : (Tryd.prog.info? 91).map (·.size) = some 7 := by kernel_rfl

theorem one_rdCells (bb sb : Nat) : (rdCells bb sb 0 0 .nilIface (-1) (-1)).all (·.oneCell') = true := by kernel_rfl

set_option maxHeartbeats 1000000 in
set_option maxRecDepth 20000 in
theorem reset_any (rb bb sb : Nat) (old : Array Value) (w : World) (hold : w.heap[rb]? = some (.cells old 91 (0, 0))) (ho : old.size = 7) :
    Calls Tryd.prog 36 #[.pointer (some ⟨rb, 0, none⟩), .slice (some ⟨bb, 0, none⟩) 4096 4096, .iface 51 (.pointer (some ⟨sb, 0, none⟩))] w fun e w' => e = .returned (.tuple #[]) ∧
      w' = w.setRow rb (rdCells bb sb 0 0 .nilIface (-1) (-1)) := by
  go_enter Tryd.func36, Tryd.ntmps36
  go_wp2_with (first | (refine wpList_store_row rfl 91 (.tmp 10) (.tmp 9) rfl rb (rdCells bb sb 0 0 .nilIface (-1) (-1)) rfl rfl 91 old hold size91 (by rw [ho]; rfl) (one_rdCells bb sb) ?_) | fail)
  go_end0
  exact ⟨rfl, rfl⟩

theorem assert51 (a : Addr) (W : World) : (Instr.typeAssert (.iface 51 (.pointer (some a))) 72 49 true).run Tryd.prog W = .ok (.tuple #[.pointer none, .bool false]) W := by kernel_rfl

set_option maxHeartbeats 1000000 in
set_option maxRecDepth 20000 in
theorem newSize_any (sb : Nat) (w : World) :
    Calls Tryd.prog 29 #[.iface 51 (.pointer (some ⟨sb, 0, none⟩)), .int .i64 4096] w fun e w' => e = .returned (.pointer (some ⟨w.heap.size, 0, none⟩)) ∧
      RB w' w.heap.size (w.heap.size + 1) sb 0 0 .nilIface (-1) (-1) ∧ w'.heap[w.heap.size + 1]? = some (.cells zeros 5 (0, 0)) ∧ Below w.heap.size w w' := by
  have hmk := make4096
  have has := assert51 ⟨sb, 0, none⟩
  have hmax : max (4096 : Int) 16 = 4096 := by decide
  go_enter Tryd.func29, Tryd.ntmps29
  go_wp2_with fail
  refine (reset_any w.heap.size (w.heap.size + 1) sb _ _ (heap_alloc2_old w _ _) rfl).mono ?_
  rintro e w1 ⟨rfl, hw1⟩
  have hr : RB w1 w.heap.size (w.heap.size + 1) sb 0 0 .nilIface (-1) (-1) := by
    unfold RB; rw [hw1]; exact setRow_heap _ _ _ _ _ _ (heap_alloc2_old w _ _)
  have hz : w1.heap[w.heap.size + 1]? = some (.cells zeros 5 (0, 0)) := by
    rw [hw1, setRow_other _ _ _ _ (by omega)]; exact heap_alloc2_new w _ _
  have hb : Below w.heap.size w w1 := by
    rw [hw1]; exact below_setRow (((Below.refl _ _).alloc (Nat.le_refl _) _).alloc (by simp) _) (Nat.le_refl _) _
  clear hw1
  go_wp2
  go_ret
  exact ⟨rfl, hr, hz, hb⟩

set_option maxHeartbeats 1000000 in
theorem new_any (sb : Nat) (w : World) :
    Calls Tryd.prog 20 #[.iface 51 (.pointer (some ⟨sb, 0, none⟩))] w fun e w' => e = .returned (.pointer (some ⟨w.heap.size, 0, none⟩)) ∧
      RB w' w.heap.size (w.heap.size + 1) sb 0 0 .nilIface (-1) (-1) ∧ w'.heap[w.heap.size + 1]? = some (.cells zeros 5 (0, 0)) ∧ Below w.heap.size w w' := by
  go_enter Tryd.func20, Tryd.ntmps20
  go_wp2_with (go_at_call 29; refine (newSize_any _ _).mono ?_; rintro e w1 ⟨rfl, h1, h2, h3⟩)
  go_ret
  exact ⟨rfl, h1, h2, h3⟩

set_option maxHeartbeats 1000000 in
theorem newStr_any (T : ByteArray) (w : World) :
    Calls Tryd.prog 21 #[.string T] w fun e w' => e = .returned (.pointer (some ⟨w.heap.size, 0, none⟩)) ∧ SR w' w.heap.size T 0 (-1) ∧ Below w.heap.size w w' ∧ w'.heap.size = w.heap.size + 1 := by
  go_enter Tryd.func21, Tryd.ntmps21
  go_wp2
  go_ret
  exact ⟨rfl, heap_alloc_new w _, (Below.refl _ _).alloc (Nat.le_refl _) _, by simp⟩

/-- what the reader needs to know of the sentinels -/
structure Sent (w : World) : Prop where
  out : ∃ (ab ae : Addr) (ca cb : Array Value) (ta tb : TypeId), w.cell? ⟨1, 0, none⟩ = some (.iface 97 (.pointer (some ab))) ∧ w.cell? ⟨2, 0, none⟩ = some (.iface 97 (.pointer (some ae))) ∧ ae ≠ ab ∧
    w.heap[ae.block]? = some (.cells ca ta (0, 0)) ∧ w.heap[ab.block]? = some (.cells cb tb (0, 0))
theorem Sent.below {w w' : World} {B : Nat} (h : Sent w) (hb : Below B w w') (hB : w.heap.size ≤ B) : Sent w' := by
  obtain ⟨ab, ae, ca, cb, ta, tb, h1, h2, h3, h4, h5⟩ := h.out
  have l1 := World.block_lt_of_cell? _ _ h1
  have l2 := World.block_lt_of_cell? _ _ h2
  have l4 : ae.block < w.heap.size := (Array.getElem?_eq_some_iff.1 h4).1
  have l5 : ab.block < w.heap.size := (Array.getElem?_eq_some_iff.1 h5).1
  exact ⟨ab, ae, ca, cb, ta, tb, (hb.cell (by omega)).trans h1, (hb.cell (by omega)).trans h2, h3, (hb.block _ (by omega)).trans h4, (hb.block _ (by omega)).trans h5⟩

set_option maxHeartbeats 1000000 in
set_option maxRecDepth 20000 in
theorem twice_any (T : ByteArray) (l : List UInt8) (hL : OneLine T l) (hcr : l.getLast? ≠ some 13) (w : World) (hS : Sent w) (hsz : 2 < w.heap.size) :
    Calls Tryd.prog 9 #[.string T] w fun e w' => ∃ S : ByteArray, e = .returned (.tuple #[.string S, .bool false, .string ⟨#[]⟩, .bool true]) ∧ S.data.toList = l ∧ Below w.heap.size w w' := by
  go_enter Tryd.func9, Tryd.ntmps9
  go_wp2_with fail
  refine (newStr_any T w).mono ?_
  rintro e w1 ⟨rfl, s1, b1, z1⟩
  have HZ1 := hid z1
  clear z1
  go_wp2_with fail
  refine (new_any w.heap.size w1).mono ?_
  rintro e w2 ⟨rfl, r2, bz, b2⟩
  have z1 := HZ1.out
  have bb2 : Below w.heap.size w w2 := b1.trans (b2.mono (by omega))
  have s2 : SR w2 w.heap.size T 0 (-1) := by unfold SR; rw [b2.block _ (by omega)]; exact s1
  have hd : Drained w2 w1.heap.size (w1.heap.size + 1) w.heap.size T 0 := ⟨⟨_, s2⟩, ⟨_, bz, zeros_size⟩, 0, -1, -1, by omega, r2⟩
  have lt2 : w1.heap.size + 1 < w2.heap.size := (Array.getElem?_eq_some_iff.1 bz).1
  obtain ⟨ab, ae, ca, cb, ta, tb, e1, e2, e3, e4, e5⟩ := hS.out
  have l4 : ae.block < w.heap.size := (Array.getElem?_eq_some_iff.1 e4).1
  have l5 : ab.block < w.heap.size := (Array.getElem?_eq_some_iff.1 e5).1
  have hc := readLine_ok w1.heap.size (w1.heap.size + 1) w.heap.size T l hL hcr w2 hd (by omega) (by omega) (by omega) (by omega) (by omega) (by omega) (by omega) (by omega) (by omega) ab ((bb2.cell (p := ⟨1, 0, none⟩) (by show 1 < _; omega)).trans e1)
  obtain ⟨rb, hrb⟩ : ∃ rb, w1.heap.size = rb := ⟨_, rfl⟩
  obtain ⟨N, hN⟩ : ∃ N, w.heap.size = N := ⟨_, rfl⟩
  rw [hrb, hN] at hc
  rw [hrb]
  rw [hN] at bb2 l4 l5 hsz
  rw [hrb] at lt2
  have hrN : rb = N + 1 := by omega
  have HC := hid hc
  have HBB := hid bb2
  have HRN := hid hrN
  have HN := hid hN
  clear hc bb2 hrb hN r2 bz b2 z1 s1 b1 s2 hd hS HZ1 hrN
  go_wp2_with fail
  refine HC.out.mono ?_
  rintro e w3 ⟨S, rfl, hSS, hd3, k3⟩
  have erN := HRN.out
  have nin : ∀ k, k < N → k ∉ [rb, rb + 1, N] := by intro k hk; simp; omega
  have hcc := readLine_eof rb (rb + 1) N T w3 hd3 (by omega) (by omega) (by have := k3.size; omega) (by omega) ab ae
    (by rw [World.cell?_of_block (w := w2) (a := ⟨1, 0, none⟩) (k3.block 1 (by omega) (nin 1 (by omega)))]; exact (HBB.out.cell (p := ⟨1, 0, none⟩) (by show 1 < _; omega)).trans e1)
    (by rw [World.cell?_of_block (w := w2) (a := ⟨2, 0, none⟩) (k3.block 2 (by omega) (nin 2 (by omega)))]; exact (HBB.out.cell (p := ⟨2, 0, none⟩) (by show 2 < _; omega)).trans e2)
    ca cb ta tb e3 (by rw [k3.block _ (by omega) (nin _ l4), HBB.out.block _ l4]; exact e4) (by rw [k3.block _ (by omega) (nin _ l5), HBB.out.block _ l5]; exact e5) (by omega) (by omega)
  have HCC := hid hcc
  have HK3 := hid k3
  have HSS := hid hSS
  have HNin := hid nin
  clear hcc hd3 k3 hSS e1 e2 e3 e4 e5 erN nin HC
  go_wp2_with fail
  refine HCC.out.mono ?_
  rintro e w4 ⟨rfl, k4⟩
  have HK4 := hid k4
  clear k4
  go_wp2
  go_quiet (fail)
  go_wp2
  refine bodyPost_ret (v := .tuple #[.string S, .bool false, .string ⟨#[]⟩, .bool true]) (by simp [results, Tryd.results9, go_sem]) rfl ⟨S, rfl, HSS.out, ?_⟩
  have hn := HN.out
  rw [hn]
  have k3 := HK3.out
  have k4 := HK4.out
  have b := HBB.out
  have nin := HNin.out
  have erN := HRN.out
  exact ⟨k4.os.trans (k3.os.trans b.os), k4.tape.trans (k3.tape.trans b.tape), k4.output.trans (k3.output.trans b.output), Nat.le_trans b.size (Nat.le_trans k3.size k4.size),
    fun k hk => (k4.block k (by have := b.size; have := k3.size; omega) (by simp; omega)).trans ((k3.block k (by have := b.size; omega) (nin k hk)).trans (b.block k hk))⟩

end Go.Proofs.Qxb6612416aDoor.line
