import Derived.Test.Qxb6612416aDoorFill
namespace Go.Proofs.Qxb6612416aDoor.line
open Go.RowKit

/-- from offset o of block b on the bytes l lie -/
def Shows (w : World) (b o : Nat) (l : List UInt8) : Prop := ∀ i (h : i < l.length), w.cell? ⟨b, o + i, none⟩ = some (.int .u8 (l[i].toNat : Int))
theorem nums (l : List UInt8) : Lib.bytesOf (l.map fun c => (c.toNat : Int)) = l := by
  unfold Lib.bytesOf
  rw [List.map_map]
  conv => rhs; rw [← List.map_id l]
  apply List.map_congr_left
  intro c _
  simp
theorem cells_of {w : World} {b o : Nat} {l : List UInt8} (h : Shows w b o l) : ∀ i, i < l.length → w.cell? ⟨b, o + i, none⟩ = some (.int .u8 ((l.map fun c => (c.toNat : Int)).getD i 0)) := by
  intro i hi
  rw [h i hi]
  simp [List.getD, hi]

set_option maxHeartbeats 1000000 in
set_option maxRecDepth 100000 in
theorem index_any (b o n c : Nat) (l : List UInt8) (w : World) (hn : l.length = n) (hc : Shows w b o l) :
    Calls Tryd.prog 37 #[.slice (some ⟨b, o, none⟩) n c, .int .u8 10] w fun e w' => e = .returned (.int .i64 (Lib.indexByte l 10)) ∧ w' = w := by
  subst hn
  have hh := Lib.run_indexByteSlice (P := Tryd.prog) w b o l.length c (l.map fun c => (c.toNat : Int)) (by simp) (cells_of hc) 10
  rw [nums] at hh
  clear hc
  go_enter Tryd.func37, Tryd.ntmps37
  go_wp2
  rw [run_callFunc_extern Tryd.func43 (by kernel_rfl) (by kernel_rfl) (by kernel_rfl) (e := Extern.BytealgIndexByte.indexByte) (by kernel_rfl), hh]
  clear hh
  simp only [Result.andThen]
  rw [Oper.upon_value]
  go_wp2
  go_ret
  exact ⟨rfl, rfl⟩

set_option maxHeartbeats 1000000 in
theorem buffered_any (rb bb sb r wd : Nat) (err : Value) (lb lr : Int) (w : World) (h : RB w rb bb sb r wd err lb lr) (h1 : r ≤ wd) (h2 : wd ≤ 4096) :
    Calls Tryd.prog 39 #[.pointer (some ⟨rb, 0, none⟩)] w fun e w' => e = .returned (.int .i64 ((wd : Int) - r)) ∧ ∃ n, w' = w.drewN n := by
  have c2 := h.c2
  have c3 := h.c3
  go_enter Tryd.func39, Tryd.ntmps39
  go_wp2
  go_quiet (fail)
  go_wp2
  go_ret
  exact ⟨rfl, _, rfl⟩

set_option maxHeartbeats 1000000 in
theorem readErr_any (rb bb sb r wd : Nat) (te : TypeId) (pe : Value) (lb lr : Int) (w : World) (h : RB w rb bb sb r wd (.iface te pe) lb lr) :
    Calls Tryd.prog 38 #[.pointer (some ⟨rb, 0, none⟩)] w fun e w' => e = .returned (.iface te pe) ∧ w' = w.setCell ⟨rb, 4, none⟩ .nilIface := by
  have c4 := h.c4
  have f4 := h.f 4
  go_enter Tryd.func38, Tryd.ntmps38
  go_wp2
  go_ret
  exact ⟨rfl, rfl⟩

/-- 'buf[q:q]' -/
theorem cut_void (b q N : Nat) (hq : q ≤ N) : ∃ o c, ∀ W, (Instr.slice 37 (.slice (some ⟨b, 0, none⟩) N N) (some (.int .i64 (q : Int))) (some (.int .i64 (q : Int))) none).run Tryd.prog W = .ok (.slice (some ⟨b, o, none⟩) 0 c) W := by
  refine ⟨if N = q then 0 else q, N - q, fun W => ?_⟩
  rw [run_slice_lh W 37 (some ⟨b, 0, none⟩) N N under37 .i64 .i64 (q : Int) (q : Int) (by omega) (by omega) (by omega), elem37, size1]
  have e2 : (⟨b, 0, none⟩ : Addr).add q = ⟨b, q, none⟩ := by unfold Addr.add; split <;> simp_all
  by_cases e : N = q
  · simp [Result.andThen, sliced, e]
  · simp [Result.andThen, sliced, e, e2]

theorem put_shows {w : World} {b : Nat} {row : Array Value} {l : List UInt8} (h : w.heap[b]? = some (.cells (put row 0 l) 5 (0, 0))) : Shows w b 0 l := by
  intro i hi
  rw [Nat.zero_add, cell_of_row _ _ _ _ _ _ h]
  simp only [put, Lib.byteCells, List.take_zero, List.nil_append, Nat.zero_add]
  rw [List.getElem?_toArray, List.getElem?_append_left (by simpa using hi)]
  simp [hi]

/-- what ReadSlice leaves behind -/
structure Left (w w' : World) (rb bb sb : Nat) (T : ByteArray) (p k : Nat) (row : Array Value) : Prop where
  sr : SR w' sb T (p + k) (-1)
  bf : w'.heap[bb]? = some (.cells (put row 0 ((T.data.toList.drop p).take k)) 5 (0, 0))
  rd : ∃ lb lr, RB w' rb bb sb k k .nilIface lb lr
  kept : Kept [rb, bb, sb] w w'

set_option maxHeartbeats 2000000 in
set_option maxRecDepth 20000 in
theorem slice_found (rb bb sb : Nat) (T : ByteArray) (p q : Nat) (hq : q ≤ 4096) (prev lb lr : Int) (row : Array Value) (hT : T.size ≤ 1048577) (hp : p < T.size) (w : World) (hs : SR w sb T p prev) (hb : w.heap[bb]? = some (.cells row 5 (0, 0)))
    (hr : RB w rb bb sb q q .nilIface lb lr) (hn1 : bb ≠ sb) (hn2 : rb ≠ sb) (hn3 : rb ≠ bb) (hrow : row.size = 4096) (m : Nat) (hk : m + 1 = min (T.size - p) 4096)
    (hi : Lib.indexByte ((T.data.toList.drop p).take (m + 1)) 10 = (m : Int)) :
    Calls Tryd.prog 30 #[.pointer (some ⟨rb, 0, none⟩), .int .u8 10] w fun e w' => e = .returned (.tuple #[Value.slice (some ⟨bb, 0, none⟩) (m + 1) 4096, .nilIface]) ∧ Left w w' rb bb sb T p (m + 1) row := by
  have hk2 : m + 1 ≤ 4096 := by omega
  have hlen : ((T.data.toList.drop p).take (m + 1)).length = m + 1 := by
    have := Lib.size_eq T
    simp; omega
  have HF := hid (fill_data rb bb sb T p q hq prev lb lr row hT hp)
  have HI := hid hi
  have HL := hid hlen
  have HK := hid hk
  have HR := hid hrow
  clear hi hlen hk hrow
  go_enter Tryd.func30, Tryd.ntmps30
  go_wp2
  go_loopg [5, 6] 1 (fun g e5 s wr => e5 = .nilIface ∧ s = .int .i64 0 ∧ ((g = 1 ∧ RB wr rb bb sb q q .nilIface lb lr ∧ Kept [] w wr) ∨ (g = 0 ∧ SR wr sb T (p + (m + 1)) (-1) ∧ wr.heap[bb]? = some (.cells (put row 0 ((T.data.toList.drop p).take (m + 1))) 5 (0, 0)) ∧ RB wr rb bb sb 0 (m + 1) .nilIface lb lr ∧ Kept [rb, bb, sb] w wr)))
  case atStart => exact ⟨rfl, rfl, Or.inl ⟨rfl, hr, Kept.refl _ _⟩⟩
  case round =>
    obtain ⟨rfl, rfl, ⟨rfl, hr0, hk0⟩ | ⟨rfl, hs1, hb1, hr1, hk1⟩⟩ := hrel
    · have c0 := hr0.c0
      have c2 := hr0.c2
      have c3 := hr0.c3
      have c4 := hr0.c4
      obtain ⟨oX, cX, hsl⟩ := cut_void bb q 4096 hq
      have hix : ∀ n, Calls Tryd.prog 37 #[.slice (some ⟨bb, oX, none⟩) 0 cX, .int .u8 10] (wr.drewN n) fun e w' => e = .returned (.int .i64 (-1)) ∧ w' = wr.drewN n := fun n => index_any bb oX 0 cX [] (wr.drewN n) rfl (fun i h => absurd h (by simp))
      have HX := hid hix
      clear hix
      go_wp2
      go_quiet ((go_at_call 37; exact Calls.quiet_of_same (HX.out _)))
      go_wp2
      have hr2 : RB (wr.drewN nq) rb bb sb q q .nilIface lb lr := hr0
      have hk2' : Kept [] w (wr.drewN nq) := hk0.drewN _
      generalize wr.drewN nq = W at hr2 hk2' ⊢
      clear c0 c2 c3 c4 hr0 hk0 HX hsl
      have c0 := hr2.c0
      have c2 := hr2.c2
      have c3 := hr2.c3
      go_quiet ((go_at_call 39; exact Calls.quiet_of (buffered_any rb bb sb q q .nilIface lb lr _ (by exact hr2) (Nat.le_refl _) hq)))
      go_wp2
      go_quiet (fail)
      go_wp2_with fail
      have hsW : SR W sb T p prev := by unfold SR; rw [hk2'.block _ (by simp)]; exact hs
      have hbW : W.heap[bb]? = some (.cells row 5 (0, 0)) := by rw [hk2'.block _ (by simp)]; exact hb
      refine (HF.out _ (by exact hsW) (by exact hbW) (by exact hr2) hn1 hn2 hn3 HR.out (m + 1) HK.out).mono ?_
      rintro e w1 ⟨rfl, s1, b1, r1, k1⟩
      go_wp2
      go_roundg 0
      case measure => omega
      case rel => exact ⟨rfl, rfl, Or.inr ⟨rfl, s1, b1, r1, (((hk2'.mono (by simp)).drewN _).trans k1)⟩⟩
    · have c0 := hr1.c0
      have c2 := hr1.c2
      have c3 := hr1.c3
      have c4 := hr1.c4
      have f2 := hr1.f 2
      have hix := fun n => index_any bb 0 (m + 1) 4096 ((T.data.toList.drop p).take (m + 1)) (wr.drewN n) HL.out (put_shows hb1)
      rw [HI.out] at hix
      have HX := hid hix
      clear hix
      go_wp2
      go_quiet ((go_at_call 37; exact Calls.quiet_of_same (HX.out _)))
      go_wp2
      have c5 := hr1.c5
      have c6 := hr1.c6
      have f5 := hr1.f 5
      have f6 := hr1.f 6
      obtain ⟨z, hz, z0, z1⟩ : ∃ z : Int, wr.cell? ⟨bb, m, none⟩ = some (.int .u8 z) ∧ 0 ≤ z ∧ z ≤ 255 := by
        have h := put_shows hb1 m (by have := HL.out; omega)
        rw [Nat.zero_add] at h
        refine ⟨_, h, by omega, ?_⟩
        have := UInt8.toNat_lt (((T.data.toList.drop p).take (m + 1))[m]'(by have := HL.out; omega))
        omega
      go_quiet (fail)
      go_wp2
      go_ret2
      refine ⟨rfl, ?_⟩
      exact ⟨((SR.other (w := wr.drewN _) hs1 (by exact fun e => hn2 e.symm) _).other (by exact fun e => hn2 e.symm) _).other (by exact fun e => hn2 e.symm) _,
        row_other (row_other (row_other (w := wr.drewN _) hb1 (by exact fun e => hn3 e.symm) _) (by exact fun e => hn3 e.symm) _) (by exact fun e => hn3 e.symm) _,
        ⟨z, -1, ((RB.s2 (w := wr.drewN _) hr1 (m + 1)).s5 z).s6 (-1)⟩, (((hk1.drewN _).setCell _ (by simp) _).setCell _ (by simp) _).setCell _ (by simp) _⟩

end Go.Proofs.Qxb6612416aDoor.line
