import Derived.Test.Qxb6612416aDoorSlice
namespace Go.Proofs.Qxb6612416aDoor.line
open Go.RowKit

set_option maxHeartbeats 2000000 in
set_option maxRecDepth 20000 in
theorem slice_full (rb bb sb : Nat) (T : ByteArray) (p q : Nat) (hq : q ≤ 4096) (prev lb lr : Int) (row : Array Value) (hT : T.size ≤ 1048577) (hp : p < T.size) (w : World) (hs : SR w sb T p prev) (hb : w.heap[bb]? = some (.cells row 5 (0, 0)))
    (hr : RB w rb bb sb q q .nilIface lb lr) (hn1 : bb ≠ sb) (hn2 : rb ≠ sb) (hn3 : rb ≠ bb) (hrow : row.size = 4096) (hk : 4096 = min (T.size - p) 4096) (te : TypeId) (pe : Value) (he : w.cell? ⟨1, 0, none⟩ = some (.iface te pe)) (hg1 : 1 ≠ rb) (hg2 : 1 ≠ bb) (hg3 : 1 ≠ sb)
    (hi : Lib.indexByte ((T.data.toList.drop p).take 4096) 10 = -1) :
    Calls Tryd.prog 30 #[.pointer (some ⟨rb, 0, none⟩), .int .u8 10] w fun e w' => e = .returned (.tuple #[Value.slice (some ⟨bb, 0, none⟩) 4096 4096, .iface te pe]) ∧ Left w w' rb bb sb T p 4096 row := by
  have hlen : ((T.data.toList.drop p).take 4096).length = 4096 := by
    have := Lib.size_eq T
    simp; omega
  have HF := hid (fill_data rb bb sb T p q hq prev lb lr row hT hp)
  have HI := hid hi
  have HL := hid hlen
  have HK := hid hk
  have HR := hid hrow
  have HE := hid he
  clear hi hlen hk hrow he
  go_enter Tryd.func30, Tryd.ntmps30
  go_wp2
  go_loopg [5, 6] 1 (fun g e5 s wr => e5 = .nilIface ∧ s = .int .i64 0 ∧ ((g = 1 ∧ RB wr rb bb sb q q .nilIface lb lr ∧ Kept [] w wr) ∨ (g = 0 ∧ SR wr sb T (p + 4096) (-1) ∧ wr.heap[bb]? = some (.cells (put row 0 ((T.data.toList.drop p).take 4096)) 5 (0, 0)) ∧ RB wr rb bb sb 0 4096 .nilIface lb lr ∧ Kept [rb, bb, sb] w wr)))
  case atStart => exact ⟨rfl, rfl, Or.inl ⟨rfl, hr, Kept.refl _ _⟩⟩
  case round =>
    obtain ⟨rfl, rfl, ⟨rfl, hr0, hk0⟩ | ⟨rfl, hs1, hb1, hr1, hk1⟩⟩ := hrel
    · have c0 := hr0.c0
      have c2 := hr0.c2
      have c3 := hr0.c3
      have c4 := hr0.c4
      obtain ⟨oX, cX, hsl⟩ := cut_void bb q 4096 hq
      have hix : ∀ n, Calls Tryd.prog 37 #[.slice (some ⟨bb, oX, none⟩) 0 cX, .int .u8 10] (wr.drewN n) fun e w' => e = .returned (.int .i64 (-1)) ∧ w' = wr.drewN n := fun n => index_any bb oX 0 cX [] (wr.drewN n) rfl (fun i h => absurd h (by simp))
      have HX := hid hix
      clear hix
      go_wp2
      go_quiet ((go_at_call 37; exact Calls.quiet_of_same (HX.out _)))
      go_wp2
      have hr2 : RB (wr.drewN nq) rb bb sb q q .nilIface lb lr := hr0
      have hk2' : Kept [] w (wr.drewN nq) := hk0.drewN _
      generalize wr.drewN nq = W at hr2 hk2' ⊢
      clear c0 c2 c3 c4 hr0 hk0 HX hsl
      have c0 := hr2.c0
      have c2 := hr2.c2
      have c3 := hr2.c3
      go_quiet ((go_at_call 39; exact Calls.quiet_of (buffered_any rb bb sb q q .nilIface lb lr _ (by exact hr2) (Nat.le_refl _) hq)))
      go_wp2
      go_quiet (fail)
      go_wp2_with fail
      have hsW : SR W sb T p prev := by unfold SR; rw [hk2'.block _ (by simp)]; exact hs
      have hbW : W.heap[bb]? = some (.cells row 5 (0, 0)) := by rw [hk2'.block _ (by simp)]; exact hb
      refine (HF.out _ (by exact hsW) (by exact hbW) (by exact hr2) hn1 hn2 hn3 HR.out 4096 HK.out).mono ?_
      rintro e w1 ⟨rfl, s1, b1, r1, k1⟩
      go_wp2
      go_roundg 0
      case measure => omega
      case rel => exact ⟨rfl, rfl, Or.inr ⟨rfl, s1, b1, r1, (((hk2'.mono (by simp)).drewN _).trans k1)⟩⟩
    · have c0 := hr1.c0
      have c2 := hr1.c2
      have c3 := hr1.c3
      have c4 := hr1.c4
      have hix := fun n => index_any bb 0 4096 4096 ((T.data.toList.drop p).take 4096) (wr.drewN n) HL.out (put_shows hb1)
      rw [HI.out] at hix
      have HX := hid hix
      clear hix
      go_wp2
      go_quiet ((go_at_call 37; exact Calls.quiet_of_same (HX.out _)))
      go_wp2
      have hr2 : RB (wr.drewN nq) rb bb sb 0 4096 .nilIface lb lr := hr1
      have hs2 : SR (wr.drewN nq) sb T (p + 4096) (-1) := hs1
      have hb2 : (wr.drewN nq).heap[bb]? = some (.cells (put row 0 ((T.data.toList.drop p).take 4096)) 5 (0, 0)) := hb1
      have hk2 : Kept [rb, bb, sb] w (wr.drewN nq) := hk1.drewN _
      generalize wr.drewN nq = W at hr2 hs2 hb2 hk2 ⊢
      clear c0 c2 c3 c4 HX hr1 hs1 hb1 hk1
      have c0 := hr2.c0
      have c2 := hr2.c2
      have c3 := hr2.c3
      have f2 := hr2.f 2
      have c5 := hr2.c5
      have c6 := hr2.c6
      have f5 := hr2.f 5
      have f6 := hr2.f 6
      have hE : W.cell? ⟨1, 0, none⟩ = some (.iface te pe) := by rw [World.cell?_of_block (w := w) (a := ⟨1, 0, none⟩) (hk2.block 1 (by simp; omega))]; exact HE.out
      obtain ⟨z, hz, z0, z1⟩ : ∃ z : Int, W.cell? ⟨bb, 4095, none⟩ = some (.int .u8 z) ∧ 0 ≤ z ∧ z ≤ 255 := by
        have h := put_shows hb2 4095 (by have := HL.out; omega)
        rw [Nat.zero_add] at h
        refine ⟨_, h, by omega, ?_⟩
        have := UInt8.toNat_lt (((T.data.toList.drop p).take 4096)[4095]'(by have := HL.out; omega))
        omega
      go_quiet ((go_at_call 39; exact Calls.quiet_of (buffered_any rb bb sb 0 4096 .nilIface lb lr _ (by exact hr2) (by omega) (by omega))))
      go_wp2
      go_ret2
      exact ⟨rfl, ((SR.other (w := W.drewN _) hs2 (by exact fun e => hn2 e.symm) _).other (by exact fun e => hn2 e.symm) _).other (by exact fun e => hn2 e.symm) _,
        row_other (row_other (row_other (w := W.drewN _) hb2 (by exact fun e => hn3 e.symm) _) (by exact fun e => hn3 e.symm) _) (by exact fun e => hn3 e.symm) _,
        ⟨z, -1, ((RB.s2 (w := W.drewN _) hr2 4096).s5 z).s6 (-1)⟩, (((hk2.drewN _).setCell _ (by simp) _).setCell _ (by simp) _).setCell _ (by simp) _⟩

end Go.Proofs.Qxb6612416aDoor.line
