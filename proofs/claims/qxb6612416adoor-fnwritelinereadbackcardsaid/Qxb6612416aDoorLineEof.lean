import Derived.Test.Qxb6612416aDoorLine
namespace Go.Proofs.Qxb6612416aDoor.line
open Go.RowKit

theorem neq_same (a : Addr) (W : World) : (binOp .neq 43 (.iface 97 (.pointer (some a))) (.iface 97 (.pointer (some a)))).run Tryd.prog W = .ok (.bool false) W := by
  obtain ⟨ms, hms⟩ := iface43
  obtain ⟨i, hi, hc⟩ := Option.map_eq_some_iff.1 comp97
  obtain ⟨j, hj, _⟩ := Option.map_eq_some_iff.1 size99
  simp only [binOp]
  simp [Op.equal, Op.maxDepth, run_equalIn_iface_ptr_same W 9998 a hms Tryd.underlying97 hi hc hj]

set_option maxHeartbeats 2000000 in
set_option maxRecDepth 20000 in
theorem readLine_eof (rb bb sb : Nat) (T : ByteArray) (w : World) (hd : Drained w rb bb sb T T.size) (hn2 : rb ≠ sb) (hn3 : rb ≠ bb)
    (g1 : rb < w.heap.size) (h1 : 2 < rb) (ab ae : Addr) (hE : w.cell? ⟨1, 0, none⟩ = some (.iface 97 (.pointer (some ab)))) (hF : w.cell? ⟨2, 0, none⟩ = some (.iface 97 (.pointer (some ae))))
    (ca cb : Array Value) (ta tb : TypeId) (hne : ae ≠ ab) (ha : w.heap[ae.block]? = some (.cells ca ta (0, 0))) (hb : w.heap[ab.block]? = some (.cells cb tb (0, 0))) (na : ae.block ≠ rb) (nb : ab.block ≠ rb) :
    Calls Tryd.prog 22 #[.pointer (some ⟨rb, 0, none⟩), .int .i64 131072] w fun e w' => e = .returned (.tuple #[.string ⟨#[]⟩, .iface 97 (.pointer (some ae))]) ∧ KeptG [rb] w w' := by
  obtain ⟨i0, hi, hz0, hz1, hz2⟩ := info_parts info5
  obtain ⟨⟨prev, hs⟩, ⟨row, hbf, hrow⟩, q, lb, lr, hq, hr⟩ := hd
  have hc := slice_eof rb bb sb T T.size q hq prev lb lr row (Nat.le_refl _) 97 (.pointer (some ae)) w hs hbf hr hn2 hn3 hF (by omega)
  have HC := hid hc
  have HE := hid hE
  have HF := hid hF
  have HA := hid ha
  have HB := hid hb
  clear hc hE hF hs hbf hr hrow ha hb
  go_enter Tryd.func22, Tryd.ntmps22
  go_wp2
  go_loopg [6] 0 (fun g v wr => v = .slice none 0 0 ∧ wr = w)
  case atStart => exact ⟨rfl, rfl⟩
  case round =>
    obtain ⟨rfl, hwr⟩ := hrel
    subst hwr
    go_wp2_with (first
      | (go_at_call 30; refine HC.out.mono ?_; rintro e w1 ⟨o, c, rfl, ⟨lb', lr', r1⟩, k1⟩)
      | (at_builtin; refine wpList_append_own _ rfl (.tmp 23) (.tmp 24) 37 rfl wr.heap.size 5 i0 (.int .u8 0) 1 1 Tryd.underlying37 hi hz0 hz1 hz2 rfl (by decide) _ _ _ rfl (World.ownsRow_nil _ _ _ _) ⟨bb, o, none⟩ 0 c [] rfl rfl ?c1 ?c2 ?c3 ?c4 ?c5 ?_))
    case c1 => intro j u hj; simp at hj
    case c2 => intro u hu; simp at hu
    case c3 => unfold maxLen; omega
    case c4 => omega
    case c5 => have := k1.size; omega
    intro v' w2 _ hg hv
    subst hv
    have hkg : KeptG [rb] wr w2 := k1.g.grown hg (fun k hk => by cases hk)
    have hE2 : w2.cell? ⟨1, 0, none⟩ = some (.iface 97 (.pointer (some ab))) := by rw [World.cell?_of_block (w := wr) (a := ⟨1, 0, none⟩) (hkg.block 1 (by omega) (by simp; omega))]; exact HE.out
    have hF2 : w2.cell? ⟨2, 0, none⟩ = some (.iface 97 (.pointer (some ae))) := by rw [World.cell?_of_block (w := wr) (a := ⟨2, 0, none⟩) (hkg.block 2 (by omega) (by simp; omega))]; exact HF.out
    have la : ae.block < wr.heap.size := (Array.getElem?_eq_some_iff.1 HA.out).1
    have lb2 : ab.block < wr.heap.size := (Array.getElem?_eq_some_iff.1 HB.out).1
    have hq1 := eql_other ae ab ca cb ta tb w2 hne (by rw [hkg.block _ la (by simpa using na)]; exact HA.out) (by rw [hkg.block _ lb2 (by simpa using nb)]; exact HB.out)
    have hq2 := neq_same ae
    have HK := hid hkg
    clear hkg hg r1 k1 la lb2
    go_wp2
    go_ret2
    exact ⟨rfl, HK.out⟩

end Go.Proofs.Qxb6612416aDoor.line
