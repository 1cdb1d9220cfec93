import Derived.Test.Qxb6612416aDoorWByte
namespace Go.Proofs.Qxb6612416aDoor.line
open Go.RowKit

theorem Kept.below {B : Nat} {L : List Nat} {w w' : World} (h : Kept L w w') (hl : ∀ k ∈ L, B ≤ k) : Below B w w' :=
  ⟨h.os, h.tape, h.output, by rw [h.size]; exact Nat.le_refl _, fun k hk => h.block k (fun hb => by have := hl k hb; omega)⟩
theorem KeptG.below {B : Nat} {L : List Nat} {w w' : World} (h : KeptG L w w') (hB : B ≤ w.heap.size) (hl : ∀ k ∈ L, B ≤ k) : Below B w w' :=
  ⟨h.os, h.tape, h.output, h.size, fun k hk => h.block k (by omega) (fun hb => by have := hl k hb; omega)⟩

theorem isBuffer_kept {w w' : World} {B b wb rw n : Nat} {bs : List Value} (h : Lib.IsBuffer 41 5 B b bs w) (ho : OffRow w rw b) (hw : WR w wb rw b n) (k : Kept [wb, rw] w w') (hwb : wb ≠ b) (hrb : rw ≠ b) : Lib.IsBuffer 41 5 B b bs w' := by
  obtain ⟨hB, v, lr, hbk, hown, hn⟩ := h
  refine ⟨hB, v, lr, (k.block b (by simp; exact ⟨fun e => hwb e.symm, fun e => hrb e.symm⟩)).trans hbk, ⟨hown.1, ?_⟩, hn⟩
  rcases hown.2 with h2 | ⟨g, cap, cur, h1, h2, h3, h4⟩
  · exact Or.inl h2
  · refine Or.inr ⟨g, cap, cur, h1, h2, (k.block g ?_).trans h3, h4⟩
    simp
    constructor
    · rintro rfl
      unfold WR at hw
      rw [h3] at hw
      cases hw
    · intro e
      exact ho v lr hbk (by rw [h1]; exact congrArg some e)

/-- Flush: what waits is joined to what the buffer holds -/
theorem flush_any (B wb rw b n : Nat) (bs cs : List UInt8) (w : World) (h : WR w wb rw b n) (hn : 0 < n) (hn2 : n ≤ 4096) (hI : Lib.IsBuffer 41 5 B b (Lib.byteCells bs) w) (hB : B ≤ w.heap.size) (hBw : B ≤ wb) (hcs : cs.length = n)
    (hsh : Shows w rw 0 cs) (hwb : wb ≠ b) (hrb : rw ≠ b) (hlim : bs.length ≤ 1048576) :
    Calls Tryd.prog 27 #[.pointer (some ⟨wb, 0, none⟩)] w fun e w' => e = .returned .nilIface ∧ Lib.IsBuffer 41 5 B b (Lib.byteCells (bs ++ cs)) w' ∧ Below B w w' := by
  refine (flush_core wb rw b n (fun w1 => Lib.IsBuffer 41 5 B b (Lib.byteCells (bs ++ cs)) w1 ∧ Below B w w1) w h hn hn2 (hid fun q => ?_)).mono ?_
  · refine (bWrite B b (Lib.byteCells bs) (Lib.byteCells cs) ⟨rw, 0, none⟩ n 4096 (w.drewN q) hI hB (Lib.byteCells_one _) (by rw [Lib.byteCells_length]; exact hcs) hrb (news_cells hsh) (Lib.byteCells_one _) (by rw [Lib.byteCells_length]; omega)).mono ?_
    rintro e w1 ⟨rfl, i1, b1, o1⟩
    refine ⟨rfl, WR.others (w := w.drewN q) h o1 hwb, ?_, ?_⟩
    · rw [Lib.byteCells_append]; exact i1
    · exact ⟨b1.os, b1.tape, b1.output, b1.size, b1.block⟩
  · rintro e w' ⟨rfl, w1, r1, ⟨i1, b1⟩, rfl⟩
    exact ⟨rfl, isBuffer_other i1 r1 hwb _ _, b1.setCell hBw _⟩

theorem put_snoc (row : Array Value) (l : List UInt8) (h : l.length < row.size) : (put row 0 l).setIfInBounds l.length (.int .u8 10) = put row 0 (l ++ [10]) := by
  have hd : row.toList.drop l.length = row.toList[l.length]'(by simpa using h) :: row.toList.drop (l.length + 1) := List.drop_eq_getElem_cons (by simpa using h)
  apply Array.toList_inj.1
  simp only [put, Array.toList_setIfInBounds, List.take_zero, List.nil_append, Nat.zero_add, List.length_append, List.length_singleton]
  rw [hd, List.set_append_right _ _ (by rw [Lib.byteCells_length]; exact Nat.le_refl _), Lib.byteCells_length, Nat.sub_self, List.set_cons_zero, Lib.byteCells_append, List.append_assoc]
  rfl

theorem shows_first {w : World} {b : Nat} {row : Array Value} (hs : row.size = 4096) (h : w.heap[b]? = some (.cells (row.setIfInBounds 0 (.int .u8 10)) 5 (0, 0))) : Shows w b 0 [10] := by
  intro i hi
  have h0 : i = 0 := by simp at hi; exact hi
  subst h0
  rw [cell_of_row _ _ _ _ _ _ h]
  rw [Array.getElem?_setIfInBounds_self_of_lt (by omega)]
  rfl

set_option maxHeartbeats 2000000 in
set_option maxRecDepth 20000 in
theorem writeLine_core (wb : Nat) (s : ByteArray) (M1 M2 M3 : World → Prop) (w : World)
    (H1 : Hid (Calls Tryd.prog 25 #[.pointer (some ⟨wb, 0, none⟩), .string s] w fun e w' => e = .returned (.tuple #[.int .i64 s.size, .nilIface]) ∧ M1 w'))
    (H2 : Hid (∀ w1, M1 w1 → Calls Tryd.prog 26 #[.pointer (some ⟨wb, 0, none⟩), .int .u8 10] w1 fun e w' => e = .returned .nilIface ∧ M2 w'))
    (H3 : Hid (∀ w2, M2 w2 → Calls Tryd.prog 27 #[.pointer (some ⟨wb, 0, none⟩)] w2 fun e w' => e = .returned .nilIface ∧ M3 w')) :
    Calls Tryd.prog 17 #[.pointer (some ⟨wb, 0, none⟩), .string s] w fun e w' => e = .returned .nilIface ∧ M3 w' := by
  go_enter Tryd.func17, Tryd.ntmps17
  go_wp2_with (first
    | (go_at_call 25; refine H1.out.mono ?_; rintro e w1 ⟨rfl, m1⟩)
    | (go_at_call 26; refine (H2.out _ m1).mono ?_; rintro e w2 ⟨rfl, m2⟩)
    | (go_at_call 27; refine (H3.out _ m2).mono ?_; rintro e w3 ⟨rfl, m3⟩))
  go_ret
  exact ⟨rfl, m3⟩

theorem writeLine_any (B wb rw b : Nat) (lr : Int) (s : ByteArray) (l : List UInt8) (hl : s.data.toList = l) (hs : l.length ≤ 131072) (w : World) (h : WR w wb rw b 0) (hr : w.heap[rw]? = some (.cells zeros 5 (0, 0))) (hb : BU w b (.slice none 0 0) lr)
    (hB : B ≤ b) (hBr : B ≤ rw) (hBw : B ≤ wb) (hne : rw ≠ wb) (hwb : wb ≠ b) (hrb : rw ≠ b) :
    Calls Tryd.prog 17 #[.pointer (some ⟨wb, 0, none⟩), .string s] w fun e w' => e = .returned .nilIface ∧ Lib.IsBuffer 41 5 B b (Lib.byteCells (l ++ [10])) w' ∧ Below B w w' := by
  have hz := zeros_size
  have hsz : s.size = l.length := by rw [← hl]; exact Lib.size_eq s
  have hrl : rw < w.heap.size := (Array.getElem?_eq_some_iff.1 hr).1
  have hbl : b < w.heap.size := (Array.getElem?_eq_some_iff.1 hb).1
  rcases Nat.lt_trichotomy l.length 4096 with hlt | heq | hgt
  · refine writeLine_core wb s (fun w1 => WR w1 wb rw b l.length ∧ w1.heap[rw]? = some (.cells (put zeros 0 l) 5 (0, 0)) ∧ Kept [wb, rw] w w1) (fun w2 => WR w2 wb rw b (l.length + 1) ∧ w2.heap[rw]? = some (.cells (put zeros 0 (l ++ [10])) 5 (0, 0)) ∧ Kept [wb, rw] w w2) _ w (hid ?_) (hid ?_) (hid ?_)
    · refine (wstr_short wb rw b s (by omega) zeros w h hr hz hne).mono ?_
      rintro e w1 ⟨rfl, a1, a2, a3⟩
      rw [hsz] at a1
      rw [hl] at a2
      exact ⟨rfl, a1, a2, a3⟩
    · rintro w1 ⟨a1, a2, a3⟩
      refine (wbyte_room wb rw b l.length (put zeros 0 l) w1 a1 hlt a2 (by rw [put_size _ _ _ (by omega)]; exact hz) hne).mono ?_
      rintro e w2 ⟨rfl, b1, b2, b3⟩
      rw [put_snoc _ _ (by omega)] at b2
      exact ⟨rfl, b1, b2, a3.trans b3⟩
    · rintro w2 ⟨b1, b2, b3⟩
      have hb2 : BU w2 b (.slice none 0 0) lr := by unfold BU; rw [b3.block b (by simp; exact ⟨fun e => hwb e.symm, fun e => hrb e.symm⟩)]; exact hb
      have hI : Lib.IsBuffer 41 5 B b (Lib.byteCells []) w2 := ⟨hB, _, _, hb2, World.ownsRow_nil _ _ _ _, by simp [Value.ownBlock]⟩
      refine (flush_any B wb rw b (l.length + 1) [] (l ++ [10]) w2 b1 (by omega) (by omega) hI (by rw [b3.size]; omega) hBw (by simp) (put_shows b2) hwb hrb (by simp)).mono ?_
      rintro e w3 ⟨rfl, c1, c2⟩
      exact ⟨rfl, c1, (b3.below (by simp; omega)).trans c2⟩
  · refine writeLine_core wb s (fun w1 => WR w1 wb rw b 4096 ∧ w1.heap[rw]? = some (.cells (put zeros 0 l) 5 (0, 0)) ∧ Kept [wb, rw] w w1) (fun w2 => WR w2 wb rw b 1 ∧ Shows w2 rw 0 [10] ∧ Lib.IsBuffer 41 5 B b (Lib.byteCells l) w2 ∧ Below B w w2) _ w (hid ?_) (hid ?_) (hid ?_)
    · refine (wstr_short wb rw b s (by omega) zeros w h hr hz hne).mono ?_
      rintro e w1 ⟨rfl, a1, a2, a3⟩
      rw [hsz, heq] at a1
      rw [hl] at a2
      exact ⟨rfl, a1, a2, a3⟩
    · rintro w1 ⟨a1, a2, a3⟩
      have hb1 : BU w1 b (.slice none 0 0) lr := by unfold BU; rw [a3.block b (by simp; exact ⟨fun e => hwb e.symm, fun e => hrb e.symm⟩)]; exact hb
      have hps : (put zeros 0 l).size = 4096 := by rw [put_size _ _ _ (by omega)]; exact hz
      refine (wbyte_full B wb rw b lr l heq (put zeros 0 l) w1 a1 hb1 hB (put_shows a2) a2 hps hne hwb hrb).mono ?_
      rintro e w2 ⟨rfl, b1, b2, b3, b4⟩
      exact ⟨rfl, b1, shows_first hps b2, b3, (a3.below (by simp; omega)).trans (b4.below (by rw [a3.size]; omega) (by simp; omega))⟩
    · rintro w2 ⟨b1, b2, b3, b4⟩
      refine (flush_any B wb rw b 1 l [10] w2 b1 (by omega) (by omega) b3 (by have := b4.size; omega) hBw (by simp) b2 hwb hrb (by omega)).mono ?_
      rintro e w3 ⟨rfl, c1, c2⟩
      exact ⟨rfl, c1, b4.trans c2⟩
  · refine writeLine_core wb s (fun w1 => WR w1 wb rw b 0 ∧ Lib.IsBuffer 41 5 B b (Lib.byteCells l) w1 ∧ KeptG [wb, b] w w1 ∧ OffRow w1 rw b) (fun w2 => WR w2 wb rw b 1 ∧ Shows w2 rw 0 [10] ∧ Lib.IsBuffer 41 5 B b (Lib.byteCells l) w2 ∧ Below B w w2) _ w (hid ?_) (hid ?_) (hid ?_)
    · refine (wstr_long B wb rw b lr s (by omega) (by omega) w h hb hB hwb hrl).mono ?_
      rintro e w1 ⟨rfl, a1, a2, a3, a4⟩
      rw [hl] at a2
      exact ⟨rfl, a1, a2, a3, a4⟩
    · rintro w1 ⟨a1, a2, a3, a4⟩
      have hr1 : w1.heap[rw]? = some (.cells zeros 5 (0, 0)) := by rw [a3.block rw hrl (by simp; exact ⟨hne, hrb⟩)]; exact hr
      refine (wbyte_room wb rw b 0 zeros w1 a1 (by omega) hr1 hz hne).mono ?_
      rintro e w2 ⟨rfl, b1, b2, b3⟩
      exact ⟨rfl, b1, shows_first hz b2, isBuffer_kept a2 a4 a1 b3 hwb hrb, (a3.below (by omega) (by simp; omega)).trans (b3.below (by simp; omega))⟩
    · rintro w2 ⟨b1, b2, b3, b4⟩
      refine (flush_any B wb rw b 1 l [10] w2 b1 (by omega) (by omega) b3 (by have := b4.size; omega) hBw (by simp) b2 hwb hrb (by omega)).mono ?_
      rintro e w3 ⟨rfl, c1, c2⟩
      exact ⟨rfl, c1, b4.trans c2⟩

end Go.Proofs.Qxb6612416aDoor.line
