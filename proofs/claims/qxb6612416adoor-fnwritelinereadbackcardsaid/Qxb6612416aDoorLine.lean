import Derived.Test.Qxb6612416aDoorSliceFull
import Derived.Test.Qxb6612416aDoorSliceEof
import Derived.Test.Qxb6612416aDoorTrim
import Derived.LaidEql
import Derived.Lib.SlBytesConst
namespace Go.Proofs.Qxb6612416aDoor.line
open Go.RowKit

theorem idx_none : ∀ (l : List UInt8), (10 : UInt8) ∉ l → Lib.indexByte l 10 = -1
  | [], _ => rfl
  | x :: l, h => by
    have hx : x ≠ 10 := fun e => h (by simp [e])
    have ih := idx_none l (fun m => h (by simp [m]))
    unfold Lib.indexByte
    simp [hx, ih]
theorem idx_last : ∀ (l : List UInt8), (10 : UInt8) ∉ l → Lib.indexByte (l ++ [10]) 10 = (l.length : Int)
  | [], _ => rfl
  | x :: l, h => by
    have hx : x ≠ 10 := fun e => h (by simp [e])
    have ih := idx_last l (fun m => h (by simp [m]))
    rw [List.cons_append]
    unfold Lib.indexByte
    simp [hx, ih]

/-- a text that is one line: l and a newline, no newline in l -/
structure OneLine (T : ByteArray) (l : List UInt8) : Prop where
  eq : T.data.toList = l ++ [10]
  no : (10 : UInt8) ∉ l
  len : l.length ≤ 131072
theorem OneLine.size {T : ByteArray} {l : List UInt8} (h : OneLine T l) : T.size = l.length + 1 := by
  have := Lib.size_eq T
  rw [h.eq] at this
  simpa using this
theorem OneLine.found {T : ByteArray} {l : List UInt8} (h : OneLine T l) (p m : Nat) (hm : p + m = l.length) : Lib.indexByte ((T.data.toList.drop p).take (m + 1)) 10 = (m : Int) := by
  have e : (T.data.toList.drop p).take (m + 1) = l.drop p ++ [10] := by
    rw [h.eq, List.drop_append_of_le_length (by omega), List.take_of_length_le (by simp; omega)]
  rw [e, idx_last _ (fun hh => h.no (List.mem_of_mem_drop hh))]
  simp; omega
theorem OneLine.full {T : ByteArray} {l : List UInt8} (h : OneLine T l) (p : Nat) (hm : p + 4096 ≤ l.length) : Lib.indexByte ((T.data.toList.drop p).take 4096) 10 = -1 := by
  have e : (T.data.toList.drop p).take 4096 = (l.drop p).take 4096 := by
    rw [h.eq, List.drop_append_of_le_length (by omega), List.take_append_of_le_length (by simp; omega)]
  rw [e]
  exact idx_none _ (fun hh => h.no (List.mem_of_mem_drop (List.mem_of_mem_take hh)))

/-- of w's blocks those that B does not name stand in w'; there may be new ones -/
structure KeptG (B : List Nat) (w w' : World) : Prop where
  os : w'.os = w.os
  tape : w'.tape = w.tape
  output : w'.output = w.output
  size : w.heap.size ≤ w'.heap.size
  block : ∀ k, k < w.heap.size → k ∉ B → w'.heap[k]? = w.heap[k]?
theorem KeptG.refl (B : List Nat) (w : World) : KeptG B w w := ⟨rfl, rfl, rfl, Nat.le_refl _, fun _ _ _ => rfl⟩
theorem KeptG.trans {B : List Nat} {w w1 w2 : World} (h : KeptG B w w1) (g : KeptG B w1 w2) : KeptG B w w2 :=
  ⟨g.os.trans h.os, g.tape.trans h.tape, g.output.trans h.output, Nat.le_trans h.size g.size, fun k h1 h2 => (g.block k (Nat.lt_of_lt_of_le h1 h.size) h2).trans (h.block k h1 h2)⟩
theorem Kept.g {B : List Nat} {w w' : World} (h : Kept B w w') : KeptG B w w' := ⟨h.os, h.tape, h.output, by rw [h.size]; exact Nat.le_refl _, fun k _ h2 => h.block k h2⟩
theorem KeptG.grown {B : List Nat} {w w1 w2 : World} {row : Option Nat} (h : KeptG B w w1) (g : w1.grownBy w2 row) (hr : ∀ k, row = some k → w.heap.size ≤ k) : KeptG B w w2 :=
  ⟨g.os.trans h.os, g.tape.trans h.tape, g.output.trans h.output, Nat.le_trans h.size g.size, fun k h1 h2 => (g.block k (Nat.lt_of_lt_of_le h1 h.size) (fun e => by have := hr k e.symm; omega)).trans (h.block k h1 h2)⟩
theorem KeptG.alloc {B : List Nat} {w w1 : World} (h : KeptG B w w1) (o : Obj) : KeptG B w (w1.alloc o) :=
  h.trans ⟨rfl, rfl, rfl, by simp, fun k h1 _ => Below.heap_alloc _ _ _ h1⟩
theorem KeptG.drewN {B : List Nat} {w w1 : World} (h : KeptG B w w1) (q : Nat) : KeptG B w (w1.drewN q) := ⟨h.os, h.tape, h.output, h.size, h.block⟩

/-- the reader, drained: p bytes of T have been handed out -/
structure Drained (w : World) (rb bb sb : Nat) (T : ByteArray) (p : Nat) : Prop where
  sr : ∃ prev, SR w sb T p prev
  bf : ∃ row, w.heap[bb]? = some (.cells row 5 (0, 0)) ∧ row.size = 4096
  rd : ∃ q lb lr, q ≤ 4096 ∧ RB w rb bb sb q q .nilIface lb lr

theorem own_form {w : World} {N : Nat} {v : Value} {n : Nat} {xs : List Value} (h : w.ownsRow N 5 1 v n xs) : ∃ ao cap, v = .slice ao n cap := by
  rcases h.2 with ⟨h1, h2⟩ | ⟨g, cap, cur, h1, _⟩
  · exact ⟨none, 0, by rw [h1, h2]⟩
  · exact ⟨_, cap, h1⟩
theorem own_kept {w w1 : World} {N : Nat} {v : Value} {n : Nat} {xs : List Value} {B : List Nat} (h : w.ownsRow N 5 1 v n xs) (k : Kept B w w1) (hB : ∀ b, b ∈ B → b < N) : w1.ownsRow N 5 1 v n xs := by
  refine ⟨h.1, ?_⟩
  rcases h.2 with h2 | ⟨g, cap, cur, h1, h2, h3, h4⟩
  · exact Or.inl h2
  · exact Or.inr ⟨g, cap, cur, h1, h2, by rw [k.block g (fun hb => by have := hB g hb; omega)]; exact h3, h4⟩
theorem own_block {w : World} {N : Nat} {v : Value} {n : Nat} {xs : List Value} (h : w.ownsRow N 5 1 v n xs) : ∀ k, v.ownBlock = some k → N ≤ k := fun k hk => (h.lt k hk).1
theorem news_cells {w : World} {b : Nat} {l : List UInt8} (h : Shows w b 0 l) : ∀ j u, (Lib.byteCells l)[j]? = some u → w.cell? ((⟨b, 0, none⟩ : Addr).add j) = some u := by
  intro j u hj
  obtain ⟨hjl, e⟩ := List.getElem?_eq_some_iff.1 hj
  have hjl' : j < l.length := by rwa [Lib.byteCells_length] at hjl
  have e2 : (⟨b, 0, none⟩ : Addr).add j = ⟨b, 0 + j, none⟩ := by unfold Addr.add; split <;> simp_all
  rw [e2, h j hjl', ← e]
  simp [Lib.byteCells]
theorem Left.drained {w w' : World} {rb bb sb : Nat} {T : ByteArray} {p k : Nat} {row : Array Value} (h : Left w w' rb bb sb T p k row) (hrow : row.size = 4096) (hk : k ≤ 4096) : Drained w' rb bb sb T (p + k) := by
  obtain ⟨lb, lr, hr⟩ := h.rd
  refine ⟨⟨_, h.sr⟩, ⟨_, h.bf, ?_⟩, k, lb, lr, hk, hr⟩
  rw [put_size _ _ _ (by simp; omega)]; exact hrow
theorem Drained.grown {w w' : World} {rb bb sb : Nat} {T : ByteArray} {p : Nat} {row : Option Nat} (h : Drained w rb bb sb T p) (g : w.grownBy w' row) (hr : ∀ k, row = some k → k ≠ rb ∧ k ≠ bb ∧ k ≠ sb) : Drained w' rb bb sb T p := by
  obtain ⟨⟨prev, hs⟩, ⟨r, hb, hrow⟩, q, lb, lr, hq, hrd⟩ := h
  have lt : ∀ {k : Nat} {o : Obj}, w.heap[k]? = some o → k < w.heap.size := fun hh => (Array.getElem?_eq_some_iff.1 hh).1
  refine ⟨⟨prev, ?_⟩, ⟨r, ?_, hrow⟩, q, lb, lr, hq, ?_⟩
  · unfold SR; rw [g.block sb (lt hs) (fun e => (hr sb e.symm).2.2 rfl)]; exact hs
  · rw [g.block bb (lt hb) (fun e => (hr bb e.symm).2.1 rfl)]; exact hb
  · unfold RB; rw [g.block rb (lt hrd) (fun e => (hr rb e.symm).1 rfl)]; exact hrd
theorem take_step (T : ByteArray) (p k : Nat) : Lib.byteCells (T.data.toList.take p) ++ Lib.byteCells ((T.data.toList.drop p).take k) = Lib.byteCells (T.data.toList.take (p + k)) := by
  unfold Lib.byteCells
  rw [← List.map_append, List.take_add]

theorem own_whole {w : World} {N : Nat} {v : Value} {n : Nat} {l : List UInt8} (h : w.ownsRow N 5 1 v n (Lib.byteCells l)) (hn : 0 < n) : ∃ g cap, v = .slice (some ⟨g, 0, none⟩) n cap ∧ N ≤ g ∧ g < w.heap.size ∧ n ≤ cap ∧ Shows w g 0 l := by
  rcases h.2 with ⟨_, h2⟩ | ⟨g, cap, cur, h1, h2, h3, h4, h5, h6, h7⟩
  · omega
  · refine ⟨g, cap, h1, h2, (Array.getElem?_eq_some_iff.1 h3).1, h4, fun i hi => ?_⟩
    have hl := h.1
    rw [Lib.byteCells_length] at hl
    rw [Nat.zero_add, cell_of_row _ _ _ _ _ _ h3]
    have : (cur.toList.take (n * 1))[i]? = some (.int .u8 (l[i].toNat : Int)) := by rw [h7]; simp [Lib.byteCells, hi]
    rw [List.getElem?_take_of_lt (by omega)] at this
    rw [← Array.getElem?_toList]; exact this
theorem one_cell {w : World} {b : Nat} {v : Int} (h : w.cell? ⟨b, 0, none⟩ = some (.int .u8 v)) : ∀ i, i < 1 → w.cell? ⟨b, 0 + i, none⟩ = some (.int .u8 ([v].getD i 0)) := by
  intro i hi
  obtain rfl : i = 0 := by omega
  exact h
theorem trim_nl (g cap K b2 : Nat) (l : List UInt8) (w : World) (hK : l.length = K) (hc : K + 1 ≤ cap) (hb : K ≤ 131072) (hs : Shows w g 0 (l ++ [10])) (h2 : w.cell? ⟨b2, 0, none⟩ = some (.int .u8 10)) :
    Calls Tryd.prog 31 #[.slice (some ⟨g, 0, none⟩) (K + 1) cap, .slice (some ⟨b2, 0, none⟩) 1 1] w fun e w' => e = .returned (.slice (some ⟨g, 0, none⟩) K cap) ∧ w' = w := by
  have h := tr_TrimSuffix g 0 (K + 1) cap b2 0 1 1 ((l ++ [10]).map fun c : UInt8 => (c.toNat : Int)) [10] w (by simp; omega) rfl hc (by omega) (by have := cells_of hs; simpa [hK] using this) (one_cell h2)
  have e : Lib.bytesTrimSuffix g 0 (K + 1) cap ((l ++ [10]).map fun c : UInt8 => (c.toNat : Int)) [10] = .slice (some ⟨g, 0, none⟩) K cap := by
    unfold Lib.bytesTrimSuffix
    rw [nums, if_pos]
    · rfl
    · unfold Lib.hasSuffix
      exact List.isSuffixOf_iff_suffix.2 ⟨l, rfl⟩
  rw [e] at h
  exact h
theorem trim_cr (g cap K b2 : Nat) (l : List UInt8) (w : World) (hK : l.length = K) (hc : K ≤ cap) (hb : K ≤ 131072) (hl : l.getLast? ≠ some 13) (hs : Shows w g 0 l) (h2 : w.cell? ⟨b2, 0, none⟩ = some (.int .u8 13)) :
    Calls Tryd.prog 31 #[.slice (some ⟨g, 0, none⟩) K cap, .slice (some ⟨b2, 0, none⟩) 1 1] w fun e w' => e = .returned (.slice (some ⟨g, 0, none⟩) K cap) ∧ w' = w := by
  have h := tr_TrimSuffix g 0 K cap b2 0 1 1 (l.map fun c => (c.toNat : Int)) [13] w (by simp; omega) rfl hc (by omega) (by have := cells_of hs; simpa [hK] using this) (one_cell h2)
  have e : Lib.bytesTrimSuffix g 0 K cap (l.map fun c => (c.toNat : Int)) [13] = .slice (some ⟨g, 0, none⟩) K cap := by
    unfold Lib.bytesTrimSuffix
    rw [nums, if_neg]
    intro hh
    unfold Lib.hasSuffix at hh
    obtain ⟨t, ht⟩ := List.isSuffixOf_iff_suffix.1 hh
    apply hl
    rw [← ht]
    show (t ++ [13]).getLast? = some 13
    simp
  rw [e] at h
  exact h
theorem Shows.alloc {w : World} {b o : Nat} {l : List UInt8} (h : Shows w b o l) (x : Obj) : Shows (w.alloc x) b o l := fun i hi => Lib.cell?_alloc_marked x (h i hi)
theorem Shows.init {w : World} {b o : Nat} {l r : List UInt8} (h : Shows w b o (l ++ r)) : Shows w b o l := by
  intro i hi
  rw [h i (by simp; omega)]
  simp [hi]
theorem new_cell (w : World) (v : Value) (t : TypeId) (fr : Nat × Nat) : (w.alloc (.cells #[v] t fr)).cell? ⟨w.heap.size, 0, none⟩ = some v := by
  rw [cell_of_row _ _ _ _ _ _ (heap_alloc_new w _)]; rfl
theorem Drained.alloc {w : World} {rb bb sb : Nat} {T : ByteArray} {p : Nat} (h : Drained w rb bb sb T p) (o : Obj) : Drained (w.alloc o) rb bb sb T p :=
  h.grown (row := none) ⟨rfl, rfl, rfl, by simp, fun k hk _ => Below.heap_alloc _ _ _ hk⟩ (fun k hk => by cases hk)
theorem comp97 : (Tryd.prog.info? 97).map (·.comparable) = some true := by kernel_rfl
theorem size99 : (Tryd.prog.info? 99).map (·.size) = some 1 := by kernel_rfl
theorem iface43 : ∃ ms, Tryd.prog.underlying 43 = some (.interface ms) := ⟨_, Tryd.underlying43⟩
theorem eql_same (a : Addr) (W : World) : (binOp .eql 43 (.iface 97 (.pointer (some a))) (.iface 97 (.pointer (some a)))).run Tryd.prog W = .ok (.bool true) W := by
  obtain ⟨ms, hms⟩ := iface43
  obtain ⟨i, hi, hc⟩ := Option.map_eq_some_iff.1 comp97
  obtain ⟨j, hj, _⟩ := Option.map_eq_some_iff.1 size99
  exact run_eql_iface_ptr_same W a hms Tryd.underlying97 hi hc hj
theorem eql_nil (v : Value) (W : World) : (binOp .eql 43 .nilIface (.iface 97 v)).run Tryd.prog W = .ok (.bool false) W := by
  obtain ⟨ms, hms⟩ := iface43
  exact run_eql_iface_nil_left W 97 v hms
theorem eql_other (a b : Addr) (ca cb : Array Value) (ta tb : TypeId) (W : World) (hne : a ≠ b) (ha : W.heap[a.block]? = some (.cells ca ta (0, 0))) (hb : W.heap[b.block]? = some (.cells cb tb (0, 0))) :
    (binOp .eql 43 (.iface 97 (.pointer (some a))) (.iface 97 (.pointer (some b)))).run Tryd.prog W = .ok (.bool false) W := by
  obtain ⟨ms, hms⟩ := iface43
  obtain ⟨i, hi, hc⟩ := Option.map_eq_some_iff.1 comp97
  obtain ⟨j, hj, hs⟩ := Option.map_eq_some_iff.1 size99
  exact run_eql_iface_ptr_other W hms Tryd.underlying97 hi hc hj (by rw [hs]; decide) hne ha hb

theorem info5 : (Tryd.prog.info? 5).map (fun i => (i.zero, i.size, i.bytes)) = some (some (.int .u8 0), 1, 1) := by kernel_rfl

set_option maxHeartbeats 2000000 in
set_option maxRecDepth 20000 in
theorem readLine_ok (rb bb sb : Nat) (T : ByteArray) (l : List UInt8) (hL : OneLine T l) (hcr : l.getLast? ≠ some 13) (w : World) (hd : Drained w rb bb sb T 0) (hn1 : bb ≠ sb) (hn2 : rb ≠ sb) (hn3 : rb ≠ bb)
    (g1 : rb < w.heap.size) (g2 : bb < w.heap.size) (g3 : sb < w.heap.size) (h1 : 2 < rb) (h2 : 2 < bb) (h3 : 2 < sb) (ab : Addr) (hE : w.cell? ⟨1, 0, none⟩ = some (.iface 97 (.pointer (some ab)))) :
    Calls Tryd.prog 22 #[.pointer (some ⟨rb, 0, none⟩), .int .i64 131072] w fun e w' => ∃ S : ByteArray, e = .returned (.tuple #[.string S, .nilIface]) ∧ S.data.toList = l ∧ Drained w' rb bb sb T T.size ∧ KeptG [rb, bb, sb] w w' := by
  have hsz := hL.size
  have hlen := hL.len
  obtain ⟨i0, hi, hz0, hz1, hz2⟩ := info_parts info5
  have HS := hid hsz
  have HE := hid hE
  clear hsz hE
  go_enter Tryd.func22, Tryd.ntmps22
  go_wp2
  go_loopg [6] (l.length + 1) (fun g v wr => ∃ p : Nat, p ≤ l.length ∧ g = l.length + 1 - p ∧ wr.ownsRow w.heap.size 5 1 v p (Lib.byteCells (T.data.toList.take p)) ∧ Drained wr rb bb sb T p ∧ KeptG [rb, bb, sb] w wr)
  case atStart => exact ⟨0, Nat.zero_le _, rfl, World.ownsRow_nil _ _ _ _, hd, KeptG.refl _ _⟩
  case round =>
    obtain ⟨p, hp, rfl, hown, hdr, hkg⟩ := hrel
    have HP := hid hp
    obtain ⟨⟨prev, hs⟩, ⟨row, hb, hrow⟩, q, lb, lr, hq, hr⟩ := hdr
    obtain ⟨ao, cap, hv⟩ := own_form hown
    subst hv
    have hlt3 : ∀ b, b ∈ [rb, bb, sb] → b < w.heap.size := by simp; omega
    by_cases hf : p + 4096 ≤ l.length
    · have hEr : wr.cell? ⟨1, 0, none⟩ = some (.iface 97 (.pointer (some ab))) := by rw [World.cell?_of_block (w := w) (a := ⟨1, 0, none⟩) (hkg.block 1 (by omega) (by simp; omega))]; exact HE.out
      have hc := slice_full rb bb sb T p q hq prev lb lr row (by have := HS.out; omega) (by have := HS.out; omega) wr hs hb hr hn1 hn2 hn3 hrow (by have := HS.out; omega) 97 (.pointer (some ab)) hEr (by omega) (by omega) (by omega) (hL.full p hf)
      have hpb : wrap64 ((p : Int) + 4096) ≤ 131074 := by unfold wrap64; omega
      have HF := hid hf
      have HLen := hid hlen
      clear hf hlen hp
      have HC := hid hc
      have HRow := hid hrow
      have HW := hid hown
      clear hc hrow hs hb hr hown hEr
      go_wp2_with (first
        | (go_at_call 30; refine HC.out.mono ?_; rintro e w1 ⟨rfl, L1⟩)
        | (at_builtin; refine wpList_append_own _ rfl (.tmp 23) (.tmp 24) 37 rfl w.heap.size 5 i0 (.int .u8 0) 1 1 Tryd.underlying37 hi hz0 hz1 hz2 rfl (by decide) _ _ _ rfl (own_kept HW.out L1.kept hlt3) ⟨bb, 0, none⟩ 4096 4096 (Lib.byteCells ((T.data.toList.drop p).take 4096)) rfl ?c0 ?c1 ?c2 ?c3 ?c4 ?c5 ?_))
      case c0 => rw [Lib.byteCells_length]; have := HS.out; have := HF.out; have h5 := Lib.size_eq T; simp; omega
      case c1 => exact news_cells (put_shows L1.bf)
      case c2 => exact Lib.byteCells_one _
      case c3 => have := HF.out; have := HLen.out; unfold maxLen; omega
      case c4 => have := HF.out; have := HLen.out; omega
      case c5 => have := hkg.size; have := L1.kept.size; omega
      intro v' w2 ho hg _
      rw [take_step] at ho
      have hob := own_block HW.out
      have hdr2 := (L1.drained HRow.out (by omega)).grown hg (fun k hk => by have := hob k hk; omega)
      have hkg2 := (hkg.trans L1.kept.g).grown hg hob
      have hE2 : w2.cell? ⟨1, 0, none⟩ = some (.iface 97 (.pointer (some ab))) := by rw [World.cell?_of_block (w := w) (a := ⟨1, 0, none⟩) (hkg2.block 1 (by omega) (by simp; omega))]; exact HE.out
      have HD := hid hdr2
      have HK2 := hid hkg2
      have HO := hid ho
      clear hdr2 hkg2 ho hg hob L1
      have hq := eql_same ab
      go_wp2
      go_roundg (l.length + 1 - (p + 4096))
      case measure => have := HF.out; omega
      case rel => exact ⟨p + 4096, HF.out, rfl, HO.out, HD.out, HK2.out⟩
    · obtain ⟨m, hm⟩ : ∃ m, p + m = l.length := ⟨l.length - p, by omega⟩
      have hc := slice_found rb bb sb T p q hq prev lb lr row (by have := HS.out; omega) (by have := HS.out; omega) wr hs hb hr hn1 hn2 hn3 hrow m (by have := HS.out; omega) (hL.found p m hm)
      have hpb : ¬ (131074 < wrap64 ((p : Int) + ((m : Int) + 1))) := by unfold wrap64; omega
      have hm4 : m + 1 ≤ 4096 := by omega
      have HF := hid hf
      have HLen := hid hlen
      have HM := hid hm
      have HM4 := hid hm4
      clear hf hlen hp hm hm4
      have HC := hid hc
      have HRow := hid hrow
      have HW := hid hown
      clear hc hrow hs hb hr hown
      go_wp2_with (first
        | (go_at_call 30; refine HC.out.mono ?_; rintro e w1 ⟨rfl, L1⟩)
        | (at_builtin; refine wpList_append_own _ rfl (.tmp 23) (.tmp 24) 37 rfl w.heap.size 5 i0 (.int .u8 0) 1 1 Tryd.underlying37 hi hz0 hz1 hz2 rfl (by decide) _ _ _ rfl (own_kept HW.out L1.kept hlt3) ⟨bb, 0, none⟩ (m + 1) 4096 (Lib.byteCells ((T.data.toList.drop p).take (m + 1))) rfl ?c0 ?c1 ?c2 ?c3 ?c4 ?c5 ?_))
      case c0 => rw [Lib.byteCells_length]; have := HS.out; have := HM.out; have h5 := Lib.size_eq T; simp; omega
      case c1 => exact news_cells (put_shows L1.bf)
      case c2 => exact Lib.byteCells_one _
      case c3 => have := HM.out; have := HLen.out; unfold maxLen; omega
      case c4 => have := HM.out; have := HLen.out; omega
      case c5 => have := hkg.size; have := L1.kept.size; omega
      intro v' w2 ho hg _
      rw [take_step] at ho
      have hob := own_block HW.out
      have hdr2 := (L1.drained HRow.out (by exact HM4.out)).grown hg (fun k hk => by have := hob k hk; omega)
      have hkg2 := (hkg.trans L1.kept.g).grown hg hob
      have hE2 : w2.cell? ⟨1, 0, none⟩ = some (.iface 97 (.pointer (some ab))) := by rw [World.cell?_of_block (w := w) (a := ⟨1, 0, none⟩) (hkg2.block 1 (by omega) (by simp; omega))]; exact HE.out
      have e1 : p + (m + 1) = l.length + 1 := by have := HM.out; omega
      rw [e1, List.take_of_length_le (by have := HS.out; have h5 := Lib.size_eq T; omega)] at ho
      rw [e1, ← HS.out] at hdr2
      obtain ⟨g, cap', rfl, hgN, hgs, hgc, hsh⟩ := own_whole ho (by omega)
      obtain ⟨K, hK⟩ : ∃ K, l.length = K := ⟨_, rfl⟩
      rw [hK] at hgc ⊢
      have HD := hid hdr2
      have HK2 := hid hkg2
      have HKK := hid hK
      have HSh := hid hsh
      have HGc := hid hgc
      clear hdr2 hkg2 ho hg hob L1 e1 hK hsh hgc hpb
      have hq := eql_nil (.pointer (some ab))
      have kc := fun (w : World) (C : Array Value) (n c : Nat) => Lib.run_convert_bytes_const (P := Tryd.prog) w 37 5 C n c Tryd.underlying37 Tryd.underlying5
      go_wp2_with fail
      refine (trim_nl g cap' K w2.heap.size l _ HKK.out HGc.out (by have := HLen.out; have := HKK.out; omega) (by have := HSh.out; rw [hL.eq] at this; exact this.alloc _) (new_cell _ _ _ _)).mono ?_
      rintro e w3 ⟨rfl, hw3⟩
      have HD3 : Hid (Drained w3 rb bb sb T T.size) := by rw [hw3]; exact HD.out.alloc _
      have HK3 : Hid (KeptG [rb, bb, sb] w w3) := by rw [hw3]; exact HK2.out.alloc _
      have HSh3 : Hid (Shows w3 g 0 l) := by rw [hw3]; have := HSh.out; rw [hL.eq] at this; exact (this.alloc _).init
      clear hw3 HD HK2 HSh hE2 hq
      go_wp2_with fail
      refine (trim_cr g cap' K w3.heap.size l _ HKK.out (by have := HGc.out; omega) (by have := HLen.out; have := HKK.out; omega) hcr (HSh3.out.alloc _) (new_cell _ _ _ _)).mono ?_
      rintro e w4 ⟨rfl, hw4⟩
      have HD4 : Hid (Drained w4 rb bb sb T T.size) := by rw [hw4]; exact HD3.out.alloc _
      have HK4 : Hid (KeptG [rb, bb, sb] w w4) := by rw [hw4]; exact HK3.out.alloc _
      have HSh4 : Hid (Shows w4 g 0 l) := by rw [hw4]; exact HSh3.out.alloc _
      have hcv := run_convert_bytes_arg (P := Tryd.prog) w4 37 5 Tryd.underlying37 Tryd.underlying5 g 0 K cap' (l.map fun c => (c.toNat : Int)) (by simp; exact HKK.out) (by have := cells_of HSh4.out; simpa [HKK.out] using this) 9 Tryd.underlying9
      have hS : (strOfNums (l.map fun c => (c.toNat : Int))).data.toList = l := nums l
      have HSS := hid hS
      obtain ⟨S, hSe⟩ : ∃ S, strOfNums (l.map fun c => (c.toNat : Int)) = S := ⟨_, rfl⟩
      rw [hSe] at hcv
      have HSe := hid hSe
      have hKb : ¬ ((131072 : Int) < (K : Int)) := by have := HLen.out; have := HKK.out; omega
      clear hw4 HD3 HK3 HSh3 hS hSe kc
      go_wp2
      go_ret2
      exact ⟨S, rfl, by rw [← HSe.out]; exact HSS.out, HD4.out, HK4.out⟩

end Go.Proofs.Qxb6612416aDoor.line
