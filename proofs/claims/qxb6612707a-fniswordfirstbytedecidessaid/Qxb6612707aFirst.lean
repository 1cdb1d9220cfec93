import Derived.Test.Qxb6612707aWord
import Derived.Deep.OwnRows
import Derived.Lib.BufferWrite
import Derived.Lib.SlBuf
import Derived.Laws.CopyOwn
namespace Go.Proofs.Qxb6612707a.word
open Go.RowKit

theorem info5 : (Try.prog.info? 5).map (fun i => (i.zero, i.size, i.bytes)) = some (some (.int .u8 0), 1, 1) := by kernel_rfl
theorem size5 : (Try.prog.info? 5).map (·.size) = some 1 := by kernel_rfl

set_option maxHeartbeats 1000000 in
theorem bytes1_any (a : ByteArray) (ha : a.size ≤ maxLen) (w : World) :
    Calls Try.prog 9 #[.string a] w fun e w' => e = .returned (.bool (decide (a.size ≤ 1048576))) ∧ w' = w := by
  unfold maxLen at ha
  by_cases h1 : a.size ≤ 1048576
  all_goals
    go_enter Try.func9, Try.ntmps9
    go_wp2
    go_ret
    exact ⟨ret_bool (by simp; omega), rfl⟩

/-- how many of the first k bytes begin a word -/
def cntW : Nat → Int
  | 0 => 0
  | k + 1 => cntW k + if wordB (UInt8.ofNat k) = true then 1 else 0
theorem cntW_all : cntW 256 = 249 := by decide +kernel
theorem cntW_le (k : Nat) : 0 ≤ cntW k ∧ cntW k ≤ k := by
  induction k with
  | zero => exact ⟨by decide, by decide⟩
  | succ k ih => unfold cntW; split <;> omega

theorem hid {p : Prop} (h : p) : Hid p := h
theorem size1 : ∀ w, (Go.sizeOf 5).run Try.prog w = .ok 1 w := fun _ => by kernel_rfl

/-- 'buf[1:]' of a row of 1 + n bytes -/
theorem cut_one (b n : Nat) : ∃ o, (0 < n → o = 1) ∧ ∀ W, (Instr.slice 25 (.slice (some ⟨b, 0, none⟩) (1 + n) (1 + n)) (some (.int .i64 1)) none none).run Try.prog W = .ok (.slice (some ⟨b, o, none⟩) n n) W := by
  by_cases e : n = 0
  · subst e
    refine ⟨0, fun h => by omega, fun W => ?_⟩
    rw [run_slice_l W 25 (some ⟨b, 0, none⟩) (1 + 0) (1 + 0) Try.underlying25 .i64 1 (by omega) (by omega)]
    show (Sem.run Try.prog (Go.sizeOf 5) W).andThen _ = _
    rw [size1]
    simp [Result.andThen, sliced]
  · refine ⟨1, fun h => rfl, fun W => ?_⟩
    rw [run_slice_l W 25 (some ⟨b, 0, none⟩) (1 + n) (1 + n) Try.underlying25 .i64 1 (by omega) (by omega)]
    show (Sem.run Try.prog (Go.sizeOf 5) W).andThen _ = _
    rw [size1]
    simp [Result.andThen, sliced, e, Addr.add]

/-- the bytes of the row behind the copy -/
def rowOf (k : Nat) (a : ByteArray) : List Int := (k : Int) :: a.data.toList.map fun c => (c.toNat : Int)
theorem rowOf_length (k : Nat) (a : ByteArray) : (rowOf k a).length = 1 + a.size := by
  have : a.size = a.data.toList.length := by simp
  simp [rowOf]; omega

theorem copied0 (W : World) (b k : Nat) (cur : Array Value) (a : ByteArray) (o : Nat) (ho : 0 < a.size → o = 1) (hh : W.heap[b]? = some (.cells cur 5 (0, 0))) (hs : cur.size = 1 + a.size) (h0 : cur[0]? = some (.int .u8 (k : Int))) :
    ∃ w', (Builtin.copy_ #[25, 9] 3 #[.slice (some ⟨b, o, none⟩) a.size a.size, .string a]).run Try.prog W = .ok (.int .i64 (a.size : Int)) w' ∧
      (∀ i, i < 1 + a.size → w'.cell? ⟨b, 0 + i, none⟩ = some (.int .u8 ((rowOf k a).getD i 0))) ∧ Below b W w' := by
  have hsz : a.size = a.data.toList.length := by simp
  by_cases e : a.size = 0
  · refine ⟨W, Lib.run_copy_empty_string _ 25 9 3 5 _ _ _ a Try.underlying25 (by rw [size5]; rfl) e |>.trans (by rw [e]; rfl), fun i hi => ?_, Below.refl _ _⟩
    obtain rfl : i = 0 := by omega
    rw [cell_of_row _ _ _ _ _ _ hh, h0]
    rfl
  · obtain rfl := ho (by omega)
    refine ⟨_, Lib.run_copy_row_string _ 25 9 3 5 b 1 a.size a.size a cur 5 Try.underlying25 size5 hh (Nat.le_refl _) (by omega) |>.trans rfl, fun i hi => ?_, below_setRow (Below.refl _ _) (Nat.le_refl _) _⟩
    have hlist : ∃ x r, cur.toList = x :: r := by
      cases hc : cur.toList with
      | nil => have := congrArg List.length hc; rw [Array.length_toList, hs] at this; exact absurd this (by simp)
      | cons x r => exact ⟨x, r, rfl⟩
    obtain ⟨x, r, hx⟩ := hlist
    have hx0 : x = .int .u8 (k : Int) := by
      have := h0
      rw [← Array.getElem?_toList, hx] at this
      simpa using this
    have hrl : r.length = a.size := by
      have := congrArg List.length hx
      rw [Array.length_toList] at this
      simp at this
      omega
    rw [cell_of_row _ _ _ _ _ _ (setRow_heap W b cur _ 5 _ hh), hx, hx0, List.drop_of_length_le (by simp; omega)]
    cases i with
    | zero => simp [rowOf]
    | succ j =>
      have hj : j < a.data.size := by have := a.data.length_toList; omega
      simp [rowOf, Lib.byteCells, Array.getElem?_eq_getElem hj]

theorem made_zero (n : Nat) : (madeCells #[Value.int .u8 0] (1 + n))[0]? = some (.int .u8 0) := by
  unfold madeCells
  rw [Array.getElem?_map, Array.getElem?_range, if_pos (by omega)]
  rfl
theorem made_first (n : Nat) (v : Value) : ((madeCells #[Value.int .u8 0] (1 + n)).setIfInBounds 0 v)[0]? = some v := by
  rw [Array.getElem?_setIfInBounds]
  have : 0 < (madeCells #[Value.int .u8 0] (1 + n)).size := by rw [size_madeCells]; omega
  simp [this]
theorem copied (w : World) (k : Nat) (a : ByteArray) (o : Nat) (ho : 0 < a.size → o = 1) :
    ∃ w', (Builtin.copy_ #[25, 9] 3 #[.slice (some ⟨w.heap.size, o, none⟩) a.size a.size, .string a]).run Try.prog (w.alloc (.cells ((madeCells #[.int .u8 0] (1 + a.size)).setIfInBounds 0 (.int .u8 (k : Int))) 5)) = .ok (.int .i64 (a.size : Int)) w' ∧
      (∀ i, i < 1 + a.size → w'.cell? ⟨w.heap.size, 0 + i, none⟩ = some (.int .u8 ((rowOf k a).getD i 0))) ∧ Below w.heap.size w w' := by
  obtain ⟨w', h1, h2, h3⟩ := copied0 (w.alloc (.cells ((madeCells #[.int .u8 0] (1 + a.size)).setIfInBounds 0 (.int .u8 (k : Int))) 5)) w.heap.size k _ a o ho (heap_alloc_new w _) (by simp [madeCells]) (made_first _ _)
  exact ⟨w', h1, h2, ((Below.refl _ _).alloc (Nat.le_refl _) _).trans h3⟩

theorem made_cell (w : World) (n : Nat) : (w.alloc (.cells (madeCells #[Value.int .u8 0] (1 + n)) 5)).cell? ⟨w.heap.size, 0, none⟩ = some (.int .u8 0) := by
  rw [cell_of_row _ _ _ _ _ _ (heap_alloc_new w _)]
  exact made_zero n
theorem made_free (w : World) (n : Nat) : (w.alloc (.cells (madeCells #[Value.int .u8 0] (1 + n)) 5)).frozen? ⟨w.heap.size, 0, none⟩ = false := frozen_of_row _ _ _ _ _ (heap_alloc_new w _)

/-- the two texts, and their first byte -/
theorem texts (w' : World) (b k : Nat) (a : ByteArray) (hc : ∀ i, i < 1 + a.size → w'.cell? ⟨b, 0 + i, none⟩ = some (.int .u8 ((rowOf k a).getD i 0))) :
    ∃ s t : ByteArray, (convert 25 9 (.slice (some ⟨b, 0, none⟩) 1 (1 + a.size))).run Try.prog w' = .ok (.string s) w' ∧ (convert 25 9 (.slice (some ⟨b, 0, none⟩) (1 + a.size) (1 + a.size))).run Try.prog w' = .ok (.string t) w' ∧
      ∃ (hs : 0 < s.size) (ht : 0 < t.size), s[0] = UInt8.ofNat k ∧ t[0] = UInt8.ofNat k := by
  refine ⟨strOfNums [(k : Int)], strOfNums (rowOf k a), run_convert_bytes_arg (P := Try.prog) w' 25 5 Try.underlying25 Try.underlying5 b 0 1 (1 + a.size) [(k : Int)] rfl (fun i hi => ?_) 9 Try.underlying9,
    run_convert_bytes_arg (P := Try.prog) w' 25 5 Try.underlying25 Try.underlying5 b 0 (1 + a.size) (1 + a.size) (rowOf k a) (rowOf_length k a) hc 9 Try.underlying9, by rw [strOfNums_size]; simp, by rw [strOfNums_size, rowOf_length]; omega, ?_, ?_⟩
  · obtain rfl : i = 0 := by omega
    rw [hc 0 (by omega)]
    rfl
  · simp [strOfNums, ByteArray.getElem_eq_getElem_data]
  · simp [strOfNums, ByteArray.getElem_eq_getElem_data, rowOf]

set_option maxHeartbeats 1000000 in
theorem first (a : ByteArray) (ha : a.size ≤ maxLen) (w : World) (h1 : a.size ≤ 65536) :
    Calls Try.prog 4 #[.string a] w fun e w' => e = .returned (.bool true) ∧ Below w.heap.size w w' := by
  have hB : decide (a.size ≤ 1048576) = true := by simp; omega
  go_enter Try.func4, Try.ntmps4
  go_wp2_with (go_at_call 9; refine (bytes1_any _ ha _).mono ?_; rintro e w' ⟨rfl, hw⟩; have hw2 := hw.symm; subst hw2; rw [hB])
  go_loopw [3, 4] (fun n i wr => ∃ k : Nat, k ≤ 256 ∧ i = .int .i64 k ∧ n = .int .i64 (cntW k) ∧ Below w.heap.size w wr) (fun _ i _ => 256 - (intOf i).toNat)
  case atStart => exact ⟨0, Nat.zero_le _, rfl, rfl, Below.refl _ _⟩
  case round =>
    obtain ⟨k, hk, rfl, rfl, hb⟩ := hrel
    have hcn := cntW_le k
    obtain ⟨c, hc⟩ : ∃ c, cntW k = c := ⟨_, rfl⟩
    rw [hc] at hcn
    rw [hc]
    have HC := hid hc
    clear hc
    obtain ⟨hc1, hc2⟩ := hcn
    by_cases hlt : k < 256
    · have hlt' : (k : Int) < 256 := by omega
      have hmk := run_make_row' (P := Try.prog) 25 5 (.int .u8 0) 1 Try.underlying25 info5 rfl .i64 .i64 (1 + a.size) (by omega) (by omega)
      have ec : ((1 + a.size : Nat) : Int) = 1 + (a.size : Int) := by omega
      rw [ec] at hmk
      clear ec
      have mc := made_cell wr a.size
      have mf := made_free wr a.size
      obtain ⟨o, ho, hcut⟩ := cut_one wr.heap.size a.size
      obtain ⟨w1, hcopy, hcells, hbel⟩ := copied wr k a o ho
      obtain ⟨s, t, hs1, ht1, hs, ht, es, et⟩ := texts w1 wr.heap.size k a hcells
      have HB : Hid (Below w.heap.size w w1) := hb.trans (hbel.mono hb.size)
      have HN : Hid (cntW (k + 1) = c + if wordB (UInt8.ofNat k) = true then 1 else 0) := by
        show cntW (k + 1) = _
        rw [← HC.out]; rfl
      have zs := z_any s hs w1
      have zt := z_any t ht w1
      rw [es] at zs
      rw [et] at zt
      clear ho hcells hbel hb HC es et
      cases hx : wordB (UInt8.ofNat k)
      · rw [hx] at zs zt
        have ZS := hid zs
        have ZT := hid zt
        clear zs zt
        go_wp2_with (first
          | (go_at_call_of 7 (Value.string s); refine ZS.out.mono ?_; rintro e w' ⟨rfl, hw⟩; have hw2 := hw.symm; subst hw2)
          | (go_at_call_of 7 (Value.string t); refine ZT.out.mono ?_; rintro e w' ⟨rfl, hw⟩; have hw2 := hw.symm; subst hw2))
        go_roundw
        case rel => exact ⟨k + 1, by omega, by go_num, by rw [HN.out, hx]; simp, HB.out⟩
        case measure => simp [intOf]; omega
      · rw [hx] at zs zt
        have ZS := hid zs
        have ZT := hid zt
        clear zs zt
        go_wp2_with (first
          | (go_at_call_of 7 (Value.string s); refine ZS.out.mono ?_; rintro e w' ⟨rfl, hw⟩; have hw2 := hw.symm; subst hw2)
          | (go_at_call_of 7 (Value.string t); refine ZT.out.mono ?_; rintro e w' ⟨rfl, hw⟩; have hw2 := hw.symm; subst hw2))
        go_roundw
        case rel => exact ⟨k + 1, by omega, by go_num, by rw [HN.out, hx]; simp, HB.out⟩
        case measure => simp [intOf]; omega
    · obtain rfl : k = 256 := by omega
      have hc := HC.out
      rw [cntW_all] at hc
      subst hc
      have HB := hid hb
      clear hb HC
      go_wp2_with (go_at_call 7; refine (z_void _ rfl _).mono ?_; rintro e w' ⟨rfl, hw⟩; have hw2 := hw.symm; subst hw2)
      go_ret
      exact ⟨rfl, HB.out⟩

set_option maxHeartbeats 1000000 in
theorem first_long (a : ByteArray) (ha : a.size ≤ maxLen) (w : World) (h1 : 65536 < a.size) :
    Calls Try.prog 4 #[.string a] w fun e w' => e = .returned (.bool true) ∧ Below w.heap.size w w' := by
  cases hB : decide (a.size ≤ 1048576)
  all_goals
    go_enter Try.func4, Try.ntmps4
    go_wp2_with (go_at_call 9; refine (bytes1_any _ ha _).mono ?_; rintro e w' ⟨rfl, hw⟩; have hw2 := hw.symm; subst hw2; rw [hB])
    go_ret
    exact ⟨rfl, Below.refl _ _⟩

theorem first_any (a : ByteArray) (ha : a.size ≤ maxLen) (w : World) :
    Calls Try.prog 4 #[.string a] w fun e w' => e = .returned (.bool true) ∧ Below w.heap.size w w' := by
  by_cases h : a.size ≤ 65536
  · exact first a ha w h
  · exact first_long a ha w (by omega)

end Go.Proofs.Qxb6612707a.word
