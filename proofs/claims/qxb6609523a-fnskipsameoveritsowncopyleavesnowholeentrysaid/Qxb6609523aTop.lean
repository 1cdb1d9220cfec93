import Derived.Test.Qxb6609523aSkip
import Derived.Deep.RegionWith
namespace Go.Proofs.Qxb6609523a.tree
open Go.RowKit

set_option maxHeartbeats 400000 in
theorem rest_any (b : Nat) (a : Option Addr) (n c : Nat) (m : Int) (w : World) (h : Scan w b (.slice a n c) m) :
    Calls Try.prog 10 #[.pointer (some ⟨b, 0, none⟩)] w fun e w' => e = .returned (.slice a n c) ∧ w' = w := by
  have c1 := h.rest
  clear h
  go_enter Try.func10, Try.ntmps10
  go_wp2
  go_ret
  exact ⟨rfl, rfl⟩

set_option maxHeartbeats 400000 in
theorem n_any (b : Nat) (v : Value) (m : Int) (w : World) (h : Scan w b v m) :
    Calls Try.prog 11 #[.pointer (some ⟨b, 0, none⟩)] w fun e w' => e = .returned (.int .i64 m) ∧ w' = w := by
  have c1 := h.count
  clear h
  go_enter Try.func11, Try.ntmps11
  go_wp2
  go_ret
  exact ⟨rfl, rfl⟩

theorem two_alloc (w : World) (v : Value) : Scan ((w.alloc (.cells (cellsOf v (.int .i64 0)) 34)).alloc (.cells (cellsOf v (.int .i64 0)) 34)) (w.heap.size + 1) v 0 ∧
    Below w.heap.size w ((w.alloc (.cells (cellsOf v (.int .i64 0)) 34)).alloc (.cells (cellsOf v (.int .i64 0)) 34)) ∧ ((w.alloc (.cells (cellsOf v (.int .i64 0)) 34)).alloc (.cells (cellsOf v (.int .i64 0)) 34)).heap.size = w.heap.size + 2 :=
  ⟨heap_alloc2_new w _ _, ((Below.refl _ _).alloc (Nat.le_refl _) _).alloc (by simp) _, by simp⟩
theorem Scan.below {w w' : World} {b B : Nat} {v : Value} {m : Int} (h : Scan w b v m) (hb : Below B w w') (hlt : b < B) : Scan w' b v m := by
  unfold Scan; rw [hb.block b hlt]; exact h
theorem cut_tail (A n k r : Nat) (h : k + r = n) : ∃ o, (0 < r → o = k) ∧ ∀ W, (Instr.slice 22 (.slice (some ⟨A, 0, none⟩) n n) (some (.int .i64 (k : Int))) none none).run Try.prog W = .ok (.slice (some ⟨A, o, none⟩) r r) W := by
  have hz : ∀ w, (Go.sizeOf 5).run Try.prog w = .ok 1 w := fun _ => by kernel_rfl
  by_cases e : n = k
  · refine ⟨0, fun h => by omega, fun W => ?_⟩
    rw [run_slice_l W 22 (some ⟨A, 0, none⟩) n n Try.underlying22 .i64 (k : Int) (by omega) (by omega)]
    obtain rfl : r = 0 := by omega
    subst e
    show (Sem.run Try.prog (Go.sizeOf 5) W).andThen _ = _
    rw [hz]
    simp [Result.andThen, sliced]
  · refine ⟨k, fun h => rfl, fun W => ?_⟩
    rw [run_slice_l W 22 (some ⟨A, 0, none⟩) n n Try.underlying22 .i64 (k : Int) (by omega) (by omega)]
    obtain rfl : r = n - k := by omega
    show (Sem.run Try.prog (Go.sizeOf 5) W).andThen _ = _
    rw [hz]
    have e2 : (⟨A, 0, none⟩ : Addr).add k = ⟨A, k, none⟩ := by unfold Addr.add; split <;> simp_all
    simp [Result.andThen, sliced, e, e2]
theorem none_at {l : List UInt8} (h : Lib.indexByte l 0 = -1) (i : Nat) (hi : i < l.length) : ((l[i].toNat : Int) == 0) = false := by
  have := Lib.indexByte_none h i
  rw [List.getElem?_eq_getElem hi] at this
  have h2 : l[i] ≠ 0 := fun e => this (by rw [e])
  have h3 : l[i].toNat ≠ 0 := fun e => h2 (UInt8.toNat_inj.mp (by simpa using e))
  simp; omega
theorem some_at {l : List UInt8} {j : Nat} (h : Lib.indexByte l 0 = j) : ∃ hj : j < l.length, (((l[j]'hj).toNat : Int) == 0) = true := by
  have h1 := (Lib.indexByte_some h).1
  obtain ⟨hj, e⟩ := List.getElem?_eq_some_iff.1 h1
  exact ⟨hj, by rw [e]; rfl⟩
theorem some_before {l : List UInt8} {j : Nat} (h : Lib.indexByte l 0 = j) (i : Nat) (hi : i < l.length) (hj : i < j) : ((l[i].toNat : Int) == 0) = false := by
  have := (Lib.indexByte_some h).2 i hj
  rw [List.getElem?_eq_getElem hi] at this
  have h2 : l[i] ≠ 0 := fun e => this (by rw [e])
  have h3 : l[i].toNat ≠ 0 := fun e => h2 (UInt8.toNat_inj.mp (by simpa using e))
  simp; omega
theorem row_shows {w : World} {b n : Nat} {l : List UInt8} (h : w.rowIs b 5 n (fun i => .int .u8 ((l.map fun c => (c.toNat : Int)).getD i 0))) (hn : l.length = n) : Shows w b 0 l := by
  intro i hi
  rw [Nat.zero_add, h.cell (by omega)]
  simp [List.getD, hi]

set_option maxHeartbeats 1000000 in
theorem top (x : Addr) (n c : Nat) (l : List UInt8) (w : World) (hn : l.length = n) (hle : n ≤ 1048576) (hc : ∀ i (h : i < l.length), w.cell? (x.add i) = some (.int .u8 (l[i].toNat : Int))) :
    Calls Try.prog 3 #[.slice (some x) n c] w fun e w' => e = .returned (.bool true) ∧ Below w.heap.size w w' := by
  have hB : decide (n ≤ 1048576) = true := by simp; omega
  go_enter Try.func3, Try.ntmps3
  go_wp2_with (go_at_call 6; refine (bytes_any _ _ _ (by unfold maxLen; omega) _).mono ?_; rintro e w' ⟨rfl, hw⟩; have hw2 := hw.symm; subst hw2; rw [hB])
  refine (clone_any x n c (fun i => ((l.map fun c => (c.toNat : Int)).getD i 0)) w hle (fun i hi => by rw [hc i (by omega)]; simp [List.getD, hn, hi])).mono ?_
  rintro e w1 ⟨rfl, r1, b1, s1⟩
  have S1 := hid s1
  clear s1
  go_wp2_with fail
  refine (clone_any ⟨w.heap.size, 0, none⟩ n n (fun i => ((l.map fun c => (c.toNat : Int)).getD i 0)) w1 hle (fun i hi => by
    have e : (⟨w.heap.size, 0, none⟩ : Addr).add i = ⟨w.heap.size, i, none⟩ := by unfold Addr.add; split <;> simp_all
    rw [e]; exact r1.cell hi)).mono ?_
  rintro e w2 ⟨rfl, r2, b2, s2⟩
  have S2 := hid s2
  clear s2
  go_wp2_with fail
  refine (new_any _ _ _ _).mono ?_
  rintro e w3 ⟨rfl, rfl⟩
  go_wp2_with (refine wpList_store_row rfl 34 (.tmp 4) (.tmp 23) rfl (w2.heap.size + 1) _ rfl rfl 34 _ (heap_alloc2_new w2 _ _) size34 rfl (one_cellsOf _ _ _ _) ?_; rw [show w2.heap.size + 1 = (w2.alloc (Obj.cells (cellsOf (Value.slice (some ⟨w.heap.size, 0, none⟩) n n) (.int .i64 0)) 34)).heap.size from by simp, World.setRow_alloc_new])
  have T1 := two_alloc w2 (.slice (some ⟨w.heap.size, 0, none⟩) n n)
  generalize ((w2.alloc (.cells (cellsOf (.slice (some ⟨w.heap.size, 0, none⟩) n n) (.int .i64 0)) 34)).alloc (.cells (cellsOf (.slice (some ⟨w.heap.size, 0, none⟩) n n) (.int .i64 0)) 34)) = w3 at T1 ⊢
  refine (new_any _ _ _ _).mono ?_
  rintro e w3' ⟨rfl, rfl⟩
  have HT1 := hid T1
  clear T1
  go_wp2_with (refine wpList_store_row rfl 34 (.tmp 5) (.tmp 25) rfl (w3.heap.size + 1) _ rfl rfl 34 _ (heap_alloc2_new w3 _ _) size34 rfl (one_cellsOf _ _ _ _) ?_; rw [show w3.heap.size + 1 = (w3.alloc (Obj.cells (cellsOf (Value.slice (some ⟨w1.heap.size, 0, none⟩) n n) (.int .i64 0)) 34)).heap.size from by simp, World.setRow_alloc_new])
  have T2 := two_alloc w3 (.slice (some ⟨w1.heap.size, 0, none⟩) n n)
  generalize ((w3.alloc (.cells (cellsOf (.slice (some ⟨w1.heap.size, 0, none⟩) n n) (.int .i64 0)) 34)).alloc (.cells (cellsOf (.slice (some ⟨w1.heap.size, 0, none⟩) n n) (.int .i64 0)) 34)) = w4 at T2 ⊢
  obtain ⟨sc1, bl3, sz3⟩ := HT1.out
  obtain ⟨sc2, bl4, sz4⟩ := T2
  have s1 := S1.out
  have s2 := S2.out
  have shA : Shows w4 w.heap.size 0 l := (row_shows r1 hn).kept ((bl4.block _ (by omega)).trans ((bl3.block _ (by omega)).trans (b2.block _ (by omega))))
  have shB : Shows w4 w1.heap.size 0 l := (row_shows r2 hn).kept ((bl4.block _ (by omega)).trans (bl3.block _ (by omega)))
  have sc1' : Scan w4 (w2.heap.size + 1) (.slice (some ⟨w.heap.size, 0, none⟩) n n) 0 := sc1.below bl4 (by omega)
  have bel : Below w.heap.size w w4 := b1.trans ((b2.mono (by omega)).trans ((bl3.mono (by omega)).trans (bl4.mono (by omega))))
  obtain ⟨A, hA⟩ : ∃ A, w.heap.size = A := ⟨_, rfl⟩
  obtain ⟨B, hBB⟩ : ∃ B, w1.heap.size = B := ⟨_, rfl⟩
  obtain ⟨bs, hbs⟩ : ∃ b, w2.heap.size + 1 = b := ⟨_, rfl⟩
  obtain ⟨bo, hbo⟩ : ∃ b, w3.heap.size + 1 = b := ⟨_, rfl⟩
  rw [hA] at shA bel sc1'
  rw [hBB] at shB sc2
  rw [hbs] at sc1'
  rw [hbo] at sc2
  rw [hA, hBB, hbs, hbo]
  have n1 : bs ≠ bo := by omega
  have n2 : A ≠ bs := by omega
  have n3 : A ≠ bo := by omega
  have n4 : B ≠ bs := by omega
  have n5 : B ≠ bo := by omega
  have n6 : A ≤ bs := by omega
  have n7 : A ≤ bo := by omega
  clear r1 b1 r2 b2 HT1 sc1 bl3 sz3 bl4 sz4 s1 s2 S1 S2 hBB hbs hbo hc hB
  have HA := hid hA
  clear hA
  refine (skip_any bs bo A B l (by omega) 0 0 0 0 w4 n1 n2 n3 n4 n5 shA shB (Nat.zero_le _) (fun _ => rfl) (fun _ => rfl) (Nat.le_refl 0) (by rw [hn]; exact sc1') (by rw [hn]; exact sc2)).mono ?_
  rintro e w5 ⟨rfl, k, r, m, o1, o2, O⟩
  have HN := hid hn
  have q1 : k + r = n := by have := O.len; omega
  have q2 : 21 * m ≤ k := by have := O.by21; omega
  have q3 : m = 0 → k = 0 := fun h => O.zero h
  have q4 : r ≤ n := by omega
  have q5 : ((n : Int) - (r : Int)) = (k : Int) := by omega
  have HQ1 := hid q1
  have hmk : ((m : Int) == 0) = ((k : Int) == 0) := by
    rw [Bool.eq_iff_iff]; simp; exact ⟨q3, fun h => by omega⟩
  have HQ3 := hid q3
  have shA5 : Shows w5 A 0 l := shA.kept (O.kept.block A n2 n3)
  have shB5 : Shows w5 B 0 l := shB.kept (O.kept.block B n4 n5)
  obtain ⟨oA, hoA, ksA⟩ := cut_tail A n k r q1
  obtain ⟨oB, hoB, ksB⟩ := cut_tail B n k r q1
  have dA : Shows w5 A oA (l.drop k) := shA5.tail (fun h => hoA (by omega))
  have dB : Shows w5 B oB (l.drop k) := shB5.tail (fun h => hoB (by omega))
  have eA : Shows w5 A o1 (l.drop k) := shA5.tail (fun h => O.at1 (by omega))
  have eB : Shows w5 B o2 (l.drop k) := shB5.tail (fun h => O.at2 (by omega))
  have hdl : (l.drop k).length = r := by simp; omega
  have HD := hid hdl
  clear shA shB sc1' sc2 hn q1 q3 hdl hoA hoB
  go_wp2_with (first
    | (go_at_call_of 10 (Value.pointer (some ⟨bs, 0, none⟩)); refine (rest_any bs _ _ _ _ _ O.sc).mono ?_; rintro e w' ⟨rfl, hw⟩; have hw2 := hw.symm; subst hw2)
    | (go_at_call_of 10 (Value.pointer (some ⟨bo, 0, none⟩)); refine (rest_any bo _ _ _ _ _ O.oc).mono ?_; rintro e w' ⟨rfl, hw⟩; have hw2 := hw.symm; subst hw2)
    | (go_at_call_of 11 (Value.pointer (some ⟨bs, 0, none⟩)); refine (n_any bs _ _ _ O.sc).mono ?_; rintro e w' ⟨rfl, hw⟩; have hw2 := hw.symm; subst hw2)
    | (go_at_call_of 11 (Value.pointer (some ⟨bo, 0, none⟩)); refine (n_any bo _ _ _ O.oc).mono ?_; rintro e w' ⟨rfl, hw⟩; have hw2 := hw.symm; subst hw2))
  refine (same_any A o1 r A oA r r (l.drop k) w5 (by omega) HD.out eA dA).mono ?_
  rintro e w6 ⟨rfl, qq, hqq⟩
  subst hqq
  go_wp2_with fail
  refine (same_any B o2 r B oB r r (l.drop k) (w5.drewN qq) (by omega) HD.out eB dB).mono ?_
  rintro e w6 ⟨rfl, qq2, hqq⟩
  subst hqq
  go_wp2_with fail
  have hr20 : r ≤ 1048576 := by omega
  have hk20 : k ≤ 1048576 := by have := HQ1.out; omega
  obtain ⟨j, hj⟩ : ∃ j : Int, Lib.indexByte (l.drop k) 0 = j := ⟨_, rfl⟩
  have hjb := idx_bounds (l.drop k) 0
  rw [hj, HD.out] at hjb
  obtain ⟨hj1, hj2⟩ := hjb
  have hdone : ¬ (0 ≤ j ∧ j + 21 ≤ (r : Int)) := fun h => O.done ⟨by rw [hj]; exact h.1, by rw [hj, show l.length - k = r from by have := HD.out; simpa using this]; exact h.2⟩
  have HJ := hid hj
  clear hj ksA ksB
  have hlk : l.length - k = r := by have := HN.out; have := HQ1.out; omega
  by_cases hneg : j < 0
  · obtain rfl : j = -1 := by omega
    go_loop [10, 11] (fun nul i => ∃ t : Nat, t ≤ r ∧ i = .int .i64 t ∧ nul = .int .i64 (-1)) (fun _ i => r - (intOf i).toNat)
    case atStart => exact ⟨0, Nat.zero_le _, rfl, rfl⟩
    case round =>
      obtain ⟨t, ht, rfl, rfl⟩ := hrel
      by_cases hlt : t < r
      · have hlt' : (t : Int) < (r : Int) := by omega
        obtain ⟨z, hz, hz0⟩ : ∃ z : Int, w5.cell? ⟨A, o1 + t, none⟩ = some (.int .u8 z) ∧ (z == 0) = false := ⟨_, eA t (by rw [HD.out]; exact hlt), none_at HJ.out t (by rw [HD.out]; exact hlt)⟩
        go_wp2
        go_round
        case rel => exact ⟨t + 1, by omega, by go_num, rfl⟩
        case measure => simp [intOf]; omega
      · go_wp2_with fail
        refine (skip_any bs bo A B l (by have := HN.out; omega) k m o1 o2 (w5.drewN (qq + qq2)) n1 n2 n3 n4 n5 shA5 shB5 (by have := HN.out; have := HQ1.out; omega) (fun h => O.at1 (by have := HN.out; have := HQ1.out; omega)) (fun h => O.at2 (by have := HN.out; have := HQ1.out; omega)) (by omega) (by rw [hlk]; exact O.sc) (by rw [hlk]; exact O.oc)).mono ?_
        rintro e w6 ⟨rfl, k', r', m', o1', o2', O2⟩
        obtain ⟨ek, em⟩ := O2.stuck O.done
        have er : r' = r := by have := O2.len; have := O.len; omega
        subst ek em er
        have fin : Below w.heap.size w w6 := by
          have h6 := HA.out
          rw [h6]
          exact bel.trans ((O.kept.below n6 n7).trans ((below_drewN (Below.refl _ _) _).trans (O2.kept.below n6 n7)))
        have sc6 := O2.sc
        have oc6 := O2.oc
        clear O2 O
        go_wp2_with (first
          | (go_at_call_of 10 (Value.pointer (some ⟨bs, 0, none⟩)); refine (rest_any bs _ _ _ _ _ sc6).mono ?_; rintro e w' ⟨rfl, hw⟩; have hw2 := hw.symm; subst hw2)
          | (go_at_call_of 10 (Value.pointer (some ⟨bo, 0, none⟩)); refine (rest_any bo _ _ _ _ _ oc6).mono ?_; rintro e w' ⟨rfl, hw⟩; have hw2 := hw.symm; subst hw2)
          | (go_at_call_of 11 (Value.pointer (some ⟨bs, 0, none⟩)); refine (n_any bs _ _ _ sc6).mono ?_; rintro e w' ⟨rfl, hw⟩; have hw2 := hw.symm; subst hw2)
          | (go_at_call_of 11 (Value.pointer (some ⟨bo, 0, none⟩)); refine (n_any bo _ _ _ oc6).mono ?_; rintro e w' ⟨rfl, hw⟩; have hw2 := hw.symm; subst hw2))
        go_ret
        exact ⟨rfl, fin⟩
  · obtain ⟨j, rfl⟩ : ∃ i : Nat, j = i := ⟨j.toNat, by omega⟩
    have hbig : r < j + 21 := by omega
    have hjr : j < r := by omega
    clear hdone hj1 hj2 hneg
    go_loop [10, 11] (fun nul i => ∃ t : Nat, t ≤ j ∧ i = .int .i64 t ∧ nul = .int .i64 (-1)) (fun _ i => r - (intOf i).toNat)
    case atStart => exact ⟨0, Nat.zero_le _, rfl, rfl⟩
    case round =>
      obtain ⟨t, ht, rfl, rfl⟩ := hrel
      have hlt' : (t : Int) < (r : Int) := by omega
      by_cases hlt : t < j
      · obtain ⟨z, hz, hz0⟩ : ∃ z : Int, w5.cell? ⟨A, o1 + t, none⟩ = some (.int .u8 z) ∧ (z == 0) = false := ⟨_, eA t (by rw [HD.out]; omega), some_before HJ.out t (by rw [HD.out]; omega) hlt⟩
        go_wp2
        go_round
        case rel => exact ⟨t + 1, by omega, by go_num, rfl⟩
        case measure => simp [intOf]; omega
      · obtain rfl : t = j := by omega
        obtain ⟨hj0, hz0⟩ := some_at HJ.out
        obtain ⟨z, hz, hz0⟩ : ∃ z : Int, w5.cell? ⟨A, o1 + t, none⟩ = some (.int .u8 z) ∧ (z == 0) = true := ⟨_, eA t hj0, hz0⟩
        go_wp2_with fail
        refine (skip_any bs bo A B l (by have := HN.out; omega) k m o1 o2 (w5.drewN (qq + qq2)) n1 n2 n3 n4 n5 shA5 shB5 (by have := HN.out; have := HQ1.out; omega) (fun h => O.at1 (by have := HN.out; have := HQ1.out; omega)) (fun h => O.at2 (by have := HN.out; have := HQ1.out; omega)) (by omega) (by rw [hlk]; exact O.sc) (by rw [hlk]; exact O.oc)).mono ?_
        rintro e w6 ⟨rfl, k', r', m', o1', o2', O2⟩
        obtain ⟨ek, em⟩ := O2.stuck O.done
        have er : r' = r := by have := O2.len; have := O.len; omega
        subst ek em er
        have fin : Below w.heap.size w w6 := by
          have h6 := HA.out
          rw [h6]
          exact bel.trans ((O.kept.below n6 n7).trans ((below_drewN (Below.refl _ _) _).trans (O2.kept.below n6 n7)))
        have sc6 := O2.sc
        have oc6 := O2.oc
        clear O2 O
        go_wp2_with (first
          | (go_at_call_of 10 (Value.pointer (some ⟨bs, 0, none⟩)); refine (rest_any bs _ _ _ _ _ sc6).mono ?_; rintro e w' ⟨rfl, hw⟩; have hw2 := hw.symm; subst hw2)
          | (go_at_call_of 10 (Value.pointer (some ⟨bo, 0, none⟩)); refine (rest_any bo _ _ _ _ _ oc6).mono ?_; rintro e w' ⟨rfl, hw⟩; have hw2 := hw.symm; subst hw2)
          | (go_at_call_of 11 (Value.pointer (some ⟨bs, 0, none⟩)); refine (n_any bs _ _ _ sc6).mono ?_; rintro e w' ⟨rfl, hw⟩; have hw2 := hw.symm; subst hw2)
          | (go_at_call_of 11 (Value.pointer (some ⟨bo, 0, none⟩)); refine (n_any bo _ _ _ oc6).mono ?_; rintro e w' ⟨rfl, hw⟩; have hw2 := hw.symm; subst hw2))
        go_ret
        exact ⟨rfl, fin⟩

end Go.Proofs.Qxb6609523a.tree
