import Derived.Test.Qxb6609523aTop
namespace Go.Proofs.Qxb6609523a.tree
open Go.RowKit

set_option maxHeartbeats 1000000 in
theorem same_nil (w : World) : Calls Try.prog 12 #[.slice none 0 0, .slice none 0 0] w fun e w' => e = .returned (.bool true) ∧ w' = w := by
  go_enter Try.func12, Try.ntmps12
  go_wp2
  go_loop [5] (fun i => i = .int .i64 0) (fun _ => 0)
  case atStart => rfl
  case round =>
    subst hrel
    go_wp2
    go_ret
    exact ⟨rfl, rfl⟩

set_option maxHeartbeats 1000000 in
theorem skip_nil (bs bo : Nat) (w : World) (hne : bs ≠ bo) (hs : Scan w bs (.slice none 0 0) 0) (ho : Scan w bo (.slice none 0 0) 0) :
    Calls Try.prog 9 #[.pointer (some ⟨bs, 0, none⟩), .pointer (some ⟨bo, 0, none⟩)] w fun e w' => e = .returned (.tuple #[]) ∧ Scan w' bs (.slice none 0 0) 0 ∧ Scan w' bo (.slice none 0 0) 0 ∧ Kept2 bs bo w w' := by
  have c1 := hs.rest
  have c3 := hs.err
  have d1 := ho.rest
  have d3 := ho.err
  have f0 := hs.free 0
  have g0 := ho.free 0
  go_enter Try.func9, Try.ntmps9
  go_wp2
  go_quiet (fail)
  go_wp2
  go_loopw [4, 5] (fun v1 v2 wr => v1 = .slice none 0 0 ∧ v2 = .slice none 0 0 ∧ ∃ q, wr = w.drewN q) (fun _ _ _ => 0)
  case atStart => exact ⟨rfl, rfl, _, rfl⟩
  case round =>
    obtain ⟨rfl, rfl, q, rfl⟩ := hrel
    go_wp2_with (go_at_call 16; refine (index_nil _ _).mono ?_; rintro e w' ⟨rfl, hw⟩; have hw2 := hw.symm; subst hw2)
    go_quiet (fail)
    go_wp2
    go_end0
    refine ⟨rfl, ?_, ?_, ?_⟩
    · exact ((Scan.set0 (w := w.drewN _) hs _).other hne _)
    · exact (Scan.other (w := w.drewN _) ho (by exact fun e => hne e.symm) _).set0 _
    · exact ((((Kept2.refl bs bo w).drewN _).setCell ⟨bs, 0, none⟩ (Or.inl rfl) _).setCell ⟨bo, 0, none⟩ (Or.inr rfl) _)

set_option maxRecDepth 100000 in
set_option maxHeartbeats 1000000 in
theorem top_nil (w : World) : Calls Try.prog 3 #[.slice none 0 0] w fun e w' => e = .returned (.bool true) ∧ Below w.heap.size w w' := by
  go_enter Try.func3, Try.ntmps3
  go_wp2_with (go_at_call 6; refine (bytes_any _ _ _ (by unfold maxLen; omega) _).mono ?_; rintro e w' ⟨rfl, hw⟩; have hw2 := hw.symm; subst hw2; rw [show decide (0 ≤ 1048576) = true from rfl])
  refine (clone_nil w).mono ?_
  rintro e w1 ⟨rfl, hw⟩
  have hw2 := hw.symm
  subst hw2
  go_wp2_with fail
  refine (clone_nil w).mono ?_
  rintro e w1 ⟨rfl, hw⟩
  have hw2 := hw.symm
  subst hw2
  go_wp2_with fail
  refine (new_any _ _ _ _).mono ?_
  rintro e w3 ⟨rfl, rfl⟩
  go_wp2_with (refine wpList_store_row rfl 34 (.tmp 4) (.tmp 23) rfl (w.heap.size + 1) _ rfl rfl 34 _ (heap_alloc2_new w _ _) size34 rfl (one_cellsOf _ _ _ _) ?_; rw [show w.heap.size + 1 = (w.alloc (Obj.cells (cellsOf (Value.slice none 0 0) (.int .i64 0)) 34)).heap.size from by simp, World.setRow_alloc_new])
  have T1 := two_alloc w (.slice none 0 0)
  generalize ((w.alloc (.cells (cellsOf (.slice none 0 0) (.int .i64 0)) 34)).alloc (.cells (cellsOf (.slice none 0 0) (.int .i64 0)) 34)) = w3 at T1 ⊢
  refine (new_any _ _ _ _).mono ?_
  rintro e w3' ⟨rfl, rfl⟩
  have HT1 := hid T1
  clear T1
  go_wp2_with (refine wpList_store_row rfl 34 (.tmp 5) (.tmp 25) rfl (w3.heap.size + 1) _ rfl rfl 34 _ (heap_alloc2_new w3 _ _) size34 rfl (one_cellsOf _ _ _ _) ?_; rw [show w3.heap.size + 1 = (w3.alloc (Obj.cells (cellsOf (Value.slice none 0 0) (.int .i64 0)) 34)).heap.size from by simp, World.setRow_alloc_new])
  have T2 := two_alloc w3 (.slice none 0 0)
  generalize ((w3.alloc (.cells (cellsOf (.slice none 0 0) (.int .i64 0)) 34)).alloc (.cells (cellsOf (.slice none 0 0) (.int .i64 0)) 34)) = w4 at T2 ⊢
  obtain ⟨sc1, bl3, sz3⟩ := HT1.out
  obtain ⟨sc2, bl4, sz4⟩ := T2
  have sc1' : Scan w4 (w.heap.size + 1) (.slice none 0 0) 0 := sc1.below bl4 (by omega)
  have bel : Below w.heap.size w w4 := bl3.trans (bl4.mono (by omega))
  obtain ⟨A, hA⟩ : ∃ A, w.heap.size = A := ⟨_, rfl⟩
  obtain ⟨bs, hbs⟩ : ∃ b, A + 1 = b := ⟨_, rfl⟩
  obtain ⟨bo, hbo⟩ : ∃ b, w3.heap.size + 1 = b := ⟨_, rfl⟩
  rw [hA] at bel sc1'
  rw [hbs] at sc1'
  rw [hbo] at sc2
  rw [hA, hbs, hbo]
  have n1 : bs ≠ bo := by omega
  have n6 : A ≤ bs := by omega
  have n7 : A ≤ bo := by omega
  clear HT1 sc1 bl3 sz3 bl4 sz4 hbs hbo
  have HA := hid hA
  clear hA
  refine (skip_nil bs bo w4 n1 sc1' sc2).mono ?_
  rintro e w5 ⟨rfl, t1, t2, kp⟩
  have HB : Hid (Below A w w5) := bel.trans (kp.below n6 n7)
  clear sc1' sc2 kp bel
  go_wp2_with (first
    | (go_at_call_of 10 (Value.pointer (some ⟨bs, 0, none⟩)); refine (rest_any bs _ _ _ _ _ t1).mono ?_; rintro e w' ⟨rfl, hw⟩; have hw2 := hw.symm; subst hw2)
    | (go_at_call_of 10 (Value.pointer (some ⟨bo, 0, none⟩)); refine (rest_any bo _ _ _ _ _ t2).mono ?_; rintro e w' ⟨rfl, hw⟩; have hw2 := hw.symm; subst hw2)
    | (go_at_call_of 11 (Value.pointer (some ⟨bs, 0, none⟩)); refine (n_any bs _ _ _ t1).mono ?_; rintro e w' ⟨rfl, hw⟩; have hw2 := hw.symm; subst hw2)
    | (go_at_call_of 11 (Value.pointer (some ⟨bo, 0, none⟩)); refine (n_any bo _ _ _ t2).mono ?_; rintro e w' ⟨rfl, hw⟩; have hw2 := hw.symm; subst hw2)
    | (go_at_call 12; refine (same_nil _).mono ?_; rintro e w' ⟨rfl, hw⟩; have hw2 := hw.symm; subst hw2))
  go_loop [10, 11] (fun nul i => i = .int .i64 0 ∧ nul = .int .i64 (-1)) (fun _ _ => 0)
  case atStart => exact ⟨rfl, rfl⟩
  case round =>
    obtain ⟨rfl, rfl⟩ := hrel
    go_wp2_with fail
    refine (skip_nil bs bo w5 n1 t1 t2).mono ?_
    rintro e w6 ⟨rfl, t3, t4, kp⟩
    have fin : Below w.heap.size w w6 := by
      have h6 := HA.out
      rw [h6]
      exact HB.out.trans (kp.below n6 n7)
    clear kp t1 t2
    go_wp2_with (first
      | (go_at_call_of 10 (Value.pointer (some ⟨bs, 0, none⟩)); refine (rest_any bs _ _ _ _ _ t3).mono ?_; rintro e w' ⟨rfl, hw⟩; have hw2 := hw.symm; subst hw2)
      | (go_at_call_of 10 (Value.pointer (some ⟨bo, 0, none⟩)); refine (rest_any bo _ _ _ _ _ t4).mono ?_; rintro e w' ⟨rfl, hw⟩; have hw2 := hw.symm; subst hw2)
      | (go_at_call_of 11 (Value.pointer (some ⟨bs, 0, none⟩)); refine (n_any bs _ _ _ t3).mono ?_; rintro e w' ⟨rfl, hw⟩; have hw2 := hw.symm; subst hw2)
      | (go_at_call_of 11 (Value.pointer (some ⟨bo, 0, none⟩)); refine (n_any bo _ _ _ t4).mono ?_; rintro e w' ⟨rfl, hw⟩; have hw2 := hw.symm; subst hw2))
    go_ret
    exact ⟨rfl, fin⟩

set_option maxHeartbeats 1000000 in
theorem top_long (a : Option Addr) (n c : Nat) (w : World) (hm : n ≤ maxLen) (hle : 1048576 < n) : Calls Try.prog 3 #[.slice a n c] w fun e w' => e = .returned (.bool true) ∧ Below w.heap.size w w' := by
  have hB : decide (n ≤ 1048576) = false := by simp; omega
  go_enter Try.func3, Try.ntmps3
  go_wp2_with (go_at_call 6; refine (bytes_any _ _ _ hm _).mono ?_; rintro e w' ⟨rfl, hw⟩; have hw2 := hw.symm; subst hw2; rw [hB])
  go_ret
  exact ⟨rfl, Below.refl _ _⟩

end Go.Proofs.Qxb6609523a.tree
