import Derived.Test.Qxb6612416aDoorZWrite
namespace Go.Proofs.Qxb6612416aDoor.line
open Go.RowKit

structure Says (Q : Bool → Prop) (w : World) (e : Ending) (w' : World) : Prop where
  out : ∃ r : Bool, e = .returned (.bool r) ∧ (∃ q, w' = w.drewN q) ∧ Q r

theorem no_snoc (s : ByteArray) (k : Nat) (h : k < s.size) (hn : (10 : UInt8) ∉ s.data.toList.take k) (hp : ((s[k].toNat : Int) == 10) = false) : (10 : UInt8) ∉ s.data.toList.take (k + 1) := by
  have e : s.data.toList.take (k + 1) = s.data.toList.take k ++ [s[k]] := by
    rw [List.take_succ_eq_append_getElem (by simpa using h)]; rfl
  rw [e]
  intro hm
  rcases List.mem_append.1 hm with h1 | h1
  · exact hn h1
  · simp at h1
    rw [← h1] at hp
    exact absurd hp (by decide)

set_option maxHeartbeats 1000000 in
theorem hasByte_any (s : ByteArray) (hs : s.size ≤ 131072) (w : World) :
    Calls Tryd.prog 16 #[.string s, .int .u8 10] w fun e w' => Says (fun r => r = false → (10 : UInt8) ∉ s.data.toList) w e w' := by
  go_enter Tryd.func16, Tryd.ntmps16
  go_wp2
  go_loop [5] (fun i => ∃ k : Nat, k ≤ s.size ∧ i = .int .i64 k ∧ Hid ((10 : UInt8) ∉ s.data.toList.take k)) (fun i => s.size - (intOf i).toNat)
  case atStart => exact ⟨0, Nat.zero_le _, rfl, by show (10 : UInt8) ∉ _; simp⟩
  case round =>
    obtain ⟨k, hk, rfl, ha⟩ := hrel
    by_cases hlt : k < s.size
    · cases hp : ((s[k].toNat : Int) == 10)
      · go_wp2
        go_round
        case rel => exact ⟨k + 1, by omega, by go_num, no_snoc s k hlt ha.out hp⟩
        case measure => simp [intOf]; omega
      · go_wp2
        go_ret
        exact ⟨true, by exact rfl, ⟨0, rfl⟩, by simp⟩
    · go_wp2
      go_ret
      refine ⟨false, rfl, ⟨0, rfl⟩, fun _ => ?_⟩
      have := ha.out
      rw [List.take_of_length_le (by simp; omega)] at this
      simpa using this

set_option maxHeartbeats 1000000 in
theorem zzBytes_any (s : ByteArray) (hs : s.size ≤ maxLen) (w : World) :
    Calls Tryd.prog 6 #[.string s] w fun e w' => Says (fun _ => True) w e w' := by
  unfold maxLen at hs
  by_cases h : (1048576 : Int) < (s.size : Int)
  · go_enter Tryd.func6, Tryd.ntmps6
    go_wp2
    go_ret
    exact ⟨false, rfl, ⟨0, rfl⟩, trivial⟩
  · go_enter Tryd.func6, Tryd.ntmps6
    go_wp2
    go_ret
    exact ⟨true, by exact rfl, ⟨0, rfl⟩, trivial⟩

structure Proto (l : List UInt8) : Prop where
  len : l.length ≤ 131072
  no : (10 : UInt8) ∉ l
  cr : l.getLast? ≠ some 13

theorem last_not (s : ByteArray) (h : 0 < s.size) (hp : ((s[s.size - 1].toNat : Int) == 13) = false) : s.data.toList.getLast? ≠ some 13 := by
  intro e
  rw [List.getLast?_eq_getElem?] at e
  have hl : s.data.toList.length = s.size := (Lib.size_eq s).symm
  obtain ⟨h1, h2⟩ := List.getElem?_eq_some_iff.1 e
  have h3 : s[s.size - 1] = 13 := by
    rw [← h2]
    simp [hl, ByteArray.getElem_eq_getElem_data]
  rw [h3] at hp
  exact absurd hp (by decide)

set_option maxHeartbeats 2000000 in
theorem isProto_any (s : ByteArray) (hs : s.size ≤ maxLen) (w : World) :
    Calls Tryd.prog 7 #[.string s] w fun e w' => Says (fun r => r = true → Proto s.data.toList) w e w' := by
  unfold maxLen at hs
  have hl : s.data.toList.length = s.size := (Lib.size_eq s).symm
  by_cases h : (131072 : Int) < (s.size : Int)
  · go_enter Tryd.func7, Tryd.ntmps7
    go_wp2
    go_ret
    exact ⟨false, rfl, ⟨0, rfl⟩, by simp⟩
  · have H := hid (hasByte_any s (by omega) w)
    go_enter Tryd.func7, Tryd.ntmps7
    go_wp2_with (go_at_call 16; refine H.out.mono ?_; rintro e w1 ⟨r, rfl, ⟨q, rfl⟩, hr⟩; have HR := hid hr; clear hr; refine Hid.out ?_)
    refine hid ?_
    cases r
    · by_cases h0 : 0 < s.size
      · have h1 : (0 : Int) < (s.size : Int) := by omega
        go_wp2
        go_ret
        refine ⟨!((s[s.size - 1].toNat : Int) == 13), by exact rfl, ⟨_, rfl⟩, fun hr => ?_⟩
        exact ⟨by omega, HR.out trivial, last_not s h0 (by simpa using hr)⟩
      · go_wp2
        go_ret
        refine ⟨true, by exact rfl, ⟨_, rfl⟩, fun _ => ?_⟩
        refine ⟨by omega, HR.out trivial, ?_⟩
        rw [List.length_eq_zero_iff.1 (by omega : s.data.toList.length = 0)]
        simp
    · go_wp2
      go_ret
      exact ⟨false, by exact rfl, ⟨_, rfl⟩, by simp⟩

theorem Sent.drewN {w : World} (h : Sent w) (q : Nat) : Sent (w.drewN q) := h.below (B := w.heap.size) ⟨rfl, rfl, rfl, Nat.le_refl _, fun _ _ => rfl⟩ (Nat.le_refl _)

set_option maxHeartbeats 2000000 in
set_option maxRecDepth 20000 in
theorem law_any (s : ByteArray) (hs : s.size ≤ maxLen) (w : World) (hS : Sent w) (h2 : 2 < w.heap.size) :
    Calls Tryd.prog 3 #[.string s] w fun e w' => e = .returned (.bool true) ∧ Below w.heap.size w w' := by
  have H6 := hid (zzBytes_any s hs w)
  have H7 := hid (isProto_any s hs)
  have hb : Below w.heap.size w w := Below.refl _ _
  unfold maxLen at hs
  go_enter Tryd.func3, Tryd.ntmps3
  go_wp2_with (go_at_call 6; refine H6.out.mono ?_; rintro e w1 ⟨r, rfl, ⟨q, rfl⟩, _⟩; refine Hid.out ?_)
  refine hid ?_
  cases r
  · go_wp2
    go_ret
    exact ⟨rfl, ⟨rfl, rfl, rfl, Nat.le_refl _, fun _ _ => rfl⟩⟩
  by_cases hlim : (1048576 : Int) < (s.size : Int)
  · go_wp2
    go_ret
    exact ⟨rfl, ⟨rfl, rfl, rfl, Nat.le_refl _, fun _ _ => rfl⟩⟩
  go_wp2_with (go_at_call 7; refine (H7.out _).mono ?_; rintro e w1 ⟨r, rfl, ⟨q2, rfl⟩, hr⟩; have HR := hid hr; clear hr; refine Hid.out ?_)
  refine hid ?_
  cases r
  · go_wp2
    go_ret
    exact ⟨rfl, ⟨rfl, rfl, rfl, Nat.le_refl _, fun _ _ => rfl⟩⟩
  have hp := HR.out rfl
  have H8 := hid (fun W => zzWriteLine_any s s.data.toList rfl hp.len W)
  have H9 := hid (fun w1 (h1 : Below w.heap.size w w1) => twice_any ⟨(s.data.toList ++ [10]).toArray⟩ s.data.toList ⟨by simp, hp.no, hp.len⟩ hp.cr w1 (hS.below h1 (Nat.le_refl _)) (by have := h1.size; omega))
  clear HR hp H6 H7
  go_wp2_with (go_at_call 8; refine (H8.out _).mono ?_; rintro e w1 ⟨rfl, b1⟩; refine Hid.out ?_)
  refine hid ?_
  have b2 : Below w.heap.size w w1 := ⟨b1.os, b1.tape, b1.output, b1.size, b1.block⟩
  have H10 := hid (H9.out w1 b2)
  clear H9 H8 b1
  go_wp2_with (go_at_call 9; refine H10.out.mono ?_; rintro e w2 ⟨S, rfl, hSe, b3⟩; refine Hid.out ?_)
  refine hid ?_
  have hSs : S = s := by
    cases S; cases s
    exact congrArg ByteArray.mk (Array.toList_inj.1 hSe)
  subst hSs
  go_wp2
  go_ret
  exact ⟨rfl, b2.trans (b3.mono b2.size)⟩

end Go.Proofs.Qxb6612416aDoor.line
