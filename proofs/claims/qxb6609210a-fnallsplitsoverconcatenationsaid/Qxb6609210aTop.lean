import Derived.Test.Qxb6609210aWalks
import Derived.Deep.RegionWith
namespace Go.Proofs.Qxb6609210a.cat
open Go.RowKit

set_option maxHeartbeats 1000000 in
theorem bytes_any (a b : ByteArray) (ha : a.size ≤ maxLen) (hb : b.size ≤ maxLen) (w : World) :
    Calls Try.prog 8 #[.string a, .string b] w fun e w' => e = .returned (.bool (decide (a.size + b.size ≤ 1048576))) ∧ w' = w := by
  unfold maxLen at ha hb
  by_cases h1 : a.size ≤ 1048576
  · by_cases h2 : b.size ≤ 1048576
    · by_cases h3 : a.size + b.size ≤ 1048576
      · go_enter Try.func8, Try.ntmps8
        go_wp2
        go_ret
        exact ⟨ret_bool (by simp [h3]), rfl⟩
      · go_enter Try.func8, Try.ntmps8
        go_wp2
        go_ret
        exact ⟨ret_bool (by simp; omega), rfl⟩
    · go_enter Try.func8, Try.ntmps8
      go_wp2
      go_ret
      exact ⟨ret_bool (by simp; omega), rfl⟩
  · go_enter Try.func8, Try.ntmps8
    go_wp2
    go_ret
    exact ⟨ret_bool (by simp; omega), rfl⟩


theorem dig_key (c : Int) (h : dig c = true) : key c = true := by simp [key, h]
theorem sym_has : ∀ c : UInt8, c = 95 ∨ c = 45 ∨ c = 46 ∨ c = 42 → 0 ≤ Lib.indexByte sym c := by
  intro c h
  rcases h with rfl | rfl | rfl | rfl <;> decide
theorem key_tok (c : UInt8) (h : key (c.toNat : Int) = true) : tok (c.toNat : Int) = true := by
  unfold tok
  by_cases h1 : alp (c.toNat : Int) = true
  · simp [h1]
  · by_cases h2 : dig (c.toNat : Int) = true
    · simp [h2]
    · have hl : low (c.toNat : Int) = false := by
        unfold alp at h1
        cases hh : low (c.toNat : Int)
        · rfl
        · simp [hh] at h1
      simp [key, h2, hl] at h
      have hc : c = 95 ∨ c = 45 ∨ c = 46 ∨ c = 42 := by
        rcases h with ((h | h) | h) | h
        · exact Or.inl (UInt8.toNat_inj.mp (by simp; omega))
        · exact Or.inr (Or.inl (UInt8.toNat_inj.mp (by simp; omega)))
        · exact Or.inr (Or.inr (Or.inl (UInt8.toNat_inj.mp (by simp; omega))))
        · exact Or.inr (Or.inr (Or.inr (UInt8.toNat_inj.mp (by simp; omega))))
      have := sym_has c hc
      simp [this]
theorem all_dk (l : List UInt8) (h : allB dig l = true) : allB key l = true := by
  unfold allB at *
  rw [List.all_eq_true] at *
  exact fun x hx => dig_key _ (h x hx)
theorem all_kt (l : List UInt8) (h : allB key l = true) : allB tok l = true := by
  unfold allB at *
  rw [List.all_eq_true] at *
  exact fun x hx => key_tok _ (h x hx)
theorem all_app (p : Int → Bool) (a b : ByteArray) : allB p (a ++ b).data.toList = (allB p a.data.toList && allB p b.data.toList) := by
  unfold allB
  rw [ByteArray.data_append, Array.toList_append, List.all_append]
/-- the four states of a text -/
theorem states (l : List UInt8) : (allB dig l = true ∧ allB key l = true ∧ allB tok l = true) ∨ (allB dig l = false ∧ allB key l = true ∧ allB tok l = true) ∨ (allB dig l = false ∧ allB key l = false ∧ allB tok l = true) ∨ (allB dig l = false ∧ allB key l = false ∧ allB tok l = false) := by
  have h1 := all_dk l
  have h2 := all_kt l
  cases hd : allB dig l <;> cases hk : allB key l <;> cases ht : allB tok l <;> simp_all
def cnt (l : List UInt8) : Int := (l.filter fun c => dig (c.toNat : Int)).length
theorem cnt_le (l : List UInt8) : 0 ≤ cnt l ∧ cnt l ≤ l.length := by
  unfold cnt; exact ⟨by omega, by have := List.length_filter_le (fun c : UInt8 => dig (c.toNat : Int)) l; omega⟩
theorem cnt_snoc (s : ByteArray) (k : Nat) (h : k < s.size) : cnt (s.data.toList.take (k + 1)) = cnt (s.data.toList.take k) + if 48 ≤ (s[k].toNat : Int) ∧ (s[k].toNat : Int) ≤ 57 then 1 else 0 := by
  rw [take_snoc s k h]
  unfold cnt
  rw [List.filter_append]
  by_cases hh : 48 ≤ (s[k].toNat : Int) ∧ (s[k].toNat : Int) ≤ 57
  · rw [if_pos hh]
    have : dig (s[k].toNat : Int) = true := by simp [dig]; omega
    simp [this]
  · rw [if_neg hh]
    have : dig (s[k].toNat : Int) = false := by simp [dig]; omega
    simp [this]
theorem cnt_all (s : ByteArray) : (cnt s.data.toList == (s.size : Int)) = allB dig s.data.toList := by
  unfold cnt allB
  have hs : s.size = s.data.toList.length := by simp
  rw [hs, Bool.eq_iff_iff]
  rw [List.all_eq_true]
  rw [← List.length_filter_eq_length_iff]
  simp [Int.ofNat_inj]

set_option maxHeartbeats 4000000 in
theorem top (a b : ByteArray) (ha : a.size ≤ maxLen) (hb : b.size ≤ maxLen) (w : World) (h1 : a.size ≤ 524288) (h2 : b.size ≤ 524288) :
    Calls Try.prog 4 #[.string a, .string b] w fun e w' => e = .returned (.bool true) ∧ w' = w := by
  have hB : decide (a.size + b.size ≤ 1048576) = true := by simp; omega
  have hu : (a ++ b).size ≤ maxLen := by unfold maxLen; rw [ByteArray.size_append]; omega
  have hu2 : (a ++ b).size ≤ 1048576 := by rw [ByteArray.size_append]; omega
  have Hd : Hid (allB dig (a ++ b).data.toList = (allB dig a.data.toList && allB dig b.data.toList)) := all_app dig a b
  have Hk : Hid (allB key (a ++ b).data.toList = (allB key a.data.toList && allB key b.data.toList)) := all_app key a b
  have Ht : Hid (allB tok (a ++ b).data.toList = (allB tok a.data.toList && allB tok b.data.toList)) := all_app tok a b
  go_enter Try.func4, Try.ntmps4
  go_wp2_with (go_at_call 8; refine (bytes_any _ _ ha hb _).mono ?_; rintro e w' ⟨rfl, rfl⟩; rw [hB])
  generalize a ++ b = u at *
  refine (zz_key _ hu _).mono ?_
  rintro e w1 ⟨rfl, rfl⟩
  go_wp2_with fail
  refine (zz_tok _ hu _).mono ?_
  rintro e w1 ⟨rfl, rfl⟩
  go_wp2_with fail
  refine (zz_dig _ hu _).mono ?_
  rintro e w1 ⟨rfl, rfl⟩
  go_wp2_with fail
  go_loop [9, 10] (fun n i => ∃ k : Nat, k ≤ u.size ∧ i = .int .i64 k ∧ n = .int .i64 (cnt (u.data.toList.take k))) (fun _ i => u.size - (intOf i).toNat)
  case atStart => exact ⟨0, Nat.zero_le _, rfl, rfl⟩
  case round =>
    obtain ⟨k, hk, rfl, rfl⟩ := hrel
    have hd := cnt_le (u.data.toList.take k)
    have hl : (u.data.toList.take k).length ≤ k := List.length_take_le _ _
    by_cases hlt : k < u.size
    · have HS : Hid (cnt (u.data.toList.take (k + 1)) = cnt (u.data.toList.take k) + if 48 ≤ (u[k].toNat : Int) ∧ (u[k].toNat : Int) ≤ 57 then 1 else 0) := cnt_snoc u k hlt
      go_wp2
      all_goals
        go_round
        case rel => exact ⟨k + 1, by omega, by go_num, by rw [HS.out]; first | rw [if_pos ⟨‹_›, ‹_›⟩] | (rw [if_neg (by omega)]; go_num)⟩
        case measure => simp [intOf]; omega
    · have ek : u.data.toList.take k = u.data.toList := List.take_of_length_le (by simp; omega)
      rw [ek]
      clear ek hd hl
      have hn := cnt_all u
      go_wp2_with fail
      rcases states a.data.toList with ⟨da, ka, ta⟩ | ⟨da, ka, ta⟩ | ⟨da, ka, ta⟩ | ⟨da, ka, ta⟩
      all_goals rcases states b.data.toList with ⟨db, kb, tb⟩ | ⟨db, kb, tb⟩ | ⟨db, kb, tb⟩ | ⟨db, kb, tb⟩
      all_goals
        have du := Hd.out
        have ku := Hk.out
        have tu := Ht.out
        simp only [da, db, ka, kb, ta, tb, Bool.and_true, Bool.and_false, Bool.and_self] at du ku tu
        rw [du] at hn
        refine (zz_key _ ha _).mono ?_
        rintro e w2 ⟨rfl, rfl⟩
        rw [ka]
        go_wp2_with (first
          | (go_at_call 9; refine (zz_key _ hb _).mono ?_; rintro e w' ⟨rfl, rfl⟩; rw [kb])
          | (go_at_call_of 10 (Value.string a); refine (zz_tok _ ha _).mono ?_; rintro e w' ⟨rfl, rfl⟩; rw [ta])
          | (go_at_call_of 10 (Value.string b); refine (zz_tok _ hb _).mono ?_; rintro e w' ⟨rfl, rfl⟩; rw [tb])
          | (go_at_call_of 6 (Value.string a); refine (zz_dig _ ha _).mono ?_; rintro e w' ⟨rfl, rfl⟩; rw [da])
          | (go_at_call_of 6 (Value.string b); refine (zz_dig _ hb _).mono ?_; rintro e w' ⟨rfl, rfl⟩; rw [db]))
        go_ret
        exact ⟨rfl, rfl⟩

set_option maxHeartbeats 1000000 in
theorem top_long (a b : ByteArray) (ha : a.size ≤ maxLen) (hb : b.size ≤ maxLen) (w : World) (h1 : ¬ a.size + b.size ≤ 1048576) :
    Calls Try.prog 4 #[.string a, .string b] w fun e w' => e = .returned (.bool true) ∧ w' = w := by
  have hB : decide (a.size + b.size ≤ 1048576) = false := by simp; omega
  go_enter Try.func4, Try.ntmps4
  go_wp2_with (go_at_call 8; refine (bytes_any _ _ ha hb _).mono ?_; rintro e w' ⟨rfl, rfl⟩; rw [hB])
  go_ret
  exact ⟨rfl, rfl⟩

set_option maxHeartbeats 1000000 in
theorem top_a (a b : ByteArray) (ha : a.size ≤ maxLen) (hb : b.size ≤ maxLen) (w : World) (h1 : a.size + b.size ≤ 1048576) (h2 : 524288 < a.size) :
    Calls Try.prog 4 #[.string a, .string b] w fun e w' => e = .returned (.bool true) ∧ w' = w := by
  have hB : decide (a.size + b.size ≤ 1048576) = true := by simp; omega
  go_enter Try.func4, Try.ntmps4
  go_wp2_with (go_at_call 8; refine (bytes_any _ _ ha hb _).mono ?_; rintro e w' ⟨rfl, rfl⟩; rw [hB])
  go_ret
  exact ⟨rfl, rfl⟩

set_option maxHeartbeats 1000000 in
theorem top_b (a b : ByteArray) (ha : a.size ≤ maxLen) (hb : b.size ≤ maxLen) (w : World) (h1 : a.size + b.size ≤ 1048576) (h2 : a.size ≤ 524288) (h3 : 524288 < b.size) :
    Calls Try.prog 4 #[.string a, .string b] w fun e w' => e = .returned (.bool true) ∧ w' = w := by
  have hB : decide (a.size + b.size ≤ 1048576) = true := by simp; omega
  go_enter Try.func4, Try.ntmps4
  go_wp2_with (go_at_call 8; refine (bytes_any _ _ ha hb _).mono ?_; rintro e w' ⟨rfl, rfl⟩; rw [hB])
  go_ret
  exact ⟨rfl, rfl⟩

theorem top_any (a b : ByteArray) (ha : a.size ≤ maxLen) (hb : b.size ≤ maxLen) (w : World) :
    Calls Try.prog 4 #[.string a, .string b] w fun e w' => e = .returned (.bool true) ∧ w' = w := by
  by_cases h1 : a.size + b.size ≤ 1048576
  · by_cases h2 : a.size ≤ 524288
    · by_cases h3 : b.size ≤ 524288
      · exact top a b ha hb w h2 h3
      · exact top_b a b ha hb w h1 h2 (by omega)
    · exact top_a a b ha hb w h1 (by omega)
  · exact top_long a b ha hb w h1
end Go.Proofs.Qxb6609210a.cat
