import Derived.Test.Qxb6609210aRows
import Derived.WalkKit
import Derived.WalkLawsBesides
import Derived.WalkSpells
import Derived.ProofKit
import Derived.Lib.Strings
import Derived.Lib.Slices
import Derived.Lib.Walk
import Derived.Lib.Bytealg
namespace Go.Proofs.Qxb6609210a.cat
open Go.RowKit

def dig (c : Int) : Bool := decide (48 ≤ c) && decide (c ≤ 57)
def low (c : Int) : Bool := decide (97 ≤ c) && decide (c ≤ 122)
def alp (c : Int) : Bool := low c || (decide (65 ≤ c) && decide (c ≤ 90))
def key (c : Int) : Bool := low c || dig c || c == 95 || c == 45 || c == 46 || c == 42
def sym : List UInt8 := [33, 35, 36, 37, 38, 39, 42, 43, 45, 46, 94, 95, 96, 124, 126, 58, 47]
def tok (c : Int) : Bool := alp c || dig c || decide (0 ≤ Lib.indexByte sym c.toNat.toUInt8)

theorem ret_bool {a b : Bool} (h : a = b) : Ending.returned (.bool a) = .returned (.bool b) := by rw [h]

set_option maxHeartbeats 400000 in
theorem isDigit_any (c : Int) (w : World) : Calls Try.prog 12 #[.int .u8 c] w fun e w' => e = .returned (.bool (dig c)) ∧ w' = w := by
  by_cases h : 48 ≤ c
  all_goals
    go_enter Try.func12, Try.ntmps12
    go_wp2
    go_ret
    exact ⟨ret_bool (by simp [dig]; omega), rfl⟩

set_option maxHeartbeats 400000 in
theorem isLow_any (c : Int) (w : World) : Calls Try.prog 13 #[.int .u8 c] w fun e w' => e = .returned (.bool (low c)) ∧ w' = w := by
  by_cases h : 97 ≤ c
  all_goals
    go_enter Try.func13, Try.ntmps13
    go_wp2
    go_ret
    exact ⟨ret_bool (by simp [low]; omega), rfl⟩

set_option maxHeartbeats 1000000 in
theorem isKey_any (c : Int) (w : World) : Calls Try.prog 14 #[.int .u8 c] w fun e w' => e = .returned (.bool (key c)) ∧ w' = w := by
  cases h1 : low c <;> cases h2 : dig c
  all_goals
    go_enter Try.func14, Try.ntmps14
    go_wp2_with (first
      | (go_at_call 13; refine (isLow_any _ _).mono ?_; rintro e w' ⟨rfl, rfl⟩; rw [h1])
      | (go_at_call 12; refine (isDigit_any _ _).mono ?_; rintro e w' ⟨rfl, rfl⟩; rw [h2]))
  all_goals
    go_ret
    exact ⟨ret_bool (by simp [key, *]), rfl⟩

set_option maxHeartbeats 1000000 in
theorem isAlpha_any (c : Int) (w : World) : Calls Try.prog 16 #[.int .u8 c] w fun e w' => e = .returned (.bool (alp c)) ∧ w' = w := by
  cases h1 : low c
  all_goals
    go_enter Try.func16, Try.ntmps16
    go_wp2_with (first
      | (go_at_call 13; refine (isLow_any _ _).mono ?_; rintro e w' ⟨rfl, rfl⟩; rw [h1]))
  all_goals
    go_ret
    exact ⟨ret_bool (by simp [alp, *] <;> omega), rfl⟩

set_option maxHeartbeats 1000000 in
set_option maxRecDepth 100000 in
theorem slite_any (s : ByteArray) (c : Int) (w : World) :
    Calls Try.prog 18 #[.string s, .int .u8 c] w fun e w' => e = .returned (.int .i64 (Lib.indexByte s.data.toList c.toNat.toUInt8)) ∧ w' = w := by
  go_enter Try.func18, Try.ntmps18
  go_wp2
  rw [run_callFunc_extern Try.func19 (by kernel_rfl) (by kernel_rfl) (by kernel_rfl) (e := Extern.BytealgIndexByte.indexByte) (by kernel_rfl), Lib.run_indexByteString]
  simp only [Result.andThen]
  rw [Oper.upon_value]
  go_wp2
  go_ret
  exact ⟨rfl, rfl⟩

set_option maxHeartbeats 1000000 in
theorem index_any (s : ByteArray) (c : Int) (w : World) :
    Calls Try.prog 17 #[.string s, .int .u8 c] w fun e w' => e = .returned (.int .i64 (Lib.indexByte s.data.toList c.toNat.toUInt8)) ∧ w' = w := by
  go_enter Try.func17, Try.ntmps17
  go_wp2_with (go_at_call 18; refine (slite_any _ _ _).mono ?_; rintro e w' ⟨rfl, rfl⟩)
  go_ret
  exact ⟨rfl, rfl⟩

theorem symData : (⟨#[33, 35, 36, 37, 38, 39, 42, 43, 45, 46, 94, 95, 96, 124, 126, 58, 47]⟩ : ByteArray).data.toList = sym := rfl

set_option maxHeartbeats 1000000 in
theorem isTok_any (c : Int) (w : World) : Calls Try.prog 15 #[.int .u8 c] w fun e w' => e = .returned (.bool (tok c)) ∧ w' = w := by
  cases h1 : alp c <;> cases h2 : dig c
  all_goals
    go_enter Try.func15, Try.ntmps15
    go_wp2_with (first
      | (go_at_call 16; refine (isAlpha_any _ _).mono ?_; rintro e w' ⟨rfl, rfl⟩; rw [h1])
      | (go_at_call 12; refine (isDigit_any _ _).mono ?_; rintro e w' ⟨rfl, rfl⟩; rw [h2])
      | (go_at_call 17; refine (index_any _ _ _).mono ?_; rintro e w' ⟨rfl, rfl⟩; rw [symData]))
  all_goals
    go_ret
    exact ⟨ret_bool (by simp [tok, *]), rfl⟩

def allB (p : Int → Bool) (l : List UInt8) : Bool := l.all fun c => p (c.toNat : Int)


theorem take_snoc (s : ByteArray) (k : Nat) (h : k < s.size) : s.data.toList.take (k + 1) = s.data.toList.take k ++ [s[k]] := by
  rw [List.take_succ_eq_append_getElem (by simpa using h)]; rfl

theorem allB_snoc (p : Int → Bool) (s : ByteArray) (k : Nat) (h : k < s.size) : allB p (s.data.toList.take (k + 1)) = (allB p (s.data.toList.take k) && p (s[k].toNat : Int)) := by
  rw [take_snoc s k h]; simp [allB]
theorem allB_no (p : Int → Bool) (s : ByteArray) (k : Nat) (h : k < s.size) (hp : p (s[k].toNat : Int) = false) : allB p s.data.toList = false := by
  have e : s.data.toList = s.data.toList.take (k + 1) ++ s.data.toList.drop (k + 1) := (List.take_append_drop _ _).symm
  rw [e]
  unfold allB
  rw [List.all_append]
  have := allB_snoc p s k h
  unfold allB at this
  rw [this, hp]; simp

set_option maxHeartbeats 1000000 in
theorem all_dig (s : ByteArray) (hs : s.size ≤ maxLen) (w : World) :
    Calls Try.prog 11 #[.string s, .func (.func 12) #[] #[]] w fun e w' => e = .returned (.bool (allB dig s.data.toList)) ∧ w' = w := by
  unfold maxLen at hs
  go_enter Try.func11, Try.ntmps11
  go_wp2
  go_loop [8] (fun i => ∃ k : Nat, k ≤ s.size ∧ i = .int .i64 k ∧ Hid (allB dig (s.data.toList.take k) = true)) (fun i => s.size - (intOf i).toNat)
  case atStart => exact ⟨0, Nat.zero_le _, rfl, rfl⟩
  case round =>
    obtain ⟨k, hk, rfl, ha⟩ := hrel
    by_cases hlt : k < s.size
    · cases hp : dig (s[k].toNat : Int)
      · go_wp2_with (go_at_call 12; refine (isDigit_any _ _).mono ?_; rintro e w' ⟨rfl, rfl⟩; rw [hp])
        go_ret
        exact ⟨ret_bool (allB_no dig s k hlt hp).symm, rfl⟩
      · go_wp2_with (go_at_call 12; refine (isDigit_any _ _).mono ?_; rintro e w' ⟨rfl, rfl⟩; rw [hp])
        go_round
        case rel => exact ⟨k + 1, by omega, by go_num, by show _ = true; rw [allB_snoc dig s k hlt, ha.out, hp]; rfl⟩
        case measure => simp [intOf]; omega
    · go_wp2
      go_ret
      exact ⟨ret_bool (by rw [← ha.out, List.take_of_length_le (by simp; omega)]), rfl⟩

set_option maxHeartbeats 1000000 in
theorem zz_dig (s : ByteArray) (hs : s.size ≤ maxLen) (w : World) :
    Calls Try.prog 6 #[.string s] w fun e w' => e = .returned (.bool (allB dig s.data.toList)) ∧ w' = w := by
  go_enter Try.func6, Try.ntmps6
  go_wp2_with (go_at_call 11; refine (all_dig _ hs _).mono ?_; rintro e w' ⟨rfl, rfl⟩)
  go_ret
  exact ⟨rfl, rfl⟩

set_option maxHeartbeats 1000000 in
theorem all_key (s : ByteArray) (hs : s.size ≤ maxLen) (w : World) :
    Calls Try.prog 11 #[.string s, .func (.func 14) #[] #[]] w fun e w' => e = .returned (.bool (allB key s.data.toList)) ∧ w' = w := by
  unfold maxLen at hs
  go_enter Try.func11, Try.ntmps11
  go_wp2
  go_loop [8] (fun i => ∃ k : Nat, k ≤ s.size ∧ i = .int .i64 k ∧ Hid (allB key (s.data.toList.take k) = true)) (fun i => s.size - (intOf i).toNat)
  case atStart => exact ⟨0, Nat.zero_le _, rfl, rfl⟩
  case round =>
    obtain ⟨k, hk, rfl, ha⟩ := hrel
    by_cases hlt : k < s.size
    · cases hp : key (s[k].toNat : Int)
      · go_wp2_with (go_at_call 14; refine (isKey_any _ _).mono ?_; rintro e w' ⟨rfl, rfl⟩; rw [hp])
        go_ret
        exact ⟨ret_bool (allB_no key s k hlt hp).symm, rfl⟩
      · go_wp2_with (go_at_call 14; refine (isKey_any _ _).mono ?_; rintro e w' ⟨rfl, rfl⟩; rw [hp])
        go_round
        case rel => exact ⟨k + 1, by omega, by go_num, by show _ = true; rw [allB_snoc key s k hlt, ha.out, hp]; rfl⟩
        case measure => simp [intOf]; omega
    · go_wp2
      go_ret
      exact ⟨ret_bool (by rw [← ha.out, List.take_of_length_le (by simp; omega)]), rfl⟩

set_option maxHeartbeats 1000000 in
theorem zz_key (s : ByteArray) (hs : s.size ≤ maxLen) (w : World) :
    Calls Try.prog 9 #[.string s] w fun e w' => e = .returned (.bool (allB key s.data.toList)) ∧ w' = w := by
  go_enter Try.func9, Try.ntmps9
  go_wp2_with (go_at_call 11; refine (all_key _ hs _).mono ?_; rintro e w' ⟨rfl, rfl⟩)
  go_ret
  exact ⟨rfl, rfl⟩

set_option maxHeartbeats 1000000 in
theorem all_tok (s : ByteArray) (hs : s.size ≤ maxLen) (w : World) :
    Calls Try.prog 11 #[.string s, .func (.func 15) #[] #[]] w fun e w' => e = .returned (.bool (allB tok s.data.toList)) ∧ w' = w := by
  unfold maxLen at hs
  go_enter Try.func11, Try.ntmps11
  go_wp2
  go_loop [8] (fun i => ∃ k : Nat, k ≤ s.size ∧ i = .int .i64 k ∧ Hid (allB tok (s.data.toList.take k) = true)) (fun i => s.size - (intOf i).toNat)
  case atStart => exact ⟨0, Nat.zero_le _, rfl, rfl⟩
  case round =>
    obtain ⟨k, hk, rfl, ha⟩ := hrel
    by_cases hlt : k < s.size
    · cases hp : tok (s[k].toNat : Int)
      · go_wp2_with (go_at_call 15; refine (isTok_any _ _).mono ?_; rintro e w' ⟨rfl, rfl⟩; rw [hp])
        go_ret
        exact ⟨ret_bool (allB_no tok s k hlt hp).symm, rfl⟩
      · go_wp2_with (go_at_call 15; refine (isTok_any _ _).mono ?_; rintro e w' ⟨rfl, rfl⟩; rw [hp])
        go_round
        case rel => exact ⟨k + 1, by omega, by go_num, by show _ = true; rw [allB_snoc tok s k hlt, ha.out, hp]; rfl⟩
        case measure => simp [intOf]; omega
    · go_wp2
      go_ret
      exact ⟨ret_bool (by rw [← ha.out, List.take_of_length_le (by simp; omega)]), rfl⟩

set_option maxHeartbeats 1000000 in
theorem zz_tok (s : ByteArray) (hs : s.size ≤ maxLen) (w : World) :
    Calls Try.prog 10 #[.string s] w fun e w' => e = .returned (.bool (allB tok s.data.toList)) ∧ w' = w := by
  go_enter Try.func10, Try.ntmps10
  go_wp2_with (go_at_call 11; refine (all_tok _ hs _).mono ?_; rintro e w' ⟨rfl, rfl⟩)
  go_ret
  exact ⟨rfl, rfl⟩
end Go.Proofs.Qxb6609210a.cat
