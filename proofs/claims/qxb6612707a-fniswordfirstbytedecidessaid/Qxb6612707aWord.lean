import Derived.Test.Qxb6612707aRows
import Derived.WalkKit
import Derived.WalkLawsBesides
import Derived.WalkSpells
import Derived.ProofKit
import Derived.Lib.Strings
import Derived.Lib.Slices
import Derived.Lib.Walk
import Derived.Lib.Bytealg
import Derived.Deep.RegionWith
namespace Go.Proofs.Qxb6612707a.word
open Go.RowKit

theorem ret_bool {a b : Bool} (h : a = b) : Ending.returned (.bool a) = .returned (.bool b) := by rw [h]
def syms : List UInt8 := [61, 33, 40, 41, 44, 60, 62]
/-- may a word begin with c -/
def wordB (c : UInt8) : Bool := decide (Lib.indexByte syms c < 0)
def symB (c : Int) : Bool := c == 61 || c == 33 || c == 40 || c == 41 || c == 44 || c == 60 || c == 62
theorem symData : (⟨#[61, 33, 40, 41, 44, 60, 62]⟩ : ByteArray).data.toList = syms := rfl

set_option maxHeartbeats 1000000 in
set_option maxRecDepth 100000 in
theorem slite_any (s : ByteArray) (c : Int) (w : World) :
    Calls Try.prog 15 #[.string s, .int .u8 c] w fun e w' => e = .returned (.int .i64 (Lib.indexByte s.data.toList c.toNat.toUInt8)) ∧ w' = w := by
  go_enter Try.func15, Try.ntmps15
  go_wp2
  rw [run_callFunc_extern Try.func16 (by kernel_rfl) (by kernel_rfl) (by kernel_rfl) (e := Extern.BytealgIndexByte.indexByte) (by kernel_rfl), Lib.run_indexByteString]
  simp only [Result.andThen]
  rw [Oper.upon_value]
  go_wp2
  go_ret
  exact ⟨rfl, rfl⟩

set_option maxHeartbeats 1000000 in
theorem index_any (s : ByteArray) (c : Int) (w : World) :
    Calls Try.prog 14 #[.string s, .int .u8 c] w fun e w' => e = .returned (.int .i64 (Lib.indexByte s.data.toList c.toNat.toUInt8)) ∧ w' = w := by
  go_enter Try.func14, Try.ntmps14
  go_wp2_with (go_at_call 15; refine (slite_any _ _ _).mono ?_; rintro e w' ⟨rfl, rfl⟩)
  go_ret
  exact ⟨rfl, rfl⟩

set_option maxHeartbeats 1000000 in
theorem sym_any (c : Int) (w : World) : Calls Try.prog 8 #[.int .u8 c] w fun e w' => e = .returned (.bool (symB c)) ∧ w' = w := by
  go_enter Try.func8, Try.ntmps8
  go_wp2
  all_goals
    go_ret
    exact ⟨ret_bool (by simp [symB, *]), rfl⟩

theorem full {s : ByteArray} (h : 0 < s.size) : s.toList.isEmpty = false := by
  rw [Lib.toList_data]
  have : s.data.toList ≠ [] := fun e => by have h1 := congrArg List.length e; rw [Array.length_toList] at h1; have h2 : s.size = s.data.size := rfl; rw [h2, h1] at h; exact absurd h (Nat.lt_irrefl 0)
  simpa using this
theorem void {s : ByteArray} (h : s.size = 0) : s.toList.isEmpty = true := by
  rw [Lib.toList_data]
  simp
  exact Array.eq_empty_of_size_eq_zero h

set_option maxHeartbeats 1000000 in
theorem word_any (s : ByteArray) (h : 0 < s.size) (w : World) : Calls Try.prog 13 #[.string s] w fun e w' => e = .returned (.bool (wordB s[0])) ∧ w' = w := by
  have hf := full h
  go_enter Try.func13, Try.ntmps13
  go_wp2_with (go_at_call 14; refine (index_any _ _ _).mono ?_; rintro e w' ⟨rfl, rfl⟩; rw [symData])
  go_ret
  exact ⟨ret_bool (by simp [wordB]), rfl⟩

set_option maxHeartbeats 1000000 in
theorem word_void (s : ByteArray) (h : s.size = 0) (w : World) : Calls Try.prog 13 #[.string s] w fun e w' => e = .returned (.bool false) ∧ w' = w := by
  have hf := void h
  clear h
  go_enter Try.func13, Try.ntmps13
  go_wp2
  go_ret
  exact ⟨rfl, rfl⟩

set_option maxHeartbeats 1000000 in
theorem z_any (s : ByteArray) (h : 0 < s.size) (w : World) : Calls Try.prog 7 #[.string s] w fun e w' => e = .returned (.bool (wordB s[0])) ∧ w' = w := by
  go_enter Try.func7, Try.ntmps7
  go_wp2_with (go_at_call 13; refine (word_any _ h _).mono ?_; rintro e w' ⟨rfl, rfl⟩)
  go_ret
  exact ⟨rfl, rfl⟩

set_option maxHeartbeats 1000000 in
theorem z_void (s : ByteArray) (h : s.size = 0) (w : World) : Calls Try.prog 7 #[.string s] w fun e w' => e = .returned (.bool false) ∧ w' = w := by
  go_enter Try.func7, Try.ntmps7
  go_wp2_with (go_at_call 13; refine (word_void _ h _).mono ?_; rintro e w' ⟨rfl, rfl⟩)
  go_ret
  exact ⟨rfl, rfl⟩

theorem word_sym : ∀ c : UInt8, wordB c = !symB (c.toNat : Int) := by
  have h : ∀ n : Fin 256, wordB (UInt8.ofNat n.val) = !symB (n.val : Int) := by decide +kernel
  intro c
  have := h ⟨c.toNat, by simpa using c.toNat_lt⟩
  simpa using this

set_option maxHeartbeats 1000000 in
theorem bytes_any (a b : ByteArray) (ha : a.size ≤ maxLen) (hb : b.size ≤ maxLen) (w : World) :
    Calls Try.prog 6 #[.string a, .string b] w fun e w' => e = .returned (.bool (decide (a.size + b.size ≤ 1048576))) ∧ w' = w := by
  unfold maxLen at ha hb
  by_cases h1 : a.size ≤ 1048576
  · by_cases h2 : b.size ≤ 1048576
    · by_cases h3 : a.size + b.size ≤ 1048576
      all_goals
        go_enter Try.func6, Try.ntmps6
        go_wp2
        go_ret
        exact ⟨ret_bool (by simp; omega), rfl⟩
    · go_enter Try.func6, Try.ntmps6
      go_wp2
      go_ret
      exact ⟨ret_bool (by simp; omega), rfl⟩
  · go_enter Try.func6, Try.ntmps6
    go_wp2
    go_ret
    exact ⟨ret_bool (by simp; omega), rfl⟩

theorem app_first (a b : ByteArray) (h : 0 < a.size) (h2 : 0 < (a ++ b).size) : (a ++ b)[0] = a[0] := ByteArray.getElem_append_left h
theorem app_void (a b : ByteArray) (h : a.size = 0) : a ++ b = b := by
  have : a = ByteArray.empty := ByteArray.size_eq_zero_iff.mp h
  subst this; simp

set_option maxHeartbeats 1000000 in
theorem join (a b : ByteArray) (ha : a.size ≤ maxLen) (hb : b.size ≤ maxLen) (w : World) (h1 : a.size ≤ 524288) (h2 : b.size ≤ 524288) (ea : 0 < a.size) (eb : 0 < b.size) :
    Calls Try.prog 3 #[.string a, .string b] w fun e w' => e = .returned (.bool true) ∧ w' = w := by
  have hB : decide (a.size + b.size ≤ 1048576) = true := by simp; omega
  have hab : 0 < (a ++ b).size := by rw [ByteArray.size_append]; omega
  have fa := full ea
  have fb := full eb
  obtain ⟨x, hx⟩ : ∃ x, wordB a[0] = x := ⟨_, rfl⟩
  obtain ⟨y, hy⟩ : ∃ y, wordB b[0] = y := ⟨_, rfl⟩
  have sx := word_sym a[0]
  have sy := word_sym b[0]
  rw [hx] at sx
  rw [hy] at sy
  have hxy : wordB (a ++ b)[0] = x := by rw [app_first a b ea hab]; exact hx
  go_enter Try.func3, Try.ntmps3
  go_wp2_with (first
    | (go_at_call 6; refine (bytes_any _ _ ha hb _).mono ?_; rintro e w' ⟨rfl, rfl⟩; rw [hB])
    | (go_at_call_of 7 (Value.string a); refine (z_any _ ea _).mono ?_; rintro e w' ⟨rfl, rfl⟩; rw [hx])
    | (go_at_call_of 7 (Value.string b); refine (z_any _ eb _).mono ?_; rintro e w' ⟨rfl, rfl⟩; rw [hy])
    | (go_at_call_of 7 (Value.string (a ++ b)); refine (z_any _ hab _).mono ?_; rintro e w' ⟨rfl, rfl⟩; rw [hxy])
    | (go_at_call 8; refine (sym_any _ _).mono ?_; rintro e w' ⟨rfl, rfl⟩))
  go_ret
  exact ⟨rfl, rfl⟩

set_option maxHeartbeats 1000000 in
theorem join_b0 (a b : ByteArray) (ha : a.size ≤ maxLen) (hb : b.size ≤ maxLen) (w : World) (h1 : a.size ≤ 524288) (ea : 0 < a.size) (eb : b.size = 0) :
    Calls Try.prog 3 #[.string a, .string b] w fun e w' => e = .returned (.bool true) ∧ w' = w := by
  have hB : decide (a.size + b.size ≤ 1048576) = true := by simp; omega
  have hab : 0 < (a ++ b).size := by rw [ByteArray.size_append]; omega
  have fa := full ea
  have fb := void eb
  obtain ⟨x, hx⟩ : ∃ x, wordB a[0] = x := ⟨_, rfl⟩
  have sx := word_sym a[0]
  rw [hx] at sx
  have hxy : wordB (a ++ b)[0] = x := by rw [app_first a b ea hab]; exact hx
  have h2 : b.size ≤ 524288 := by omega
  have EB := show Hid (b.size = 0) from eb
  clear eb
  go_enter Try.func3, Try.ntmps3
  go_wp2_with (first
    | (go_at_call 6; refine (bytes_any _ _ ha hb _).mono ?_; rintro e w' ⟨rfl, rfl⟩; rw [hB])
    | (go_at_call_of 7 (Value.string a); refine (z_any _ ea _).mono ?_; rintro e w' ⟨rfl, rfl⟩; rw [hx])
    | (go_at_call_of 7 (Value.string b); refine (z_void _ EB.out _).mono ?_; rintro e w' ⟨rfl, rfl⟩)
    | (go_at_call_of 7 (Value.string (a ++ b)); refine (z_any _ hab _).mono ?_; rintro e w' ⟨rfl, rfl⟩; rw [hxy])
    | (go_at_call 8; refine (sym_any _ _).mono ?_; rintro e w' ⟨rfl, rfl⟩))
  go_ret
  exact ⟨rfl, rfl⟩

set_option maxHeartbeats 1000000 in
theorem join_a0 (a b : ByteArray) (ha : a.size ≤ maxLen) (hb : b.size ≤ maxLen) (w : World) (h2 : b.size ≤ 524288) (ea : a.size = 0) (eb : 0 < b.size) :
    Calls Try.prog 3 #[.string a, .string b] w fun e w' => e = .returned (.bool true) ∧ w' = w := by
  have hB : decide (a.size + b.size ≤ 1048576) = true := by simp; omega
  have fa := void ea
  have fb := full eb
  obtain ⟨y, hy⟩ : ∃ y, wordB b[0] = y := ⟨_, rfl⟩
  have sy := word_sym b[0]
  rw [hy] at sy
  have happ := app_void a b ea
  have h1 : a.size ≤ 524288 := by omega
  have EA := show Hid (a.size = 0) from ea
  clear ea
  go_enter Try.func3, Try.ntmps3
  go_wp2_with (first
    | (go_at_call 6; refine (bytes_any _ _ ha hb _).mono ?_; rintro e w' ⟨rfl, rfl⟩; rw [hB])
    | (go_at_call_of 7 (Value.string a); refine (z_void _ EA.out _).mono ?_; rintro e w' ⟨rfl, rfl⟩)
    | (go_at_call_of 7 (Value.string b); refine (z_any _ eb _).mono ?_; rintro e w' ⟨rfl, rfl⟩; rw [hy])
    | (go_at_call 8; refine (sym_any _ _).mono ?_; rintro e w' ⟨rfl, rfl⟩))
  go_ret
  exact ⟨rfl, rfl⟩

set_option maxHeartbeats 1000000 in
theorem join_00 (a b : ByteArray) (ha : a.size ≤ maxLen) (hb : b.size ≤ maxLen) (w : World) (ea : a.size = 0) (eb : b.size = 0) :
    Calls Try.prog 3 #[.string a, .string b] w fun e w' => e = .returned (.bool true) ∧ w' = w := by
  have hB : decide (a.size + b.size ≤ 1048576) = true := by simp; omega
  have fa := void ea
  have fb := void eb
  have happ := app_void a b ea
  have h1 : a.size ≤ 524288 := by omega
  have h2 : b.size ≤ 524288 := by omega
  have EA := show Hid (a.size = 0) from ea
  have EB := show Hid (b.size = 0) from eb
  clear ea eb
  go_enter Try.func3, Try.ntmps3
  go_wp2_with (first
    | (go_at_call 6; refine (bytes_any _ _ ha hb _).mono ?_; rintro e w' ⟨rfl, rfl⟩; rw [hB])
    | (go_at_call_of 7 (Value.string a); refine (z_void _ EA.out _).mono ?_; rintro e w' ⟨rfl, rfl⟩)
    | (go_at_call_of 7 (Value.string b); refine (z_void _ EB.out _).mono ?_; rintro e w' ⟨rfl, rfl⟩))
  go_ret
  exact ⟨rfl, rfl⟩

set_option maxHeartbeats 1000000 in
theorem join_long (a b : ByteArray) (ha : a.size ≤ maxLen) (hb : b.size ≤ maxLen) (w : World) (h : ¬ (a.size ≤ 524288 ∧ b.size ≤ 524288)) :
    Calls Try.prog 3 #[.string a, .string b] w fun e w' => e = .returned (.bool true) ∧ w' = w := by
  cases hB : decide (a.size + b.size ≤ 1048576)
  · go_enter Try.func3, Try.ntmps3
    go_wp2_with (go_at_call 6; refine (bytes_any _ _ ha hb _).mono ?_; rintro e w' ⟨rfl, rfl⟩; rw [hB])
    go_ret
    exact ⟨rfl, rfl⟩
  · by_cases h1 : a.size ≤ 524288
    · have h2 : 524288 < b.size := by omega
      clear h
      go_enter Try.func3, Try.ntmps3
      go_wp2_with (go_at_call 6; refine (bytes_any _ _ ha hb _).mono ?_; rintro e w' ⟨rfl, rfl⟩; rw [hB])
      go_ret
      exact ⟨rfl, rfl⟩
    · clear h
      go_enter Try.func3, Try.ntmps3
      go_wp2_with (go_at_call 6; refine (bytes_any _ _ ha hb _).mono ?_; rintro e w' ⟨rfl, rfl⟩; rw [hB])
      go_ret
      exact ⟨rfl, rfl⟩

theorem join_any (a b : ByteArray) (ha : a.size ≤ maxLen) (hb : b.size ≤ maxLen) (w : World) :
    Calls Try.prog 3 #[.string a, .string b] w fun e w' => e = .returned (.bool true) ∧ w' = w := by
  by_cases h : a.size ≤ 524288 ∧ b.size ≤ 524288
  · by_cases ea : a.size = 0
    · by_cases eb : b.size = 0
      · exact join_00 a b ha hb w ea eb
      · exact join_a0 a b ha hb w h.2 ea (by omega)
    · by_cases eb : b.size = 0
      · exact join_b0 a b ha hb w h.1 (by omega) eb
      · exact join a b ha hb w h.1 h.2 (by omega) (by omega)
  · exact join_long a b ha hb w h

end Go.Proofs.Qxb6612707a.word
