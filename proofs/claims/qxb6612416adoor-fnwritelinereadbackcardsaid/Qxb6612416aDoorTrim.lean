/-
  bytes.Equal, bytes.HasSuffix, bytes.TrimSuffix at this program: filled from the shelf's templates (the library's own text is walked).
-/
import Derived.Test.Qxb6612416aDoorRows
import Derived.Lib.Strings
import Derived.Lib.Slices
import Derived.Lib.Walk
import Derived.Lib.Bytes
import Derived.Lib.Bytes2
namespace Go.Proofs.Qxb6612416aDoor.line

set_option maxRecDepth 100000 in
set_option maxHeartbeats 1000000 in
theorem tr_Equal (v1 v2 : Value) (xs ys : List Int) (w : World)
    (h1 : (convert 37 9 v1).run Tryd.prog w = .ok (.string (strOfNums xs)) w) (h2 : (convert 37 9 v2).run Tryd.prog w = .ok (.string (strOfNums ys)) w) :
    Calls Tryd.prog 44 #[v1, v2] w fun e w' => e = .returned (.bool (Lib.bytesOf xs == Lib.bytesOf ys)) ∧ w' = w := by
  rw [← Lib.strOfNums_toList, ← Lib.strOfNums_toList]
  go_enter Tryd.func44, Tryd.ntmps44
  go_wp2
  go_ret
  exact ⟨rfl, rfl⟩

set_option maxRecDepth 100000 in
set_option maxHeartbeats 2000000 in
theorem tr_HasSuffix (b1 o1 n c b2 o2 m d : Nat) (xs ys : List Int) (w : World) (hx : xs.length = n) (hy : ys.length = m) (hnc : n ≤ c) (hbig : n ≤ 9223372036854775807)
    (hc1 : ∀ i, i < n → w.cell? ⟨b1, o1 + i, none⟩ = some (.int .u8 (xs.getD i 0))) (hc2 : ∀ i, i < m → w.cell? ⟨b2, o2 + i, none⟩ = some (.int .u8 (ys.getD i 0))) :
    Calls Tryd.prog 41 #[.slice (some ⟨b1, o1, none⟩) n c, .slice (some ⟨b2, o2, none⟩) m d] w fun e w' => e = .returned (.bool (Lib.hasSuffix (Lib.bytesOf xs) (Lib.bytesOf ys))) ∧ w' = w := by
  rw [← Lib.bytes_hasSuffix, hx, hy]
  have hlo : m ≤ n → ((n : Int) - (m : Int) + 9223372036854775808) % 18446744073709551616 - 9223372036854775808 = ((n - m : Nat) : Int) := fun _ => by omega
  have g2 := run_convert_bytes_arg (P := Tryd.prog) w 37 5 Tryd.underlying37 Tryd.underlying5 b2 o2 m d ys hy hc2 9 Tryd.underlying9
  have gA : m ≤ n → (convert 37 9 (.slice (if c = n - m then some ⟨b1, o1, none⟩ else some ⟨b1, o1 + (n - m), none⟩) (n - (n - m)) (c - (n - m)))).run Tryd.prog w = .ok (.string (strOfNums (xs.drop (n - m)))) w := fun h => by
    split
    · have e1 : n - (n - m) = 0 := by omega
      have e2 : xs.drop (n - m) = [] := List.drop_eq_nil_of_le (by omega)
      rw [e1, e2]
      exact run_convert_bytes_arg (P := Tryd.prog) w 37 5 Tryd.underlying37 Tryd.underlying5 b1 o1 0 _ [] rfl (fun i hi => absurd hi (Nat.not_lt_zero _)) 9 Tryd.underlying9
    · exact run_convert_bytes_arg (P := Tryd.prog) w 37 5 Tryd.underlying37 Tryd.underlying5 b1 (o1 + (n - m)) (n - (n - m)) _ (xs.drop (n - m)) (by simp; omega) (fun i hi => by
        rw [Lib.getD_drop, Nat.add_assoc]
        exact hc1 (n - m + i) (by omega)) 9 Tryd.underlying9
  go_enter Tryd.func41, Tryd.ntmps41
  go_wp2_with (go_at_call 44; refine (tr_Equal _ _ (xs.drop (n - m)) ys _ (gA (by assumption)) g2).mono ?_; rintro e w' ⟨rfl, rfl⟩)
  all_goals first
    | (have h : m ≤ n := by assumption
       go_ret
       refine ⟨?_, rfl⟩
       first | rfl | (rw [decide_eq_true h, Bool.true_and]; rfl))
    | (have h : ¬ m ≤ n := by assumption
       go_ret
       refine ⟨?_, rfl⟩
       first | rfl | (rw [decide_eq_false h, Bool.false_and]; rfl))

set_option maxRecDepth 100000 in
set_option maxHeartbeats 1000000 in
theorem tr_TrimSuffix (b1 o1 n c b2 o2 m d : Nat) (xs ys : List Int) (w : World) (hx : xs.length = n) (hy : ys.length = m) (hnc : n ≤ c) (hbig : n ≤ 9223372036854775807)
    (hc1 : ∀ i, i < n → w.cell? ⟨b1, o1 + i, none⟩ = some (.int .u8 (xs.getD i 0))) (hc2 : ∀ i, i < m → w.cell? ⟨b2, o2 + i, none⟩ = some (.int .u8 (ys.getD i 0))) :
    Calls Tryd.prog 31 #[.slice (some ⟨b1, o1, none⟩) n c, .slice (some ⟨b2, o2, none⟩) m d] w fun e w' => e = .returned (Lib.bytesTrimSuffix b1 o1 n c xs ys) ∧ w' = w := by
  have hlo : m ≤ n → ((n : Int) - (m : Int) + 9223372036854775808) % 18446744073709551616 - 9223372036854775808 = ((n - m : Nat) : Int) := fun _ => by omega
  go_enter Tryd.func31, Tryd.ntmps31
  go_wp2_with (go_at_call 41; refine (tr_HasSuffix b1 o1 n c b2 o2 m d xs ys _ hx hy hnc hbig hc1 hc2).mono ?_; rintro e w' ⟨rfl, rfl⟩)
  all_goals first
    | (have hp : Lib.hasSuffix (Lib.bytesOf xs) (Lib.bytesOf ys) = true := by assumption
       have hle := Lib.hasSuffix_le hp
       rw [Lib.bytesOf_length, Lib.bytesOf_length, hx, hy] at hle
       first
         | (exfalso; omega)
         | (go_ret
            refine ⟨?_, rfl⟩
            simp only [Lib.bytesTrimSuffix, hp, if_true, Lib.sliceTo, hy]
            first | rfl | (simp [*])))
    | (have hp : Lib.hasSuffix (Lib.bytesOf xs) (Lib.bytesOf ys) = false := by assumption
       go_ret
       refine ⟨?_, rfl⟩
       simp only [Lib.bytesTrimSuffix, hp, Bool.false_eq_true, if_false]
       rfl)

end Go.Proofs.Qxb6612416aDoor.line
