import Derived.Test.Qxb6609523aRows
import Derived.WalkKit
import Derived.WalkLawsBesides
import Derived.WalkSpells
import Derived.ProofKit
import Derived.Lib.Strings
import Derived.Lib.Slices
import Derived.Lib.Walk
import Derived.Lib.BytesEntry
import Derived.Deep.OwnRows
import Derived.Deep.WholeRow
import Derived.Deep.QuietTactic
import Derived.BigQuiet
import Derived.Deep.LoopGhost
namespace Go.Proofs.Qxb6609523a.tree
open Go.RowKit

theorem ret_bool {a b : Bool} (h : a = b) : Ending.returned (.bool a) = .returned (.bool b) := by rw [h]
theorem info5 : (Try.prog.info? 5).map (fun i => (i.zero, i.size, i.bytes)) = some (some (.int .u8 0), 1, 1) := by kernel_rfl

set_option maxHeartbeats 400000 in
theorem bytes_any (a : Option Addr) (n c : Nat) (hn : n ≤ maxLen) (w : World) :
    Calls Try.prog 6 #[.slice a n c] w fun e w' => e = .returned (.bool (decide (n ≤ 1048576))) ∧ w' = w := by
  unfold maxLen at hn
  by_cases h1 : n ≤ 1048576
  all_goals
    go_enter Try.func6, Try.ntmps6
    go_wp2
    go_ret
    exact ⟨ret_bool (by simp; omega), rfl⟩

set_option maxHeartbeats 400000 in
theorem clone_nil (w : World) : Calls Try.prog 7 #[.slice none 0 0] w fun e w' => e = .returned (.slice none 0 0) ∧ w' = w := by
  have kn := fun (w : World) (a : Option Addr) (n c : Nat) => Lib.run_eql_slice_nil (P := Try.prog) w 22 5 a n c 0 0 Try.underlying22
  go_enter Try.func7, Try.ntmps7
  go_wp2
  go_ret
  exact ⟨rfl, rfl⟩

set_option maxHeartbeats 1000000 in
theorem clone_any (x : Addr) (n c : Nat) (f : Nat → Int) (w : World) (hn : n ≤ 1048576) (hc : ∀ i, i < n → w.cell? (x.add i) = some (.int .u8 (f i))) :
    Calls Try.prog 7 #[.slice (some x) n c] w fun e w' => e = .returned (.slice (some ⟨w.heap.size, 0, none⟩) n n) ∧ w'.rowIs w.heap.size 5 n (fun i => .int .u8 (f i)) ∧
      Below w.heap.size w w' ∧ w'.heap.size = w.heap.size + 1 := by
  have kn := fun (w : World) (a : Option Addr) (n c : Nat) => Lib.run_eql_slice_nil (P := Try.prog) w 22 5 a n c 0 0 Try.underlying22
  have hmk := run_make_row' (P := Try.prog) 22 5 (.int .u8 0) 1 Try.underlying22 info5 rfl .i64 .i64 n (by omega) (by omega)
  go_enter Try.func7, Try.ntmps7
  go_wp2
  clear hmk
  go_loopw [4] (fun i wr => ∃ k : Nat, k ≤ n ∧ i = .int .i64 k ∧ wr.rowIs w.heap.size 5 n (fun i => if i < k then .int .u8 (f i) else .int .u8 0) ∧ Below w.heap.size w wr ∧ wr.heap.size = w.heap.size + 1) (fun i _ => n - (intOf i).toNat)
  case atStart => exact ⟨0, Nat.zero_le _, rfl, by simpa using World.rowIs_made w (.int .u8 0) n 5, (Below.refl _ _).alloc (Nat.le_refl _) _, by simp⟩
  case round =>
    obtain ⟨k, hk, rfl, hrow, hb, hsz⟩ := hrel
    by_cases hlt : k < n
    · have hk' : (k : Int) < (n : Int) := by omega
      have hx : x.block < w.heap.size := by
        have := World.block_lt_of_cell? _ _ (hc k hlt)
        unfold Addr.add at this; split at this <;> simpa using this
      have hxk : (x.add k).block < w.heap.size := World.block_lt_of_cell? _ _ (hc k hlt)
      have h1 : wr.cell? (x.add k) = some (.int .u8 (f k)) := (hb.cell hxk).trans (hc k hlt)
      have h2 := hrow.cell hlt
      have h3 := hrow.frozen k
      go_wp2
      go_roundw
      case rel => exact ⟨k + 1, by omega, by go_num, (hrow.set k _).congr (fun i hi => by show (if i = k then _ else _) = _; by_cases e : i = k; (subst e; simp); (rw [if_neg e]; by_cases e2 : i < k; (rw [if_pos e2, if_pos (by omega)]); (rw [if_neg e2, if_neg (by omega)]))), hb.setCell (Nat.le_refl _) _, by rw [← hsz]; simp [World.setCell]⟩
      case measure => simp [intOf]; omega
    · go_wp2
      go_ret
      exact ⟨rfl, hrow.congr (fun i hi => by simp; omega), hb, hsz⟩

/-- IN w A ROW OF BYTES: the slice value shows the bytes 'l', in block b from offset o on. -/
def Shows (w : World) (b o : Nat) (l : List UInt8) : Prop := ∀ i (h : i < l.length), w.cell? ⟨b, o + i, none⟩ = some (.int .u8 (l[i].toNat : Int))

theorem nums (l : List UInt8) : Lib.bytesOf (l.map fun c => (c.toNat : Int)) = l := by
  unfold Lib.bytesOf
  rw [List.map_map]
  conv => rhs; rw [← List.map_id l]
  apply List.map_congr_left
  intro c _
  simp
theorem cells_of {w : World} {b o : Nat} {l : List UInt8} (h : Shows w b o l) : ∀ i, i < l.length → w.cell? ⟨b, o + i, none⟩ = some (.int .u8 ((l.map fun c => (c.toNat : Int)).getD i 0)) := by
  intro i hi
  rw [h i hi]
  simp [List.getD, hi]

set_option maxHeartbeats 1000000 in
set_option maxRecDepth 100000 in
theorem index_any (b o n c : Nat) (l : List UInt8) (w : World) (hn : l.length = n) (hc : Shows w b o l) :
    Calls Try.prog 16 #[.slice (some ⟨b, o, none⟩) n c, .int .u8 0] w fun e w' => e = .returned (.int .i64 (Lib.indexByte l 0)) ∧ w' = w := by
  subst hn
  have hh := Lib.run_indexByteSlice (P := Try.prog) w b o l.length c (l.map fun c => (c.toNat : Int)) (by simp) (cells_of hc) 0
  rw [nums] at hh
  clear hc
  go_enter Try.func16, Try.ntmps16
  go_wp2
  rw [run_callFunc_extern Try.func20 (by kernel_rfl) (by kernel_rfl) (by kernel_rfl) (e := Extern.BytealgIndexByte.indexByte) (by kernel_rfl), hh]
  clear hh
  simp only [Result.andThen]
  rw [Oper.upon_value]
  go_wp2
  go_ret
  exact ⟨rfl, rfl⟩

set_option maxHeartbeats 1000000 in
set_option maxRecDepth 100000 in
theorem index_nil (c : Nat) (w : World) :
    Calls Try.prog 16 #[.slice none 0 c, .int .u8 0] w fun e w' => e = .returned (.int .i64 (-1)) ∧ w' = w := by
  have hh := Lib.run_indexByteNil (P := Try.prog) w 0 c 0
  go_enter Try.func16, Try.ntmps16
  go_wp2
  rw [run_callFunc_extern Try.func20 (by kernel_rfl) (by kernel_rfl) (by kernel_rfl) (e := Extern.BytealgIndexByte.indexByte) (by kernel_rfl), hh]
  clear hh
  simp only [Result.andThen]
  rw [Oper.upon_value]
  go_wp2
  go_ret
  exact ⟨rfl, rfl⟩

set_option maxHeartbeats 1000000 in
theorem equal_any (b1 o1 c1 b2 o2 c2 n : Nat) (l : List UInt8) (w : World) (hn : l.length = n) (h1 : Shows w b1 o1 l) (h2 : Shows w b2 o2 l) :
    Calls Try.prog 17 #[.slice (some ⟨b1, o1, none⟩) n c1, .slice (some ⟨b2, o2, none⟩) n c2] w fun e w' => e = .returned (.bool true) ∧ w' = w := by
  subst hn
  have g1 := run_convert_bytes_arg (P := Try.prog) w 22 5 Try.underlying22 Try.underlying5 b1 o1 l.length c1 _ (by simp) (cells_of h1) 9 Try.underlying9
  have g2 := run_convert_bytes_arg (P := Try.prog) w 22 5 Try.underlying22 Try.underlying5 b2 o2 l.length c2 _ (by simp) (cells_of h2) 9 Try.underlying9
  clear h1 h2
  generalize strOfNums (l.map fun c => (c.toNat : Int)) = s at g1 g2
  go_enter Try.func17, Try.ntmps17
  go_wp2
  go_ret
  exact ⟨ret_bool (by simp), rfl⟩

set_option maxHeartbeats 1000000 in
theorem same_any (b1 o1 c1 b2 o2 c2 n : Nat) (l : List UInt8) (w : World) (hl : n ≤ 1048576) (hn : l.length = n) (h1 : Shows w b1 o1 l) (h2 : Shows w b2 o2 l) :
    Calls Try.prog 12 #[.slice (some ⟨b1, o1, none⟩) n c1, .slice (some ⟨b2, o2, none⟩) n c2] w fun e w' => e = .returned (.bool true) ∧ ∃ q, w' = w.drewN q := by
  subst hn
  go_enter Try.func12, Try.ntmps12
  go_wp2
  go_loopw [5] (fun i wr => ∃ k q : Nat, k ≤ l.length ∧ i = .int .i64 k ∧ wr = w.drewN q) (fun i _ => l.length - (intOf i).toNat)
  case atStart => exact ⟨0, 0, Nat.zero_le _, rfl, rfl⟩
  case round =>
    obtain ⟨k, q, hk, rfl, rfl⟩ := hrel
    by_cases hlt : k < l.length
    · have hk' : (k : Int) < (l.length : Int) := by omega
      have c1 := h1 k hlt
      have c2 := h2 k hlt
      go_wp2
      go_quiet (fail)
      go_wp2
      go_roundw
      case rel => exact ⟨k + 1, _, by omega, by go_num, rfl⟩
      case measure => simp [intOf]; omega
    · go_wp2
      go_ret
      exact ⟨rfl, q, rfl⟩


/-- the cells of a scanner whose rest is v and whose count is n -/
def cellsOf (v n : Value) : Array Value := #[v, n, .slice none 0 0, .bool false, .int .u32 0, .string ⟨#[]⟩, .int .u8 0,
  .int .u8 0, .int .u8 0, .int .u8 0, .int .u8 0, .int .u8 0, .int .u8 0, .int .u8 0, .int .u8 0, .int .u8 0, .int .u8 0,
  .int .u8 0, .int .u8 0, .int .u8 0, .int .u8 0, .int .u8 0, .int .u8 0, .int .u8 0, .int .u8 0, .int .u8 0, .int .u8 0, .slice none 0 0, .nilIface]
theorem zero34 : ∀ w, (zeroValue 34).run Try.prog w = .ok (.agg (cellsOf (.slice none 0 0) (.int .i64 0))) w := fun _ => by kernel_rfl
theorem size34 : (Try.prog.info? 34).map (·.size) = some 29 := by kernel_rfl
theorem size_cellsOf (v n : Value) : (cellsOf v n).size = 29 := rfl
theorem built34 (a : Option Addr) (n c : Nat) : Try.prog.built 34 [(0, .slice a n c)] = some (cellsOf (.slice a n c) (.int .i64 0)) := by kernel_rfl
def someCells : Array Value := cellsOf (.slice none 0 0) (.int .i64 0)
theorem one_cellsOf (a : Option Addr) (n c : Nat) (m : Int) : (cellsOf (.slice a n c) (.int .i64 m)).all (·.oneCell') = true := by kernel_rfl


theorem bcell {W w1 : World} (hb : Below W.heap.size W w1) : (∀ b o, b < W.heap.size → w1.cell? ⟨b, o, none⟩ = W.cell? ⟨b, o, none⟩) ∧ (∀ b o, b < W.heap.size → w1.frozen? ⟨b, o, none⟩ = W.frozen? ⟨b, o, none⟩) :=
  ⟨fun b o h => hb.cell (p := ⟨b, o, none⟩) h, fun b o h => hb.frozen (p := ⟨b, o, none⟩) h⟩

set_option maxHeartbeats 1000000 in
theorem new_any (a : Option Addr) (n c : Nat) (w : World) :
    Calls Try.prog 8 #[.slice a n c] w fun e w' => e = .returned (.agg (cellsOf (.slice a n c) (.int .i64 0))) ∧ w' = w.alloc (.cells (cellsOf (.slice a n c) (.int .i64 0)) 34) := by
  go_enter Try.func8, Try.ntmps8
  go_wp2_with (first
    | (refine wpList_build rfl 34 #[(0, .tmp 3)] rfl (by kernel_rfl) ?_; show wpList _ _ _ _ (Act.put _ _ (.agg ((Try.prog.built 34 [(0, Value.slice a n c)]).getD #[]))) _; rw [built34])
    | (refine wpList_store_row rfl 34 (.tmp 2) (.tmp 4) rfl w.heap.size (cellsOf (.slice a n c) (.int .i64 0)) rfl rfl 34 _ (heap_alloc_new w _) size34 rfl (one_cellsOf _ _ _ _) ?_; rw [World.setRow_alloc_new]))
  refine bodyPost_ret (v := .agg (cellsOf (.slice a n c) (.int .i64 0))) (results_cell_row Try.results8 _ _ w.heap.size 34 _ (0, 0) _ rfl (heap_alloc_new w _) Try.underlying34 rfl size34) rfl ⟨rfl, rfl⟩

/-- BLOCK b IS A SCANNER: its rest is v, its count m, no error. -/
def Scan (w : World) (b : Nat) (v : Value) (m : Int) : Prop := w.heap[b]? = some (.cells (cellsOf v (.int .i64 m)) 34 (0, 0))
theorem Scan.rest {w : World} {b : Nat} {v : Value} {m : Int} (h : Scan w b v m) : w.cell? ⟨b, 0, none⟩ = some v := by
  rw [cell_of_row _ _ _ _ _ _ h]; rfl
theorem Scan.count {w : World} {b : Nat} {v : Value} {m : Int} (h : Scan w b v m) : w.cell? ⟨b, 1, none⟩ = some (.int .i64 m) := by
  rw [cell_of_row _ _ _ _ _ _ h]; rfl
theorem Scan.err {w : World} {b : Nat} {v : Value} {m : Int} (h : Scan w b v m) : w.cell? ⟨b, 28, none⟩ = some .nilIface := by
  rw [cell_of_row _ _ _ _ _ _ h]; rfl
theorem Scan.free {w : World} {b : Nat} {v : Value} {m : Int} (h : Scan w b v m) (j : Nat) : w.frozen? ⟨b, j, none⟩ = false := frozen_of_row _ _ _ _ _ h
theorem Scan.set0 {w : World} {b : Nat} {v : Value} {m : Int} (h : Scan w b v m) (v' : Value) : Scan (w.setCell ⟨b, 0, none⟩ v') b v' m := by
  unfold Scan; rw [heap_setCell_same _ _ _ _ _ _ h]; rfl
theorem Scan.set1 {w : World} {b : Nat} {v : Value} {m : Int} (h : Scan w b v m) (m' : Int) : Scan (w.setCell ⟨b, 1, none⟩ (.int .i64 m')) b v m' := by
  unfold Scan; rw [heap_setCell_same _ _ _ _ _ _ h]; rfl
theorem Scan.other {w : World} {b : Nat} {v : Value} {m : Int} (h : Scan w b v m) {a : Addr} (ha : b ≠ a.block) (u : Value) : Scan (w.setCell a u) b v m := by
  unfold Scan; rw [heap_setCell_other _ _ _ _ ha]; exact h
theorem Scan.lt {w : World} {b : Nat} {v : Value} {m : Int} (h : Scan w b v m) : b < w.heap.size := by
  obtain ⟨hlt, _⟩ := Array.getElem?_eq_some_iff.1 h
  exact hlt

/-- Nothing but the blocks a and b has turned. -/
structure Kept2 (a b : Nat) (w w' : World) : Prop where
  os : w'.os = w.os
  tape : w'.tape = w.tape
  output : w'.output = w.output
  size : w'.heap.size = w.heap.size
  block : ∀ k, k ≠ a → k ≠ b → w'.heap[k]? = w.heap[k]?
theorem Kept2.refl (a b : Nat) (w : World) : Kept2 a b w w := ⟨rfl, rfl, rfl, rfl, fun _ _ _ => rfl⟩
theorem Kept2.trans {a b : Nat} {w w1 w2 : World} (h : Kept2 a b w w1) (g : Kept2 a b w1 w2) : Kept2 a b w w2 :=
  ⟨g.os.trans h.os, g.tape.trans h.tape, g.output.trans h.output, g.size.trans h.size, fun k h1 h2 => (g.block k h1 h2).trans (h.block k h1 h2)⟩
theorem Kept2.drewN {a b : Nat} {w w1 : World} (h : Kept2 a b w w1) (q : Nat) : Kept2 a b w (w1.drewN q) := ⟨h.os, h.tape, h.output, h.size, h.block⟩
theorem Kept2.setCell {a b : Nat} {w w1 : World} (h : Kept2 a b w w1) (p : Addr) (hp : p.block = a ∨ p.block = b) (u : Value) : Kept2 a b w (w1.setCell p u) :=
  h.trans ⟨rfl, rfl, rfl, by simp [World.setCell], fun k h1 h2 => heap_setCell_other _ _ _ _ (by rcases hp with e | e <;> omega)⟩
theorem Kept2.below {a b B : Nat} {w w1 : World} (h : Kept2 a b w w1) (ha : B ≤ a) (hb : B ≤ b) : Below B w w1 :=
  ⟨h.os, h.tape, h.output, by rw [h.size]; exact Nat.le_refl _, fun k hk => h.block k (by omega) (by omega)⟩
theorem Shows.kept {w w' : World} {b o : Nat} {l : List UInt8} (h : Shows w b o l) (e : w'.heap[b]? = w.heap[b]?) : Shows w' b o l := by
  intro i hi
  rw [World.cell?_of_block (w := w) (by exact e)]
  exact h i hi
theorem Shows.window {w : World} {b k o n : Nat} {l : List UInt8} (h : Shows w b 0 l) (hk : k + n ≤ l.length) (ho : 0 < n → o = k) : Shows w b o ((l.drop k).take n) := by
  intro i hi
  simp at hi
  obtain rfl := ho (by omega)
  have := h (o + i) (by omega)
  simp only [Nat.zero_add] at this
  rw [this]
  simp
theorem Shows.tail {w : World} {b k o : Nat} {l : List UInt8} (h : Shows w b 0 l) (ho : k < l.length → o = k) : Shows w b o (l.drop k) := by
  intro i hi
  simp at hi
  obtain rfl := ho (by omega)
  have := h (o + i) (by omega)
  simp only [Nat.zero_add] at this
  rw [this]
  simp

/-- a whole entry begins at k -/
def whole (l : List UInt8) (k : Nat) : Prop := 0 ≤ Lib.indexByte (l.drop k) 0 ∧ Lib.indexByte (l.drop k) 0 + 21 ≤ ((l.length - k : Nat) : Int)

end Go.Proofs.Qxb6609523a.tree
