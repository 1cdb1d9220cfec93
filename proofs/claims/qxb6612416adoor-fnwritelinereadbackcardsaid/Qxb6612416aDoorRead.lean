import Derived.Test.Qxb6612416aDoorRows
import Derived.WalkKit
import Derived.WalkLawsBesides
import Derived.WalkSpells
import Derived.ProofKit
import Derived.Lib.Strings
import Derived.Lib.Slices
import Derived.Lib.Walk
import Derived.Lib.BytesEntry
import Derived.Deep.OwnRows
import Derived.Deep.WholeRow
import Derived.Deep.QuietTactic
import Derived.BigQuiet
import Derived.Deep.LoopGhost
import Derived.Deep.RegionWith
import Derived.Deep.RegionLaw
import Derived.Lib.BufferWrite
import Derived.Laws.CopyOwn
import Derived.Lib.IndexBytes
namespace Go.Proofs.Qxb6612416aDoor.line
open Go.RowKit

theorem hid {p : Prop} (h : p) : Hid p := h
theorem size5 : (Tryd.prog.info? 5).map (·.size) = some 1 := by kernel_rfl

/-- row, with the bytes l laid into it from o on -/
def put (row : Array Value) (o : Nat) (l : List UInt8) : Array Value := (row.toList.take o ++ Lib.byteCells l ++ row.toList.drop (o + l.length)).toArray
theorem put_size (row : Array Value) (o : Nat) (l : List UInt8) (h : o + l.length ≤ row.size) : (put row o l).size = row.size := by
  simp [put, Lib.byteCells]; omega
/-- 'copy(dst, s)', s a string, dst in row g from o on: as many bytes go over as dst takes -/
theorem copy_trunc (w : World) (g o dLen dCap : Nat) (s : ByteArray) (cur : Array Value) (t : TypeId) (k : Nat) (hk : k = min s.size dLen)
    (hg : w.heap[g]? = some (.cells cur t (0, 0))) (hfit : o + k ≤ cur.size) :
    (Builtin.copy_ #[37, 9] 3 #[.slice (some ⟨g, o, none⟩) dLen dCap, .string s]).run Tryd.prog w =
      .ok (goInt k) (w.setRow g (put cur o (s.data.toList.take k))) := by
  unfold put
  have hlen : (Lib.byteCells (s.data.toList.take k)).length = k := by
    have h2 := Lib.size_eq s
    rw [Lib.byteCells_length, List.length_take]; omega
  have hlen2 : (s.data.toList.take k).length = k := by rwa [Lib.byteCells_length] at hlen
  rw [hlen2]
  have hst := run_storeCells_at Tryd.prog g o t (Lib.byteCells (s.data.toList.take k)) 0 cur w hg (by rw [hlen]; simpa using hfit) (Lib.byteCells_one _)
  have hmin : Nat.min s.size dLen = k := hk.symm
  have htk : List.take k (List.map (fun b : UInt8 => Value.int IntKind.u8 (b.toNat : Int)) s.data.toList) = Lib.byteCells (s.data.toList.take k) := by
    unfold Lib.byteCells
    rw [List.map_take]
  rw [hlen] at hst
  simp only [Nat.add_zero] at hst
  cases hq : Tryd.prog.info? 5 with
  | none => have := size5; simp [hq] at this
  | some i =>
    simp [Builtin.copy_, run_underlying Tryd.underlying37, Builtin.lenOf, Builtin.firstCells, sizeOf, typeInfo, hq, hmin]
    rw [htk, hst]
    simp [Result.andThen]

/-- a strings.Reader at block b, over T, at place p -/
def SR (w : World) (b : Nat) (T : ByteArray) (p : Nat) (prev : Int) : Prop := w.heap[b]? = some (.cells #[.string T, .int .i64 p, .int .i64 prev] 75 (0, 0))

set_option maxHeartbeats 1000000 in
theorem read_eof (sb : Nat) (T : ByteArray) (p : Nat) (prev : Int) (hp : T.size ≤ p) (b : Value) (te : TypeId) (pe : Value) (w : World) (hs : SR w sb T p prev) (he : w.cell? ⟨2, 0, none⟩ = some (.iface te pe)) :
    Calls Tryd.prog 75 #[.pointer (some ⟨sb, 0, none⟩), b] w fun e w' => e = .returned (.tuple #[.int .i64 0, .iface te pe]) ∧ ∃ q, w' = w.drewN q := by
  have c0 : w.cell? ⟨sb, 0, none⟩ = some (.string T) := by rw [cell_of_row _ _ _ _ _ _ hs]; rfl
  have c1 : w.cell? ⟨sb, 1, none⟩ = some (.int .i64 p) := by rw [cell_of_row _ _ _ _ _ _ hs]; rfl
  clear hs
  go_enter Tryd.func75, Tryd.ntmps75
  go_wp2
  go_quiet (fail)
  go_wp2
  go_quiet (fail)
  go_wp2
  go_ret2
  exact ⟨rfl, _, World.drewN_drewN _ _ _⟩

theorem SR.set2 {w : World} {b : Nat} {T : ByteArray} {p : Nat} {prev : Int} (h : SR w b T p prev) (v : Int) : SR (w.setCell ⟨b, 2, none⟩ (.int .i64 v)) b T p v := by
  unfold SR; rw [heap_setCell_same _ _ _ _ _ _ h]; rfl
theorem SR.set1 {w : World} {b : Nat} {T : ByteArray} {p : Nat} {prev : Int} (h : SR w b T p prev) (p' : Nat) : SR (w.setCell ⟨b, 1, none⟩ (.int .i64 p')) b T p' prev := by
  unfold SR; rw [heap_setCell_same _ _ _ _ _ _ h]; rfl


/-- what stands in w' as it stood in w, but for the blocks of B -/
structure Kept (B : List Nat) (w w' : World) : Prop where
  os : w'.os = w.os
  tape : w'.tape = w.tape
  output : w'.output = w.output
  size : w'.heap.size = w.heap.size
  block : ∀ k, k ∉ B → w'.heap[k]? = w.heap[k]?
theorem Kept.refl (B : List Nat) (w : World) : Kept B w w := ⟨rfl, rfl, rfl, rfl, fun _ _ => rfl⟩
theorem Kept.trans {B : List Nat} {w w1 w2 : World} (h : Kept B w w1) (g : Kept B w1 w2) : Kept B w w2 :=
  ⟨g.os.trans h.os, g.tape.trans h.tape, g.output.trans h.output, g.size.trans h.size, fun k hk => (g.block k hk).trans (h.block k hk)⟩
theorem Kept.mono {B C : List Nat} {w w1 : World} (h : Kept B w w1) (hs : ∀ k, k ∈ B → k ∈ C) : Kept C w w1 :=
  ⟨h.os, h.tape, h.output, h.size, fun k hk => h.block k (fun hb => hk (hs k hb))⟩
theorem Kept.drewN {B : List Nat} {w w1 : World} (h : Kept B w w1) (q : Nat) : Kept B w (w1.drewN q) := ⟨h.os, h.tape, h.output, h.size, h.block⟩
theorem Kept.drew {B : List Nat} {w w1 : World} (h : Kept B w w1) : Kept B w w1.drew := ⟨h.os, h.tape, h.output, h.size, h.block⟩
theorem Kept.setCell {B : List Nat} {w w1 : World} (h : Kept B w w1) (p : Addr) (hp : p.block ∈ B) (u : Value) : Kept B w (w1.setCell p u) :=
  h.trans ⟨rfl, rfl, rfl, by simp [World.setCell], fun k hk => heap_setCell_other _ _ _ _ (fun e => hk (e ▸ hp))⟩
theorem Kept.setRow {B : List Nat} {w w1 : World} (h : Kept B w w1) (g : Nat) (hg : g ∈ B) (cs : Array Value) : Kept B w (w1.setRow g cs) :=
  h.trans ⟨rfl, rfl, rfl, size_setRow _ _ _, fun _ hk => setRow_other _ _ _ _ (fun e => hk (e ▸ hg))⟩

set_option maxHeartbeats 1000000 in
theorem read_data (sb bb o n c : Nat) (T : ByteArray) (p : Nat) (prev : Int) (row : Array Value) (hT : T.size ≤ 1048577) (hp : p < T.size) (w : World) (hs : SR w sb T p prev) (hb : w.heap[bb]? = some (.cells row 5 (0, 0))) (hne : bb ≠ sb)
    (hrow : o + n ≤ row.size) (k : Nat) (hk : k = min (T.size - p) n) :
    Calls Tryd.prog 75 #[.pointer (some ⟨sb, 0, none⟩), .slice (some ⟨bb, o, none⟩) n c] w fun e w' => e = .returned (.tuple #[.int .i64 k, .nilIface]) ∧
      SR w' sb T (p + k) (-1) ∧ w'.heap[bb]? = some (.cells (put row o ((T.data.toList.drop p).take k)) 5 (0, 0)) ∧ Kept [sb, bb] w w' := by
  have c0 : w.cell? ⟨sb, 0, none⟩ = some (.string T) := by rw [cell_of_row _ _ _ _ _ _ hs]; rfl
  have c1 : w.cell? ⟨sb, 1, none⟩ = some (.int .i64 p) := by rw [cell_of_row _ _ _ _ _ _ hs]; rfl
  have c2 : w.cell? ⟨sb, 2, none⟩ = some (.int .i64 prev) := by rw [cell_of_row _ _ _ _ _ _ hs]; rfl
  have f2 : w.frozen? ⟨sb, 2, none⟩ = false := frozen_of_row _ _ _ _ _ hs
  have hp1 : (p : Int) < (T.size : Int) := by omega
  have hkT : k ≤ T.size - p := by omega
  have HK := hid hk
  clear hk
  go_enter Tryd.func75, Tryd.ntmps75
  go_wp2
  go_quiet (fail)
  go_wp2
  have hs' := (SR.set2 (w := w.drewN nq) hs (-1))
  have hb' : ((w.drewN nq).setCell ⟨sb, 2, none⟩ (.int .i64 (-1))).heap[bb]? = some (.cells row 5 (0, 0)) := by rw [heap_setCell_other _ _ _ _ (by exact hne)]; exact hb
  have hkept : Kept [sb, bb] w ((w.drewN nq).setCell ⟨sb, 2, none⟩ (.int .i64 (-1))) := ((Kept.refl _ _).drewN _).setCell _ (by simp) _
  generalize ((w.drewN nq).setCell ⟨sb, 2, none⟩ (.int .i64 (-1))) = W at hs' hb' hkept ⊢
  clear c0 c1 c2 f2 hs hb
  have c0 : W.cell? ⟨sb, 0, none⟩ = some (.string T) := by rw [cell_of_row _ _ _ _ _ _ hs']; rfl
  have c1 : W.cell? ⟨sb, 1, none⟩ = some (.int .i64 p) := by rw [cell_of_row _ _ _ _ _ _ hs']; rfl
  have hcp := copy_trunc W.drew bb o n c (T.extract p T.size) row 5 k (by rw [ByteArray.size_extract, HK.out]; omega) hb' (by have := HK.out; omega)
  rw [show (T.extract p T.size).data.toList = T.data.toList.drop p from Lib.extract_to_end T p] at hcp
  obtain ⟨row', hrow'⟩ : ∃ r, put row o ((T.data.toList.drop p).take k) = r := ⟨_, rfl⟩
  rw [hrow'] at hcp
  go_region
  have hs2 : SR (W.drew.setRow bb row') sb T p (-1) := by
    unfold SR; rw [setRow_other _ _ _ _ (by exact fun e => hne e.symm)]; exact hs'
  have hb2 : (W.drew.setRow bb row').heap[bb]? = some (.cells row' 5 (0, 0)) := setRow_heap W.drew bb row row' 5 _ hb'
  have hkept2 : Kept [sb, bb] w (W.drew.setRow bb row') := hkept.drew.setRow _ (by simp) _
  generalize W.drew.setRow bb row' = W2 at hs2 hb2 hkept2 ⊢
  clear c0 c1 hcp hs' hb' hkept
  have c0 : W2.cell? ⟨sb, 0, none⟩ = some (.string T) := by rw [cell_of_row _ _ _ _ _ _ hs2]; rfl
  have c1 : W2.cell? ⟨sb, 1, none⟩ = some (.int .i64 p) := by rw [cell_of_row _ _ _ _ _ _ hs2]; rfl
  have f1 : W2.frozen? ⟨sb, 1, none⟩ = false := frozen_of_row _ _ _ _ _ hs2
  go_wp2
  go_ret2
  refine ⟨rfl, hs2.set1 (p + k), ?_, hkept2.setCell _ (by simp) _⟩
  rw [heap_setCell_other _ _ _ _ (by exact hne), hrow']
  exact hb2

end Go.Proofs.Qxb6612416aDoor.line
