import Derived.Test.Qxb6612416aDoorRows
import Derived.Shelf.Bytes.WriteAny
import Derived.Shelf.Bytes.WriteStringKept
import Derived.Shelf.Bytes.String
import Derived.Shelf.Bytes.GrowOwn
import Derived.Shelf.Bytes.GrowSlice
import Derived.Shelf.Lay
import Derived.Ground.NamesProg
import Derived.Lib.BufferOwn
import Derived.Lib.BufferOld
import Derived.WalkKit
namespace Go.Proofs
open Go.Shelf Go.RowKit

shelf_lay LaysM.n178 Nm 178 at Tryd as Tryd.laysM178
shelf_lay LaysM.n180 Nm 180 at Tryd as Tryd.laysM180
shelf_lay LaysM.n181 Nm 181 at Tryd as Tryd.laysM181
shelf_lay LaysM.n182 Nm 182 at Tryd as Tryd.laysM182
shelf_lay LaysM.n251 Nm 251 at Tryd as Tryd.laysM251
shelf_lay LaysM.n290 Nm 290 at Tryd as Tryd.laysM290

namespace Qxb6612416aDoor.line

/-- (*bytes.Buffer).Write -/
theorem bWrite (B b : Nat) (bs cs : List Value) (a : Addr) (n c : Nat) (w : World) (h : Lib.IsBuffer 41 5 B b bs w) (hBw : B ≤ w.heap.size) (h1 : ∀ v ∈ bs, v.oneCell' = true)
    (hn : cs.length = n) (hab : a.block ≠ b) (hsrc : ∀ j v, cs[j]? = some v → w.cell? (a.add j) = some v) (h1c : ∀ v ∈ cs, v.oneCell' = true) (hlim : bs.length + n ≤ 140737488355328) :
    Calls Tryd.prog 65 #[.pointer (some ⟨b, 0, none⟩), .slice (some a) n c] w fun e w' => e = .returned (.tuple #[.int .i64 n, .nilIface]) ∧ Lib.IsBuffer 41 5 B b (bs ++ cs) w' ∧ Below B w w' ∧ Lib.OthersKept 5 (some b) w w' :=
  Any.Buffer_Write_any Tryd.laysM180 B b bs cs a n c w h hBw h1 hn hab hsrc h1c hlim
/-- (*bytes.Buffer).String -/
theorem bString (B b : Nat) (l : List UInt8) (w : World) (h : Lib.IsBuffer 41 5 B b (Lib.byteCells l) w) :
    Calls Tryd.prog 19 #[.pointer (some ⟨b, 0, none⟩)] w fun e w' => e = .returned (.string ⟨l.toArray⟩) ∧ ∃ n, w' = w.drewN n := Any.Buffer_String Tryd.laysM182 B b l w h
/-- (*bytes.Buffer).Len -/
theorem bLen (B b : Nat) (bs : List Value) (w : World) (h : Lib.IsBuffer 41 5 B b bs w) :
    Calls Tryd.prog 70 #[.pointer (some ⟨b, 0, none⟩)] w fun e w' => e = .returned (.int .i64 bs.length) ∧ ∃ n, w' = w.drewN n := Any.Buffer_Len Tryd.laysM181 B b bs w h
/-- tryGrowByReslice, where there is no room -/
theorem bTry (b : Nat) (ao : Option Addr) (l cap n : Nat) (w : World) (c0 : w.cell? ⟨b, 0, none⟩ = some (.slice ao l cap)) (hlc : l ≤ cap) (hcap : cap ≤ maxLen) (hn : cap - l < n) :
    Calls Tryd.prog 68 #[.pointer (some ⟨b, 0, none⟩), .int .i64 n] w fun e w' => e = .returned (.tuple #[.int .i64 0, .bool false]) ∧ w' = w := Any.Buffer_tryGrow_none Tryd.laysM251 b ao l cap n w c0 hlc hcap hn
/-- bytes.growSlice at nil -/
theorem bGrowSlice (n : Nat) (w : World) (hn : 1 ≤ n) (hlim : n ≤ 140737488355328) :
    Calls Tryd.prog 71 #[.slice none 0 0, .int .i64 n] w fun e w' => ∃ cap2 cells, e = .returned (.slice (some ⟨w.heap.size, 0, none⟩) 0 cap2) ∧ w'.heap[w.heap.size]? = some (.cells cells 5 (0, 0)) ∧
      cells.size = cap2 ∧ n ≤ cap2 ∧ cap2 ≤ maxLen ∧ Below w.heap.size w w' := Any.bytes_growSlice_nil Tryd.laysM290 n w hn hlim

end Qxb6612416aDoor.line
end Go.Proofs
