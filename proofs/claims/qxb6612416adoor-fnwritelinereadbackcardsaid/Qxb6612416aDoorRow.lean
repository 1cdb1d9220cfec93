import Derived.Test.Qxb6612416aDoorTop
import Derived.ProofKit
import Derived.MakeChecks
import Derived.LaidLaws
import Derived.Stop.Joined
import Derived.Stop.LaidErr
import Derived.Stop.ErrReads
import Derived.WalkSmall
namespace Go.Proofs.Qxb6612416aDoor.line
open Go.ChangeShapes Go.WideShapes Go.ChangeAt Go.RowKit
open Go.ChangeMaps (open_string shut_string)

theorem own : ownKnob Tryd.prog.godebug = none := by kernel_rfl
theorem gSW : Tryd.prog.globalNamed "io.ErrShortWrite" = some 3 := by kernel_rfl
theorem gEOF : Tryd.prog.globalNamed "io.EOF" = some 2 := by kernel_rfl
theorem gNP : Tryd.prog.globalNamed "io.ErrNoProgress" = some 6 := by kernel_rfl
theorem gBF : Tryd.prog.globalNamed "bufio.ErrBufferFull" = some 1 := by kernel_rfl
theorem gNR : Tryd.prog.globalNamed "bufio.errNegativeRead" = some 5 := by kernel_rfl
theorem gLT : Tryd.prog.globalNamed "example.com/pollwick/pollwick/pkg/protocol.ErrLineTooLong" = some 0 := by kernel_rfl
theorem tEOF : (Tryd.prog.globals[2]?).map (·.type) = some 43 := by kernel_rfl
theorem tNP : (Tryd.prog.globals[6]?).map (·.type) = some 43 := by kernel_rfl
theorem tBF : (Tryd.prog.globals[1]?).map (·.type) = some 43 := by kernel_rfl
theorem tLT : (Tryd.prog.globals[0]?).map (·.type) = some 43 := by kernel_rfl
theorem cells99 : Tryd.prog.cellsOf 99 = 1 := by kernel_rfl
theorem cells9 : Tryd.prog.cellsOf 9 = 1 := by kernel_rfl
theorem star : "*" ++ "errors.errorString" = "*errors.errorString" := by decide
theorem row97 (u : TypeId) (h : Tryd.prog.typeName? 3 u = some "*errors.errorString") : u = 97 :=
  typeName_ptr_named (nm := "errors.errorString") (by rw [star]; kernel_rfl) (by kernel_rfl) (by decide) u (by rw [star]; exact h)

abbrev laid6 : List (String × DataW Unit) := Rows.fnWriteLineReadBackRow.laid

set_option maxRecDepth 100000 in
/-- the two sentinels that the walk compares, and the listed one, as the condition gives them -/
theorem sentinels_of_laid {W : World} (h : laidMet Tryd.prog laid6 W) : Sent W ∧ 2 < W.heap.size ∧ ∃ a : Addr, W.var? Tryd.prog "example.com/pollwick/pollwick/pkg/protocol.ErrLineTooLong" = some #[.iface 97 (.pointer (some a))] := by
  obtain ⟨aL, sL, hvL, -, -, -⟩ := laid_sentinel h.tail.tail.tail.tail.tail gLT tLT Tryd.underlying43 row97 Tryd.underlying97 Tryd.underlying99 rfl rfl Tryd.underlying9 cells99 cells9
  obtain ⟨ps, ⟨g0, t0, cs0, f0, p0, q0, hg0, ht0, hv0, hd0, ⟨g1, t1, cs1, f1, p1, q1, hg1, ht1, hv1, hd1, ⟨g2, t2, cs2, f2, p2, q2, hg2, ht2, hv2, hd2, hq2, e2⟩, e1⟩, e0⟩, hnd, hrows⟩ := h.tail
  clear hd1 hv1 ht1
  obtain rfl := Option.some.inj (gEOF.symm.trans hg0)
  obtain rfl := Option.some.inj (gBF.symm.trans hg2)
  obtain rfl := Option.some.inj (tEOF.symm.trans ht0)
  obtain rfl := Option.some.inj (tBF.symm.trans ht2)
  subst e2
  subst e1
  subst e0
  obtain ⟨l0⟩ := cs0
  obtain ⟨l2⟩ := cs2
  have ok0 : ∀ u v, l0 = [.iface u v] → Value.okWide Tryd.prog W .any 0 u v := fun u v e => by
    subst e
    exact (hrows 2 0 (by simp [MemPlace.row])).2 u v (by simpa using World.var?_cell hg0 hv0 0)
  have ok2 : ∀ u v, l2 = [.iface u v] → Value.okWide Tryd.prog W .any 0 u v := fun u v e => by
    subst e
    exact (hrows 1 0 (by simp [MemPlace.row])).2 u v (by simpa using World.var?_cell hg2 hv2 0)
  obtain ⟨a0, s0, rfl, hc0, hs0, hz0, rfl⟩ := errorString_of_trod Tryd.underlying43 row97 Tryd.underlying97 Tryd.underlying99 rfl rfl Tryd.underlying9 cells99 cells9 hd0 ok0
  obtain ⟨a2, s2, rfl, hc2, hs2, hz2, rfl⟩ := errorString_of_trod Tryd.underlying43 row97 Tryd.underlying97 Tryd.underlying99 rfl rfl Tryd.underlying9 cells99 cells9 hd2 ok2
  obtain ⟨c0, t0, hb0⟩ := (hrows a0.block a0.off (by simp [MemPlace.row])).1
  obtain ⟨c2, t2, hb2⟩ := (hrows a2.block a2.off (by simp [MemPlace.row])).1
  have hE : W.cell? ⟨2, 0, none⟩ = some (.iface 97 (.pointer (some a0))) := by simpa using World.var?_cell gEOF hv0 0
  have hB : W.cell? ⟨1, 0, none⟩ = some (.iface 97 (.pointer (some a2))) := by simpa using World.var?_cell gBF hv2 0
  refine ⟨⟨a2, a0, c0, c2, t0, t2, hB, hE, ?_, hb0, hb2⟩, World.block_lt_of_cell? _ _ hE, aL, hvL⟩
  rintro rfl
  simp [MemPlace.row] at hnd

noncomputable def low : Nat := (World.holding Tryd.prog default ⟨#[], #[], []⟩).heap.size
/-- variable's block: a pointer to new block k -/
noncomputable def setp (k : Nat) : Obj → Obj
  | .cells _ t frozen => .cells #[.iface 97 (.pointer (some ⟨low + k, 0, none⟩))] t frozen
  | o => o
noncomputable def laidWorld (os : Os) : World :=
  let w0 := World.holding Tryd.prog os ⟨#[.cells #[.string ⟨#[115, 104, 111, 114, 116, 32, 119, 114, 105, 116, 101]⟩] 99, .cells #[.string ⟨#[69, 79, 70]⟩] 99,
    .cells #[.string ⟨#[109, 117, 108, 116, 105, 112, 108, 101, 32, 82, 101, 97, 100, 32, 99, 97, 108, 108, 115, 32, 114, 101, 116, 117, 114, 110, 32, 110, 111, 32, 100, 97, 116, 97, 32, 111, 114, 32, 101, 114, 114, 111, 114]⟩] 99,
    .cells #[.string ⟨#[98, 117, 102, 105, 111, 58, 32, 98, 117, 102, 102, 101, 114, 32, 102, 117, 108, 108]⟩] 99,
    .cells #[.string ⟨#[98, 117, 102, 105, 111, 58, 32, 114, 101, 97, 100, 101, 114, 32, 114, 101, 116, 117, 114, 110, 101, 100, 32, 110, 101, 103, 97, 116, 105, 118, 101, 32, 99, 111, 117, 110, 116, 32, 102, 114, 111, 109, 32, 82, 101, 97, 100]⟩] 99,
    .cells #[.string ⟨#[108, 105, 110, 101, 32, 116, 111, 111, 32, 108, 111, 110, 103]⟩] 99], #[], []⟩
  { w0 with heap := (((((w0.heap.modify 3 (setp 0)).modify 2 (setp 1)).modify 6 (setp 2)).modify 1 (setp 3)).modify 5 (setp 4)).modify 0 (setp 5) }

theorem plain6 (w : World) : laidMetH Tryd.prog laid6 w = laidMet Tryd.prog laid6 w := MakeChecks.laidMetH_plain _ _ _ (by kernel_rfl)

theorem laidWorld_met (os : Os) (args : Array Value) : laidMetH Tryd.prog laid6 ((laidWorld os).forCall (fun _ _ => 0) ⟨#[], args, []⟩).memory := by
  rw [plain6]
  exact laidMet_of_run (ps := [.cell 3 0, .cell low 0, .cell 2 0, .cell (low + 1) 0, .cell 6 0, .cell (low + 2) 0, .cell 1 0, .cell (low + 3) 0, .cell 5 0, .cell (low + 4) 0, .cell 0 0, .cell (low + 5) 0]) 8 (by kernel_rfl) (by kernel_rfl) (by kernel_rfl)

set_option maxRecDepth 100000 in
theorem lifted (os : Os) (started : os.Started) (H : Type) (enc : TypeId × Value → H) :
    ReturnsInHanded {} Tryd.checked os 3 .any (fun w args => (Rows.fnWriteLineReadBackSpec.pre enc Tryd.prog Tryd.f3 [] false w args ∧ laidMetH Tryd.prog laid6 w) ∧ sizedMet enc Tryd.prog Tryd.f3 (OpenSpec.ofChange Rows.fnWriteLineReadBackSpec) false w args)
      (Rows.fnWriteLineReadBackSpec.post enc Tryd.prog Tryd.f3 false true false false) := by
  refine returnsInHanded_of_change_and (C := Tryd.checked) (X := fun w _ => laidMetH Tryd.prog laid6 w) (fun _ _ _ hh h => h.of_heap hh) own started (by kernel_rfl) Tryd.func3
    (ChangeSpec.witness_at (enc := enc) (C := Tryd.checked) (os := os) (X := fun w _ => laidMetH Tryd.prog laid6 w) false (laidWorld os) #[.string ⟨#[]⟩] 8 rfl (by kernel_rfl) (by kernel_rfl) (by kernel_rfl) (by kernel_rfl) (by kernel_rfl) (laidWorld_met os _)) ?_
  intro W base args ds gs before hval0 hW _ _ hL _
  have hval : ∀ (j : Nat) t v, Tryd.f3.params[j]? = some t → args[j]? = some v → Value.okWide Tryd.prog W .any base t v := hval0
  have hW' := hW
  obtain ⟨p, q, hA0, hV0, rfl, hfz, hnd⟩ := hW
  have hA : DataW.TrodAll enc Tryd.prog W 0 (fun _ => true) true Tryd.f3.params.toList args.toList ds p := hA0
  have hV : DataW.TrodVars enc Tryd.prog W (fun _ => true) ["example.com/pollwick/pollwick/pkg/protocol.ErrLineTooLong"] gs q := hV0
  rw [Tryd.params3] at hA hval
  obtain ⟨v0, d0, rfl, rfl, h0⟩ := trodAll_one hA
  obtain ⟨s, rfl, rfl, rfl, hs⟩ := open_string Tryd.underlying9 (hval 0 9 v0 rfl rfl) h0
  have hL' : laidMet Tryd.prog laid6 W := by rw [← plain6]; exact hL
  obtain ⟨hS, h2, aL, hvL⟩ := sentinels_of_laid hL'
  obtain ⟨rfl, rfl⟩ := hV.unique (vars_read1 enc gLT tLT Tryd.underlying43 hvL trivial _)
  clear hA0 hV0 hval0
  refine (law_any s hs W hS h2).mono fun e W' ⟨he, hb⟩ => ?_
  subst he
  have e1 : Rows.fnWriteLineReadBackSpec.fn H ([.lit (.string s.data.toList)] ++ [tok enc (.iface 97 (.pointer (some aL)))]) = { results := [.lit (.bool true)], args := [.lit (.string s.data.toList)], vars := [tok enc (.iface 97 (.pointer (some aL)))] } := rfl
  refine ⟨_, rfl, _, _, _, [], [], [.cell 0 0], hW', ?_, ?_, ?_, hb.frame _, fun h => by cases h⟩
  · rw [e1]; exact trodAll_mk1 (shut_bool Tryd.underlying4 true)
  · rw [e1]; exact trodAll_mk1 (shut_string Tryd.underlying9 hs)
  · rw [e1]; exact vars_read1 enc gLT tLT Tryd.underlying43 (var?_below hb gLT (by omega) hvL) trivial _

theorem row_holds : Rows.FnWriteLineReadBackSaid :=
  OpenClaim.holds_of_wide 3 Tryd.f3 rfl rfl rfl rfl rfl rfl rfl ⟨rfl, rfl, rfl, rfl, rfl⟩ rfl rfl rfl rfl rfl (by kernel_rfl) Tryd.func3 (by kernel_rfl)
    (of_decide_eq_true (by kernel_rfl)) (by unfold Func.isWrapper; first | (rw [if_pos (by decide +kernel)]; kernel_rfl) | (rw [if_neg (by decide +kernel)]; exact ⟨rfl, rfl⟩))
    (fun os started H enc _ => lifted os started H enc)

end Go.Proofs.Qxb6612416aDoor.line
