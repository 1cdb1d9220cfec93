import Derived.Test.Qxb6609523aSmall
import Derived.Lib.IndexLaws
namespace Go.Proofs.Qxb6609523a.tree
open Go.RowKit

theorem idx_bounds (l : List UInt8) (c : UInt8) : -1 ≤ Lib.indexByte l c ∧ Lib.indexByte l c < l.length := by
  refine ⟨Lib.indexByte_ge l c, ?_⟩
  have h1 := Lib.indexByte_ge l c
  by_cases h : Lib.indexByte l c = -1
  · omega
  · obtain ⟨o, ho⟩ : ∃ o : Nat, Lib.indexByte l c = o := ⟨(Lib.indexByte l c).toNat, by omega⟩
    have h2 := (Lib.indexByte_some ho).1
    have := (List.getElem?_eq_some_iff.1 h2).1
    omega

theorem hid {p : Prop} (h : p) : Hid p := h
/-- what the loop keeps -/
structure Inv (bs bo A B : Nat) (l : List UInt8) (k0 m0 p1 p2 : Nat) (w wr : World) (k r m o1 o2 : Nat) : Prop where
  len : k + r = l.length
  ge : k0 ≤ k
  at1 : 0 < r → o1 = k
  at2 : 0 < r → o2 = k
  more : m0 ≤ m
  by21 : 21 * (m - m0) ≤ k - k0
  zero : m = m0 → k = k0
  stuck : ¬ whole l k0 → k = k0 ∧ m = m0
  sc : Scan wr bs (.slice (some ⟨A, p1, none⟩) (l.length - k0) (l.length - k0)) m
  oc : Scan wr bo (.slice (some ⟨B, p2, none⟩) (l.length - k0) (l.length - k0)) m
  kept : Kept2 bs bo w wr

theorem Shows.take {w : World} {b o : Nat} {l : List UInt8} (h : Shows w b o l) (n : Nat) : Shows w b o (l.take n) := by
  intro i hi
  have hi' : i < l.length := by simp at hi; omega
  rw [h i hi']
  simp
/-- what SkipSame leaves -/
structure Out (bs bo A B : Nat) (l : List UInt8) (k0 m0 : Nat) (w wr : World) (k r m o1 o2 : Nat) : Prop where
  len : k + r = l.length
  ge : k0 ≤ k
  at1 : 0 < r → o1 = k
  at2 : 0 < r → o2 = k
  more : m0 ≤ m
  by21 : 21 * (m - m0) ≤ k - k0
  zero : m = m0 → k = k0
  stuck : ¬ whole l k0 → k = k0 ∧ m = m0
  sc : Scan wr bs (.slice (some ⟨A, o1, none⟩) r r) m
  oc : Scan wr bo (.slice (some ⟨B, o2, none⟩) r r) m
  kept : Kept2 bs bo w wr
  done : ¬ whole l k

theorem Inv.out {bs bo A B : Nat} {l : List UInt8} {k0 m0 p1 p2 : Nat} {w wr : World} {k r m o1 o2 : Nat} (I : Inv bs bo A B l k0 m0 p1 p2 w wr k r m o1 o2) (hne : bs ≠ bo) (hd : ¬ whole l k) (q : Nat) :
    Out bs bo A B l k0 m0 w (((wr.drewN q).setCell ⟨bs, 0, none⟩ (.slice (some ⟨A, o1, none⟩) r r)).setCell ⟨bo, 0, none⟩ (.slice (some ⟨B, o2, none⟩) r r)) k r m o1 o2 :=
  ⟨I.len, I.ge, I.at1, I.at2, I.more, I.by21, I.zero, I.stuck, (Scan.set0 (w := wr.drewN q) I.sc _).other hne _, (Scan.other (w := wr.drewN q) I.oc (by exact fun e => hne e.symm) _).set0 _,
    (((I.kept.drewN q).setCell _ (Or.inl rfl) _).setCell _ (Or.inr rfl) _), hd⟩

theorem Inv.step {bs bo A B : Nat} {l : List UInt8} {k0 m0 p1 p2 : Nat} {w wr : World} {k r m o1 o2 : Nat} (I : Inv bs bo A B l k0 m0 p1 p2 w wr k r m o1 o2) (hne : bs ≠ bo) (j q : Nat)
    (hj : Lib.indexByte (l.drop k) 0 = (j : Int)) (hr : j + 21 ≤ r) (o1' o2' r' : Nat) (er : r' = r - (j + 21)) (e1 : r ≠ j + 21 → o1' = o1 + (j + 21)) (e2 : r ≠ j + 21 → o2' = o2 + (j + 21)) :
    Inv bs bo A B l k0 m0 p1 p2 w (((wr.drewN q).setCell ⟨bs, 1, none⟩ (.int .i64 ((m : Int) + 1))).setCell ⟨bo, 1, none⟩ (.int .i64 ((m : Int) + 1))) (k + (j + 21)) r' (m + 1) o1' o2' := by
  have hl := I.len
  have hlr : l.length - k = r := by omega
  have hw : whole l k := ⟨by omega, by rw [hj, hlr]; omega⟩
  have hmore := I.more
  have h21 := I.by21
  have hge := I.ge
  refine ⟨by omega, by omega, fun h => ?_, fun h => ?_, by omega, by omega, fun h => by omega, fun h => ?_, ?_, ?_, ?_⟩
  · have := I.at1 (by omega); have := e1 (by omega); omega
  · have := I.at2 (by omega); have := e2 (by omega); omega
  · obtain ⟨e, _⟩ := I.stuck h
    subst e
    exact absurd hw h
  · exact ((Scan.set1 (w := wr.drewN q) I.sc _).other hne _)
  · exact ((Scan.other (w := wr.drewN q) I.oc (by exact fun e => hne e.symm) _).set1 _)
  · exact (((I.kept.drewN q).setCell _ (Or.inl rfl) _).setCell _ (Or.inr rfl) _)

set_option maxHeartbeats 1000000 in
theorem skip_any (bs bo A B : Nat) (l : List UInt8) (hl : l.length ≤ 1048576) (k0 m0 p1 p2 : Nat) (w : World)
    (hne : bs ≠ bo) (hA1 : A ≠ bs) (hA2 : A ≠ bo) (hB1 : B ≠ bs) (hB2 : B ≠ bo) (hSA : Shows w A 0 l) (hSB : Shows w B 0 l)
    (hk0 : k0 ≤ l.length) (hp1 : k0 < l.length → p1 = k0) (hp2 : k0 < l.length → p2 = k0) (hm0 : m0 ≤ k0)
    (hs : Scan w bs (.slice (some ⟨A, p1, none⟩) (l.length - k0) (l.length - k0)) m0) (ho : Scan w bo (.slice (some ⟨B, p2, none⟩) (l.length - k0) (l.length - k0)) m0) :
    Calls Try.prog 9 #[.pointer (some ⟨bs, 0, none⟩), .pointer (some ⟨bo, 0, none⟩)] w fun e w' => e = .returned (.tuple #[]) ∧ ∃ k r m o1 o2, Out bs bo A B l k0 m0 w w' k r m o1 o2 := by
  have c1 := hs.rest
  have c2 := hs.count
  have c3 := hs.err
  have d1 := ho.rest
  have d2 := ho.count
  have d3 := ho.err
  go_enter Try.func9, Try.ntmps9
  go_wp2
  go_quiet (fail)
  go_wp2
  clear c1 c2 c3 d1 d2 d3
  go_loopw [4, 5] (fun v1 v2 wr => ∃ k r m o1 o2 : Nat, v1 = .slice (some ⟨A, o1, none⟩) r r ∧ v2 = .slice (some ⟨B, o2, none⟩) r r ∧ Inv bs bo A B l k0 m0 p1 p2 w wr k r m o1 o2)
    (fun v1 _ _ => match v1 with | .slice _ n _ => n | _ => 0)
  case atStart => exact ⟨k0, l.length - k0, m0, p1, p2, rfl, rfl, ⟨by omega, by omega, fun h => hp1 (by omega), fun h => hp2 (by omega), by omega, by omega, fun _ => rfl, fun _ => ⟨rfl, rfl⟩, hs, ho, (Kept2.refl _ _ _).drewN _⟩⟩
  case round =>
    obtain ⟨k, r, m, o1, o2, rfl, rfl, I⟩ := hrel
    have SA : Shows wr A o1 (l.drop k) := (hSA.kept (I.kept.block A hA1 hA2)).tail (fun h => I.at1 (by have := I.len; omega))
    have SB : Shows wr B o2 (l.drop k) := (hSB.kept (I.kept.block B hB1 hB2)).tail (fun h => I.at2 (by have := I.len; omega))
    have hlen : (l.drop k).length = r := by have := I.len; simp; omega
    have hr : r ≤ 1048576 := by have := I.len; omega
    have hcall := index_any A o1 r r (l.drop k) wr hlen SA
    obtain ⟨hi1, hi2⟩ := idx_bounds (l.drop k) 0
    rw [hlen] at hi2
    obtain ⟨i, hi⟩ : ∃ i : Int, Lib.indexByte (l.drop k) 0 = i := ⟨_, rfl⟩
    rw [hi] at hcall hi1 hi2
    have HI : Hid (Lib.indexByte (l.drop k) 0 = i) := hi
    have HC := hid hcall
    have HL : Hid ((l.drop k).length = r) := hlen
    clear hi hcall hlen
    have hm : m ≤ 1048576 := by have := I.len; have := I.by21; have := I.more; have := I.ge; omega
    have c1 := I.sc.rest
    have c2 := I.sc.count
    have f0 := I.sc.free 0
    have f1 := I.sc.free 1
    have d1 := I.oc.rest
    have d2 := I.oc.count
    have g0 := I.oc.free 0
    have g1 := I.oc.free 1
    by_cases hneg : i < 0
    · obtain rfl : i = -1 := by omega
      go_wp2_with (go_at_call 16; refine HC.out.mono ?_; rintro e w' ⟨rfl, hw⟩; have hw2 := hw.symm; subst hw2)
      go_quiet (fail)
      go_wp2
      go_end0
      exact ⟨rfl, k, r, m, o1, o2, I.out hne (fun h => by have := h.1; rw [HI.out] at this; omega) _⟩
    · obtain ⟨j, rfl⟩ : ∃ j : Nat, i = j := ⟨i.toNat, by omega⟩
      clear hi1 hneg
      by_cases hbig : r < j + 21
      · go_wp2_with (go_at_call 16; refine HC.out.mono ?_; rintro e w' ⟨rfl, hw⟩; have hw2 := hw.symm; subst hw2)
        have t1 : decide ((j : Int) + 1 + 20 ≤ 20) = false := by simp; omega
        have t2 : (r : Int) < (j : Int) + 1 + 20 := by omega
        go_quiet (fail)
        go_wp2
        go_end0
        exact ⟨rfl, k, r, m, o1, o2, I.out hne (fun h => by have := h.2; rw [HI.out] at this; have := I.len; omega) _⟩
      · go_wp2_with (go_at_call 16; refine HC.out.mono ?_; rintro e w' ⟨rfl, hw⟩; have hw2 := hw.symm; subst hw2)
        have t1 : decide ((j : Int) + 1 + 20 ≤ 20) = false := by simp; omega
        have t2 : decide ((r : Int) < (j : Int) + 1 + 20) = false := by simp; omega
        go_quiet ((go_at_call 17; exact Calls.quiet_of_same (equal_any _ _ _ _ _ _ _ ((l.drop k).take (j + 21)) _ (by have := HL.out; simp at this ⊢; omega) (SA.take _) (SB.take _))))
        go_wp2
        by_cases heq : r = j + 21
        · obtain rfl := heq
          go_quiet (fail)
          go_wp2
          go_roundw
          case rel => exact ⟨k + (j + 21), _, m + 1, _, _, rfl, rfl, I.step hne j _ HI.out (Nat.le_refl _) _ _ _ rfl (fun h => absurd rfl h) (fun h => absurd rfl h)⟩
          case measure => simp
        · have t3 : ¬ r = j + 1 + 20 := by omega
          go_quiet (fail)
          go_wp2
          go_roundw
          case rel => exact ⟨k + (j + 21), _, m + 1, _, _, rfl, rfl, I.step hne j _ HI.out (by omega) _ _ _ rfl (fun h => rfl) (fun h => rfl)⟩
          case measure => simp; omega

end Go.Proofs.Qxb6609523a.tree
