/-
  Contracts of the program's arena: Element.
-/
import Derived.Test.YtnfdcfagdidmhaaP20
namespace Go.Proofs.Ytnfdcfagdidmhaa
open Go.RowKit

theorem Ar.inertOf_len (A : Ar) (d : Int) : A.ns.length ≤ (A.inertOf d).2.ns.length ∧ (A.inertOf d).2.ns.length ≤ A.ns.length + 1 := by
  unfold Ar.inertOf
  split
  · exact ⟨Nat.le_refl _, Nat.le_succ _⟩
  · simp [Ar.document, Ar.add]

/-- The new element's node. -/
def elemNd (d s : Int) (name : ByteArray) (l : List AttrD) : Nd := { zeroNd with kind := 4, doc := d, space := s, name := name, attrs := onceL l }

/-- The node of a template's contents. -/
def contNd (h i : Int) : Nd := { zeroNd with kind := 2, host := h, doc := i }

theorem elem_false {A : Ar} {d s : Int} {name : ByteArray} {l : List AttrD} (he : A.ofDoc d = 0) (hs : ¬ (inSpaces s ∧ attrSpaces l)) : A.element d s name l = ((0, 2), A) := by
  unfold Ar.element
  rw [if_neg (fun h => h he), if_pos hs]
theorem elem_plain {A : Ar} {d s : Int} {name : ByteArray} {l : List AttrD} (he : A.ofDoc d = 0) (hs : inSpaces s ∧ attrSpaces l) (ht : ¬ isTemplate (elemNd d s name l)) : A.element d s name l = ((A.n + 1, 0), A.add (elemNd d s name l)) := by
  unfold Ar.element
  rw [if_neg (fun h => h he), if_neg (fun h => h hs)]
  exact if_neg ht
theorem elem_templ {A : Ar} {d s : Int} {name : ByteArray} {l : List AttrD} (he : A.ofDoc d = 0) (hs : inSpaces s ∧ attrSpaces l) (ht : isTemplate (elemNd d s name l)) : A.element d s name l = ((A.n + 1, 0),
    ((((A.add (elemNd d s name l)).inertOf d).2.add (contNd (A.n + 1) ((A.add (elemNd d s name l)).inertOf d).1)).mod (A.n + 1) (fun x => { x with contents := ((A.add (elemNd d s name l)).inertOf d).2.n + 1 }))) := by
  unfold Ar.element
  rw [if_neg (fun h => h he), if_neg (fun h => h hs)]
  exact if_pos ht

set_option maxRecDepth 100000 in
set_option maxHeartbeats 2000000 in
theorem Element_any (A : Ar) (ρ : Nat → Nat) (b : Nat) (d s : Int) (name : ByteArray) (v : Value) (l : List AttrD) (w : World) (hA : AMem w ρ b A) (hv : RAttrs w v l) (hsmall : A.ns.length + 3 ≤ 1000000) (hl : l.length ≤ 1000000) :
    Calls Try.prog 23 #[.pointer (some ⟨b, 0, none⟩), .int .i64 d, .int .i64 s, .string name, v] w (AddR (A.element d s name l).2 ρ b w (pairV (A.element d s name l).1)) := by
  have HD := Lib.hid (document_any A ρ b d w hA)
  by_cases he : A.ofDoc d = 0
  · have HH := Lib.hid (ofDoc_has he)
    by_cases ha : attrSpaces l
    · by_cases hs : inSpaces s
      · by_cases ht : isTemplate (elemNd d s name l)
        · rw [elem_templ he ⟨hs, ha⟩ ht]
          have HS := Lib.hid hs
          have HA := Lib.hid ha
          have HT := Lib.hid ht
          clear hs ha ht
          go_enter Try.func23, Try.ntmps23
          go_wp2_with fail
          refine HD.out.mono ?_
          rintro e w1 ⟨rfl, hB⟩
          rw [he]
          clear he
          go_wp2_with fail
          refine (once_any v l w1 (hv.below hB) hl).mono ?_
          rintro e w2 ⟨hB2, hyes, -⟩
          obtain ⟨av, rfl, hown⟩ := hyes HA.out
          clear hyes
          obtain ⟨aa, ac, rfl⟩ := ownsForm hown
          have HO := Lib.hid hown
          clear hown
          go_wp2_with fail
          refine (spaces_any _ [s] _ (RInts_new1 _ _ _)).mono ?_
          rintro e w' ⟨rfl, rfl⟩
          rw [show decide (∀ x ∈ [s], inSpaces x) = true from by simp [HS.out]]
          have hB3 : Below w1.heap.size w1 (w2.alloc (.cells #[.int .i64 s] 33)) := hB2.trans ((below_alloc _ _).mono hB2.size)
          obtain ⟨ρ', hA3, hr3, hown3, hb3⟩ := roleNew (r := 2 * A.ns.length + 5) (hA.below hB) hB3 (owns_below HO.out (below_alloc w2 (.cells #[.int .i64 s] 33)))
          have hT3 : Turn ρ ρ' w (w2.alloc (.cells #[.int .i64 s] 33)) := (Turn.below hB).trans ⟨Upd.below hB3, hr3⟩
          have HADD := Lib.hid (add_any A ρ' b (elemNd d s name l) aa ac _ hA3 (by omega) rfl hown3)
          clear hown3 HO hb3 hr3 hB3
          generalize hw3 : w2.alloc _ = w3 at *
          clear hw3
          go_wp2_with fail
          refine HADD.out.mono ?_
          rintro e w4 ⟨rfl, ρ4, hA4, hT4⟩
          clear HADD
          have hT4' := hT3.trans hT4
          clear hT3 hT4 hA3
          obtain ⟨a1, c1, mv1, h01, -, hf1, hlt1, hm1, hN1⟩ := hA4.head
          obtain ⟨nb, rfl, hr1, hnb, hfn, hNx⟩ := hN1 (by simp [Ar.add])
          obtain ⟨kv, av, F, -, -⟩ := hNx _ (newNd_bound _)
          rw [add_get] at F
          have HL := Lib.hid (show ((A.add (elemNd d s name l)).ns.length : Int) = A.n + 1 by simp [Ar.add, Ar.n])
          have hp : 1 ≤ A.n + 1 := by unfold Ar.n; omega
          go_wp2_with fail
          refine (at_any b nb _ c1 (A.n + 1) _ h01 hp (by rw [HL.out]; exact Int.le_refl _) hm1).mono ?_
          rintro e w' ⟨rfl, rfl⟩
          go_wp2_with fail
          refine (template_any nb _ _ kv av _ F).mono ?_
          rintro e w' ⟨rfl, rfl⟩
          rw [show decide (isTemplate (elemNd d s name l)) = true from decide_eq_true HT.out]
          have hlen4 : (A.add (elemNd d s name l)).ns.length = A.ns.length + 1 := by simp [Ar.add]
          have hd4 : (A.add (elemNd d s name l)).has d := ⟨HH.out.1, by have := HH.out.2; unfold Ar.n at this ⊢; omega⟩
          have hx4 : (A.add (elemNd d s name l)).has (A.n + 1) := ⟨hp, by unfold Ar.n at *; omega⟩
          have HI := Lib.hid (inertOf_any _ ρ4 b d w4 hA4 hd4 (by omega))
          have HIL := Lib.hid (Ar.inertOf_len (A.add (elemNd d s name l)) d)
          clear F hNx hN1 hfn hf1 h01 hA4 hd4
          generalize hA1 : A.add (elemNd d s name l) = A1 at *
          have HA1 := Lib.hid hA1
          clear hA1
          go_wp2_with fail
          refine HI.out.mono ?_
          rintro e w5 ⟨rfl, ρ5, hA5, hT5⟩
          have hT5' := hT4'.trans hT5
          clear HI hT5 hT4'
          have hsm5 : (A1.inertOf d).2.ns.length ≤ 1000000 := by have := HIL.out; omega
          have HADD := Lib.hid (add_any _ ρ5 b (contNd (A.n + 1) (A1.inertOf d).1) none 0 _ hA5 hsm5 rfl (hav_nil _ _ _))
          go_wp2_with fail
          refine HADD.out.mono ?_
          rintro e w6 ⟨rfl, ρ6, hA6, hT6⟩
          have hT6' := hT5'.trans hT6
          clear HADD hT5' hT6 hA5
          have hlen6 : ((A1.inertOf d).2.add (contNd (A.n + 1) (A1.inertOf d).1)).ns.length = (A1.inertOf d).2.ns.length + 1 := by simp [Ar.add]
          have hx6 : ((A1.inertOf d).2.add (contNd (A.n + 1) (A1.inertOf d).1)).has (A.n + 1) := ⟨hp, by
            have q1 := HIL.out; have q2 := hx4.2
            show A.n + 1 ≤ ((((A1.inertOf d).2.add (contNd (A.n + 1) (A1.inertOf d).1)).ns.length : Nat) : Int)
            rw [hlen6]; unfold Ar.n at q2 ⊢; omega⟩
          have HLEN := Lib.hid hlen6
          obtain ⟨a6, c6, mv6, h06, -, hf6, hlt6, hm6, hN6⟩ := hA6.head
          obtain ⟨nb6, rfl, hr6, hnb6, hfn6, hNx6⟩ := hN6 (by omega)
          obtain ⟨kv6, av6, F6, -, -⟩ := hNx6 _ hx6
          have hle6 : A.n + 1 ≤ ((((A1.inertOf d).2.add (contNd (A.n + 1) (A1.inertOf d).1)).ns.length : Nat) : Int) := hx6.2
          have c11 := F6.c11
          have f11 := hfn6 (((A.n + 1).toNat - 1) * 13 + 11)
          have hE : AMem (w6.setCell ⟨nb6, ((A.n + 1).toNat - 1) * 13 + 11, none⟩ (.int .i64 ((A1.inertOf d).2.n + 1))) ρ6 b (((A1.inertOf d).2.add (contNd (A.n + 1) (A1.inertOf d).1)).mod (A.n + 1) (fun x => { x with contents := (A1.inertOf d).2.n + 1 })) :=
            hA6.field hx6 h06 rfl (j := 11) (by omega) (fun _ _ => rfl) rfl rfl
          have hTE := hT6'.trans (Turn.set (w := w6) (ρ := ρ6) (a := ⟨nb6, ((A.n + 1).toNat - 1) * 13 + 11, none⟩) (by dsimp only; omega) (.int .i64 ((A1.inertOf d).2.n + 1)))
          have HE := Lib.hid (And.intro hE hTE)
          clear hE hTE F6 hNx6 hN6 hfn6 hf6 hT6' hA6 hlen6 hx6
          generalize hA2 : (A1.inertOf d).2.add (contNd (A.n + 1) (A1.inertOf d).1) = A6 at *
          have HA2 := Lib.hid hA2
          clear hA2
          go_wp2_with fail
          refine (at_any b nb6 _ c6 (A.n + 1) _ h06 hp hle6 hm6).mono ?_
          rintro e w' ⟨rfl, rfl⟩
          generalize ho : ((A.n + 1).toNat - 1) * 13 = o at *
          go_wp2
          go_ret2
          have e1 := HA1.out
          have e2 := HA2.out
          have q1 := HE.out
          subst e2
          subst e1
          exact ⟨rfl, ρ6, q1.1, q1.2⟩
        · rw [elem_plain he ⟨hs, ha⟩ ht]
          have HS := Lib.hid hs
          have HA := Lib.hid ha
          have HT := Lib.hid ht
          clear hs ha ht
          go_enter Try.func23, Try.ntmps23
          go_wp2_with fail
          refine HD.out.mono ?_
          rintro e w1 ⟨rfl, hB⟩
          rw [he]
          clear he
          go_wp2_with fail
          refine (once_any v l w1 (hv.below hB) hl).mono ?_
          rintro e w2 ⟨hB2, hyes, -⟩
          obtain ⟨av, rfl, hown⟩ := hyes HA.out
          clear hyes
          obtain ⟨aa, ac, rfl⟩ := ownsForm hown
          have HO := Lib.hid hown
          clear hown
          go_wp2_with fail
          refine (spaces_any _ [s] _ (RInts_new1 _ _ _)).mono ?_
          rintro e w' ⟨rfl, rfl⟩
          rw [show decide (∀ x ∈ [s], inSpaces x) = true from by simp [HS.out]]
          have hB3 : Below w1.heap.size w1 (w2.alloc (.cells #[.int .i64 s] 33)) := hB2.trans ((below_alloc _ _).mono hB2.size)
          obtain ⟨ρ', hA3, hr3, hown3, hb3⟩ := roleNew (r := 2 * A.ns.length + 5) (hA.below hB) hB3 (owns_below HO.out (below_alloc w2 (.cells #[.int .i64 s] 33)))
          have hT3 : Turn ρ ρ' w (w2.alloc (.cells #[.int .i64 s] 33)) := (Turn.below hB).trans ⟨Upd.below hB3, hr3⟩
          have HADD := Lib.hid (add_any A ρ' b (elemNd d s name l) aa ac _ hA3 (by omega) rfl hown3)
          clear hown3 HO hb3 hr3 hB3
          generalize hw3 : w2.alloc _ = w3 at *
          clear hw3
          go_wp2_with fail
          refine HADD.out.mono ?_
          rintro e w4 ⟨rfl, ρ4, hA4, hT4⟩
          clear HADD
          have hT4' := hT3.trans hT4
          clear hT3 hT4 hA3
          obtain ⟨a1, c1, mv1, h01, -, hf1, hlt1, hm1, hN1⟩ := hA4.head
          obtain ⟨nb, rfl, hr1, hnb, hfn, hNx⟩ := hN1 (by simp [Ar.add])
          obtain ⟨kv, av, F, -, -⟩ := hNx _ (newNd_bound _)
          rw [add_get] at F
          have HL := Lib.hid (show ((A.add (elemNd d s name l)).ns.length : Int) = A.n + 1 by simp [Ar.add, Ar.n])
          have hp : 1 ≤ A.n + 1 := by unfold Ar.n; omega
          go_wp2_with fail
          refine (at_any b nb _ c1 (A.n + 1) _ h01 hp (by rw [HL.out]; exact Int.le_refl _) hm1).mono ?_
          rintro e w' ⟨rfl, rfl⟩
          go_wp2_with fail
          refine (template_any nb _ _ kv av _ F).mono ?_
          rintro e w' ⟨rfl, rfl⟩
          rw [show decide (isTemplate (elemNd d s name l)) = false from decide_eq_false HT.out]
          clear F hNx hN1 hfn hf1 h01
          go_wp2
          go_ret2
          exact ⟨rfl, ρ4, hA4, hT4'⟩
      · rw [elem_false he (fun h => hs h.1)]
        have HS := Lib.hid hs
        have HA := Lib.hid ha
        clear hs ha
        go_enter Try.func23, Try.ntmps23
        go_wp2_with fail
        refine HD.out.mono ?_
        rintro e w1 ⟨rfl, hB⟩
        rw [he]
        clear he
        go_wp2_with fail
        refine (once_any v l w1 (hv.below hB) hl).mono ?_
        rintro e w2 ⟨hB2, hyes, -⟩
        obtain ⟨av, rfl, hown⟩ := hyes HA.out
        clear hyes
        obtain ⟨aa, ac, rfl⟩ := ownsForm hown
        have HO := Lib.hid hown
        clear hown
        go_wp2_with fail
        refine (spaces_any _ [s] _ (RInts_new1 _ _ _)).mono ?_
        rintro e w' ⟨rfl, rfl⟩
        rw [show decide (∀ x ∈ [s], inSpaces x) = false from by simp [HS.out]]
        have hAE := ((hA.below hB).below hB2).below (below_alloc w2 (.cells #[.int .i64 s] 33))
        have hTE : Turn ρ ρ w (w2.alloc (.cells #[.int .i64 s] 33)) := ((Turn.below hB).trans (Turn.below hB2)).trans (Turn.below (below_alloc _ _))
        have HE := Lib.hid (And.intro hAE hTE)
        clear hAE hTE HO
        go_wp2
        go_ret2
        exact ⟨rfl, ρ, HE.out.1, HE.out.2⟩
    · rw [elem_false he (fun h => ha h.2)]
      have HA := Lib.hid ha
      clear ha
      go_enter Try.func23, Try.ntmps23
      go_wp2_with fail
      refine HD.out.mono ?_
      rintro e w1 ⟨rfl, hB⟩
      rw [he]
      clear he
      go_wp2_with fail
      refine (once_any v l w1 (hv.below hB) hl).mono ?_
      rintro e w2 ⟨hB2, -, hno⟩
      have := hno HA.out
      subst this
      clear hno
      go_wp2
      go_ret2
      exact ⟨rfl, ρ, (hA.below hB).below hB2, (Turn.below hB).trans (Turn.below hB2)⟩
  · have hfin : A.element d s name l = ((0, A.ofDoc d), A) := by simp [Ar.element, he]
    rw [hfin]
    have he1 : (A.ofDoc d != 0) = true := by simp [he]
    go_enter Try.func23, Try.ntmps23
    go_wp2_with fail
    refine HD.out.mono ?_
    rintro e w1 ⟨rfl, hB⟩
    go_wp2
    go_ret2
    exact ⟨rfl, ρ, hA.below hB, Turn.below hB⟩

end Go.Proofs.Ytnfdcfagdidmhaa
