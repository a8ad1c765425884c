/-
  Parts: TZ, DN, D11, D15.
-/
import Derived.Deep.RegionHeld3
import Derived.BigRegion
import Derived.Deep.CutRange
import Derived.StillTailTactics
import Derived.Test.YtpicinjcmjaogaaGreatN10
import Derived.Test.YtpicinjcmjaogaaGreatN20
import Derived.Test.YtpicinjcmjaogaaGreatN24

/- Contracts of text: ValidElement, ValidAttribute. -/
namespace Go.Proofs.YtpicinjcmjaogaaGreat
open Go.RowKit Go.Shelf
set_option linter.unusedVariables false

theorem validEl_cons (c : UInt8) (l : List UInt8) : validEl (c :: l) = if isLetterB c then (c :: l).all (noneB [47, 62]) else firstB c && l.all restB := rfl
theorem isEmpty_size (s : ByteArray) : s.toList.isEmpty = decide (s.size = 0) := by
  rw [← strcat_len]; cases s.toList <;> simp

set_option maxRecDepth 100000 in
theorem ValidAttribute_any (s : ByteArray) (w : World) (hs : s.size ≤ 1000000) :
    Calls Tryz.prog 109 #[.string s] w fun e w' => e = .returned (.bool (validAt s.toList)) ∧ Below w.heap.size w w' := by
  cases he : s.toList.isEmpty with
  | true =>
    have HF : Hid (validAt s.toList = false) := Lib.hid (by unfold validAt; rw [he]; rfl)
    go_enter Tryz.func109, Tryz.ntmps109
    go_wp2
    go_ret
    exact ⟨by rw [HF.out]; try rfl, Below.refl _ _⟩
  | false =>
    have HF : Hid (validAt s.toList = s.toList.all (noneB [47, 61, 62])) := Lib.hid (by unfold validAt; rw [he]; rfl)
    go_enter Tryz.func109, Tryz.ntmps109
    go_wp2_with fail
    refine (None_any ⟨#[47, 61, 62]⟩ w).mono ?_
    rintro e w1 ⟨g, rfl, hB1, hg⟩
    have HA := Lib.hid (All_any s _ _ w1 (fnR_none hg) hs)
    have HB := Lib.hid hB1
    clear hB1 hg
    go_wp2_with fail
    refine HA.out.mono ?_
    rintro e w2 ⟨rfl, hB2⟩
    have HB2 := Lib.hid (Below.from0 HB.out hB2)
    clear HA hB2
    rw [← HF.out]
    go_wp2
    go_ret
    exact ⟨by simp, HB2.out⟩

/-- The bytes behind the first. -/
theorem extract_drop (s : ByteArray) : (s.extract 1 s.size).toList = s.toList.drop 1 := by
  rw [Go.ByteArray.toList_eq, Go.ByteArray.toList_eq, Lib.extract_data]
  simp
  apply List.take_of_length_le
  simp

set_option maxRecDepth 100000 in
set_option maxHeartbeats 2000000 in
theorem ValidElement_any (s : ByteArray) (w : World) (hs : s.size ≤ 1000000) :
    Calls Tryz.prog 91 #[.string s] w fun e w' => e = .returned (.bool (validEl s.toList)) ∧ Below w.heap.size w w' := by
  cases he : s.toList.isEmpty with
  | true =>
    have HF : Hid (validEl s.toList = false) := Lib.hid (by cases h : s.toList with
      | nil => rfl
      | cons a l => rw [h] at he; simp at he)
    go_enter Tryz.func91, Tryz.ntmps91
    go_wp2
    go_ret
    exact ⟨by rw [HF.out]; try rfl, Below.refl _ _⟩
  | false =>
    have h0 : 0 < s.size := by
      rw [isEmpty_size] at he; have := of_decide_eq_false he; omega
    have h0' : (0 : Int) < s.size := by omega
    have h1' : (1 : Int) ≤ s.size := by omega
    have hc : s.toList = s[0] :: s.toList.drop 1 := by
      have h2 : s.toList[0]? = some s[0] := by
        rw [Go.ByteArray.toList_eq, Array.getElem?_toList]
        exact Array.getElem?_eq_getElem (show 0 < s.data.size from h0)
      have hk := (List.getElem?_eq_some_iff.1 h2).1
      conv => lhs; rw [← List.drop_zero (l := s.toList), List.drop_eq_getElem_cons hk, (List.getElem?_eq_some_iff.1 h2).2]
    have hw32 : wrap32 ((s[0].toNat : Nat) : Int) = s[0].toNat := wrap32_byte s[0]
    have HL := Lib.hid (IsLetter_any s[0] w)
    have HEX := Lib.hid (extract_drop s)
    cases hlt : isLetterB s[0] with
    | true =>
      have HF : Hid (validEl s.toList = s.toList.all (noneB [47, 62])) := Lib.hid (by rw [hc, validEl_cons, if_pos hlt])
      rw [hlt] at HL
      clear hlt hc
      go_enter Tryz.func91, Tryz.ntmps91
      go_wp2_with fail
      refine HL.out.mono ?_
      rintro e w1 ⟨rfl, hB1⟩
      have HB := Lib.hid hB1
      clear hB1 HL
      go_wp2_with fail
      refine (None_any ⟨#[47, 62]⟩ w1).mono ?_
      rintro e w2 ⟨g, rfl, hB2, hg⟩
      have HA := Lib.hid (All_any s _ _ w2 (fnR_none hg) hs)
      have HB2 := Lib.hid (Below.from0 HB.out hB2)
      clear hB2 hg
      go_wp2_with fail
      refine HA.out.mono ?_
      rintro e w3 ⟨rfl, hB3⟩
      have HB3 := Lib.hid (Below.from0 HB2.out hB3)
      clear HA hB3
      rw [← HF.out]
      go_wp2
      go_ret
      exact ⟨rfl, HB3.out⟩
    | false =>
      have HF : Hid (validEl s.toList = (firstB s[0] && (s.toList.drop 1).all restB)) := Lib.hid (by
        conv => lhs; rw [hc]
        rw [validEl_cons, if_neg (by rw [hlt]; decide)])
      rw [hlt] at HL
      clear hlt hc
      go_enter Tryz.func91, Tryz.ntmps91
      go_wp2_with fail
      refine HL.out.mono ?_
      rintro e w1 ⟨rfl, hB1⟩
      go_wp2_with fail
      refine (From_any 128 255 w1).mono ?_
      rintro e w2 ⟨a0, b0, rfl, hB2, h2, k2⟩
      go_wp2_with fail
      refine (From_any 58 58 w2).mono ?_
      rintro e w3 ⟨a1, b1, rfl, hB3, h3, k3⟩
      go_wp2_with fail
      refine (From_any 95 95 w3).mono ?_
      rintro e w4 ⟨a2, b2, rfl, hB4, h4, k4⟩
      have HH := Lib.hid (((fnR_from h2 k2).below hB3).below hB4)
      have HFN := Lib.hid (fnsR3 (t := 170) ((fnR_from h3 k3).below hB4) (fnR_from h4 k4) HH.out)
      have HE := Lib.hid (Either_any _ _ _ HFN.out)
      have HB4 := Lib.hid (Below.from0 (Below.from0 (Below.from0 hB1 hB2) hB3) hB4)
      clear hB1 hB2 hB3 hB4 h2 k2 h3 k3 h4 k4 HL
      have HB5 := Lib.hid (Below.from0 HB4.out (below_alloc w4 (.cells #[.func (.func 213) #[] #[.pointer (some ⟨a1, 0, none⟩), .pointer (some ⟨b1, 0, none⟩)], .func (.func 213) #[] #[.pointer (some ⟨a2, 0, none⟩), .pointer (some ⟨b2, 0, none⟩)], .func (.func 213) #[] #[.pointer (some ⟨a0, 0, none⟩), .pointer (some ⟨b0, 0, none⟩)]] 170)))
      have HH5 := Lib.hid (HH.out.below (below_alloc w4 (.cells #[.func (.func 213) #[] #[.pointer (some ⟨a1, 0, none⟩), .pointer (some ⟨b1, 0, none⟩)], .func (.func 213) #[] #[.pointer (some ⟨a2, 0, none⟩), .pointer (some ⟨b2, 0, none⟩)], .func (.func 213) #[] #[.pointer (some ⟨a0, 0, none⟩), .pointer (some ⟨b0, 0, none⟩)]] 170)))
      go_wp2_with fail
      refine HE.out.mono ?_
      rintro e w5 ⟨g, rfl, hB5, h5, k5⟩
      have hc0 := eitherC_any _ _ s[0] _ w5 h5 k5
      have hee : ([fun c => decide ((58 : Int) ≤ (c.toNat : Int)) && decide ((c.toNat : Int) ≤ 58), fun c => decide ((95 : Int) ≤ (c.toNat : Int)) && decide ((c.toNat : Int) ≤ 95), fun c => decide ((128 : Int) ≤ (c.toNat : Int)) && decide ((c.toNat : Int) ≤ 255)] : List (UInt8 → Bool)).any (fun p => p s[0]) = firstB s[0] := by
        have := s[0].toNat_lt
        rw [Bool.eq_iff_iff]; simp only [firstB, eqB, List.any_cons, List.any_nil, Bool.or_false, Bool.or_eq_true, Bool.and_eq_true, decide_eq_true_eq]
        have e1 : (58 : UInt8).toNat = 58 := rfl
        have e2 : (95 : UInt8).toNat = 95 := rfl
        rw [e1, e2]; omega
      rw [hee] at hc0
      have HC := Lib.hid hc0
      have HB6 := Lib.hid (Below.from0 HB5.out hB5)
      have HH6 := Lib.hid (HH5.out.below hB5)
      clear hc0 hee hB5 h5 k5 HE HFN HH HH5 HB4 HB5
      go_wp2_with fail
      refine HC.out.mono ?_
      rintro e w6 ⟨rfl, hB6⟩
      have HB7 := Lib.hid (Below.from0 HB6.out hB6)
      have HH7 := Lib.hid (HH6.out.below hB6)
      clear HC hB6 HB6 HH6
      cases hfb : firstB s[0] with
      | false =>
        have HF2 : Hid (validEl s.toList = false) := Lib.hid (by rw [HF.out, hfb]; rfl)
        clear hfb HF
        go_wp2
        go_ret
        exact ⟨by rw [HF2.out]; try rfl, HB7.out⟩
      | true =>
        have HF2 : Hid (validEl s.toList = (s.extract 1 s.size).toList.all restB) := Lib.hid (by rw [HF.out, hfb, HEX.out]; rfl)
        have hs2 : (s.extract 1 s.size).size ≤ 1000000 := by simp; omega
        clear hfb HF HEX
        generalize hex : s.extract 1 s.size = s1 at *
        go_upto_region 9 with fail
        have hrest : (fun c => ([isAlnumB, fun c => decide ((45 : Int) ≤ (c.toNat : Int)) && decide ((c.toNat : Int) ≤ 46), fun c => decide ((58 : Int) ≤ (c.toNat : Int)) && decide ((c.toNat : Int) ≤ 58), fun c => decide ((95 : Int) ≤ (c.toNat : Int)) && decide ((c.toNat : Int) ≤ 95), fun c => decide ((128 : Int) ≤ (c.toNat : Int)) && decide ((c.toNat : Int) ≤ 255)] : List (UInt8 → Bool)).any (fun p => p c)) = restB := by
          funext c
          have hl := c.toNat_lt
          have e1 : (45 : UInt8).toNat = 45 := rfl
          have e2 : (46 : UInt8).toNat = 46 := rfl
          have e3 : (58 : UInt8).toNat = 58 := rfl
          have e4 : (95 : UInt8).toNat = 95 := rfl
          cases ha : isAlnumB c with
          | true => simp [restB, ha]
          | false =>
            rw [Bool.eq_iff_iff]
            simp only [restB, ha, eqB, e1, e2, e3, e4, List.any_cons, List.any_nil, Bool.or_false, Bool.false_or, Bool.or_eq_true, Bool.and_eq_true, decide_eq_true_eq]
            omega
        have fh := HH7.out
        have hBB := HB7.out
        clear HH7 HB7
        go_region_held3 (fun w' => True) (trivial)
          (first
            | ((go_at_call 163; (with_reducible refine (From_any 45 46 _).mono ?_); rintro e w7 ⟨a7, b7, rfl, hB7, h7, k7⟩))
            | ((go_at_call 163; (with_reducible refine (From_any 58 58 _).mono ?_); rintro e w8 ⟨a8, b8, rfl, hB8, h8, k8⟩))
            | ((go_at_call 163; (with_reducible refine (From_any 95 95 _).mono ?_); rintro e w9 ⟨a9, b9, rfl, hB9, h9, k9⟩))
            | ((go_at_call 164; have fh9 := ((fh.below (Below.from0 (Below.drewN (Below.refl _ _) 1) hB7)).below hB8).below hB9; have F5 := fnsR5 (t := 170) (fnR_fn (enters_of Tryz.func165 (by kernel_rfl) rfl) IsAlnum_any w9) (((fnR_from h7 k7).below hB8).below hB9) ((fnR_from h8 k8).below hB9) (fnR_from h9 k9) fh9; (with_reducible refine (Either_any _ _ _ F5).mono ?_); rintro e w10 ⟨g10, rfl, hB10, h10, k10⟩))
            | ((go_at_call 161; have hk := fnR_either h10 k10; rw [hrest] at hk; (with_reducible refine (All_any s1 _ _ _ hk hs2).mono ?_); rintro e w11 ⟨rfl, hB11⟩))
            | fail)
        all_goals
          have HB11 := Lib.hid (Below.from0 (Below.from0 (Below.from0 (Below.from0 (Below.from0 hBB (Below.from0 (Below.drewN (Below.refl _ _) 1) hB7)) hB8) hB9) (Below.from0 (below_alloc _ _) hB10)) hB11)
          clear hB7 hB8 hB9 hB10 hB11 h7 k7 h8 k8 h9 k9 h10 k10 hrest fh hBB
          go_wp2
          go_ret
          exact ⟨by rw [HF2.out]; try rfl, HB11.out⟩

end Go.Proofs.YtpicinjcmjaogaaGreat

/- Layer 5 as plain data: the invariant behind an operation, and how many nodes there are. No program here. -/
namespace Go.Proofs.YtpicinjcmjaogaaGreat
set_option linter.unusedVariables false

theorem empty_facts {A : Ar} {p : Int} (hI : A.Inv) (hp : A.has p) : (A.empty p).Inv ∧ (A.empty p).n = A.n ∧ (A.empty p).inert = A.inert ∧ ∀ x, A.has x → ((A.empty p).get x).kind = (A.get x).kind ∧ ((A.empty p).get x).doc = (A.get x).doc := by
  refine foldl_inv (P := fun B : Ar => B.Inv ∧ B.n = A.n ∧ B.inert = A.inert ∧ ∀ x, A.has x → (B.get x).kind = (A.get x).kind ∧ (B.get x).doc = (A.get x).doc) ⟨hI, rfl, rfl, fun _ _ => ⟨rfl, rfl⟩⟩ ?_
  rintro B x hx ⟨q1, q2, q3, q4⟩
  have hx' := (kid_up hI hp hx).1
  have hhas : ∀ y, B.has y ↔ A.has y := fun y => by unfold Ar.has; rw [q2]
  refine ⟨Ar.InvX.cut q1 ((hhas x).2 hx'), (Ar.cut_n B x).trans q2, (Ar.cut_inert B x).trans q3, fun y hy => ?_⟩
  rw [Ar.cut_get q1 ((hhas x).2 hx') ((hhas y).2 hy)]
  exact q4 y hy
theorem n_len {A B : Ar} (h : A.n = B.n) : A.ns.length = B.ns.length := by unfold Ar.n at h; omega
theorem put_len (A : Ar) (p x c : Int) : (A.put p x c).2.ns.length = A.ns.length := (put_keeps A p x c).2

theorem step5_facts {A : Ar} (hI : A.Inv) (hT : A.Thin 900) (x : OpD) (hx : x.attrs.length ≤ 20) :
    (A.step5 x).2.Inv ∧ (A.step5 x).2.ns.length ≤ (if x.kind = 31 ∨ x.kind = 32 then 2 * A.ns.length + 1 else A.ns.length + 3) := by
  have ins : ∀ p n c : Int, (A.insertCall p n c).2.Inv ∧ (A.insertCall p n c).2.ns.length ≤ A.ns.length + 3 := by
    intro p n c
    unfold Ar.insertCall
    by_cases hv : A.validate p n c = 0
    · rw [if_neg (fun e => e hv)]
      unfold Ar.validate at hv
      by_cases hh : A.has p ∧ A.has n ∧ (c ≠ 0 → A.has c)
      · obtain ⟨q1, q2⟩ := insertAt_facts (c := if c = n then A.next n else c) hI hh.1 hh.2.1
        exact ⟨q1, by dsimp only; omega⟩
      · rw [if_neg hh] at hv; exact absurd hv (by decide)
    · rw [if_pos hv]; exact ⟨hI, by dsimp only; omega⟩
  have triv : A.Inv ∧ A.ns.length ≤ A.ns.length + 3 := ⟨hI, by omega⟩
  refine step5_rec (P := fun r => r.2.Inv ∧ r.2.ns.length ≤ (if x.kind = 31 ∨ x.kind = 32 then 2 * A.ns.length + 1 else A.ns.length + 3)) ?_ ?_ ?_ ?_ ?_ ?_ ?_ ?_ ?_ ?_ ?_ ?_ ?_ ?_ ?_ ?_ <;> intro e
  · rw [if_neg (by omega)]; exact ins _ _ _
  · rw [if_neg (by omega)]; exact ins _ _ _
  · rw [if_neg (by omega)]
    dsimp only; unfold Ar.replaceCall; split
    · rename_i hh
      split
      · exact triv
      · obtain ⟨q1, q2⟩ := insertAt_facts (p := x.a) (n := x.b) (c := if A.next x.c = x.b then A.next x.b else A.next x.c) (Ar.InvX.cut hI hh.2.2) ((Ar.cut_has _ _ _).2 hh.1) ((Ar.cut_has _ _ _).2 hh.2.1)
        exact ⟨q1, by rw [Ar.cut_ns] at q2; dsimp only; omega⟩
    · exact triv
  · rw [if_neg (by omega)]
    dsimp only; unfold Ar.removeCall; split
    · rename_i hh
      split
      · exact triv
      · exact ⟨Ar.InvX.cut hI hh.2, by dsimp only; rw [Ar.cut_ns]; omega⟩
    · exact triv
  · rw [if_neg (by omega)]
    dsimp only; unfold Ar.cutCall; split
    · rename_i hh
      exact ⟨Ar.InvX.cut hI hh, by dsimp only; rw [Ar.cut_ns]; omega⟩
    · exact triv
  · rw [if_neg (by omega)]
    dsimp only; unfold Ar.replaceAllCall; split
    · rename_i hh
      split
      · exact triv
      · split
        · exact triv
        · obtain ⟨q1, q2, q3, q4⟩ := empty_facts hI hh.1
          have hl := n_len q2
          dsimp only; split
          · rename_i hn
            have hhas : ∀ y, (A.empty x.a).has y ↔ A.has y := fun y => by unfold Ar.has; rw [q2]
            obtain ⟨r1, r2⟩ := insertAt_facts (p := x.a) (n := x.b) (c := 0) q1 ((hhas _).2 hh.1) ((hhas _).2 (hh.2 hn))
            exact ⟨r1, by omega⟩
          · exact ⟨q1, by omega⟩
    · exact triv
  · rw [if_neg (by omega)]
    dsimp only; unfold Ar.adoptCall; split
    · rename_i hh
      split
      · exact triv
      · rename_i hk
        obtain ⟨q1, q2, q3⟩ := adopt_facts hI hh.1 hh.2 (Classical.not_not.1 (fun z => hk (.inl z)))
        refine ⟨q1, ?_⟩
        have g1 := Ar.cap_ge (A.adopt x.a x.b) x.b
        have g2 := Ar.cap_le A x.b
        dsimp only
        omega
    · exact triv
  · rw [if_neg (by omega)]
    unfold Ar.createElement; split
    · exact triv
    · split
      · exact triv
      · exact ⟨hI.element _ _ _ _ (by simp), element_len _ _ _ _ _⟩
  · rw [if_neg (by omega)]
    dsimp only; unfold Ar.setAttr; split
    · exact triv
    · split
      · exact triv
      · refine ⟨hI.setAttrs _ _ (Nat.le_trans (thin_attrsWith hT _ _ _ _) (by omega)), ?_⟩
        unfold Ar.setAttrs
        repeat' split
        all_goals first | exact Nat.le_add_right _ _ | (dsimp only; rw [mod_len]; omega)
  · rw [if_neg (by omega)]
    dsimp only; unfold Ar.removeAttr; split
    · exact triv
    · split
      · exact triv
      · refine ⟨hI.setAttrs _ _ (Nat.le_trans (List.length_eraseIdx_le _ _) (Nat.le_trans (get_thin hT _) (by omega))), ?_⟩
        dsimp only
        unfold Ar.setAttrs
        repeat' split
        all_goals first | exact Nat.le_add_right _ _ | (dsimp only; rw [mod_len]; omega)
  · rw [if_pos (.inl e)]
    unfold Ar.cloneCall; split
    · rename_i hh
      obtain ⟨d1, d2⟩ := hI.docK x.a hh
      obtain ⟨q1, q2⟩ := dupF_any (deep := x.flag) hI hI d1 d2 hh (walk_len hI x.a)
      have := walk_len hI x.a
      exact ⟨q1, by dsimp only; omega⟩
    · exact ⟨hI, by dsimp only; omega⟩
  · rw [if_pos (.inr e)]
    unfold Ar.importCall; split
    · rename_i hh
      split
      · exact ⟨hI, by dsimp only; omega⟩
      · rename_i hk
        obtain ⟨q1, q2⟩ := dupF_any (deep := true) hI hI hh.1 (Classical.not_not.1 (fun z => hk (.inl z))) hh.2 (walk_len hI x.b)
        have := walk_len hI x.b
        exact ⟨q1, by dsimp only; omega⟩
    · exact ⟨hI, by dsimp only; omega⟩
  · rw [if_neg (by omega)]
    dsimp only; unfold Ar.setText; split
    · exact triv
    · rename_i hh
      have hh := Classical.not_not.1 hh
      split
      · exact ⟨hI.setData _ _, by rw [(setData_n _ _ _).2.1]; omega⟩
      · split
        · obtain ⟨q1, q2, q3, q4⟩ := empty_facts hI hh
          have hl := n_len q2
          split
          · exact ⟨q1, by dsimp only; omega⟩
          · dsimp only
            refine ⟨Ar.Inv.put (q1.make rfl rfl rfl rfl (local_text _) (by simp [textNd]) (by simp [textNd])) _ _ _, ?_⟩
            rw [put_len]
            have := make_len (A.empty x.a) ((A.empty x.a).get x.a).doc (textNd x.s)
            omega
        · exact triv
  · rw [if_neg (by omega)]
    obtain ⟨q1, q2, -, -⟩ := normalize_gain hI x.a
    exact ⟨q1, by dsimp only; omega⟩
  · rw [if_neg (by omega)]
    unfold Ar.split; split
    · exact triv
    · split
      · exact triv
      · split
        · exact triv
        · dsimp only
          have m1 : (A.make (A.get x.a).doc (textNd ⟨((A.get x.a).data.toList.drop x.b.toNat).toArray⟩)).2.Inv := hI.make rfl rfl rfl rfl (local_text _) (by simp [textNd]) (by simp [textNd])
          have m2 := make_len A (A.get x.a).doc (textNd ⟨((A.get x.a).data.toList.drop x.b.toNat).toArray⟩)
          split
          · exact ⟨Ar.Inv.put (m1.setData _ _) _ _ _, by rw [put_len, (setData_n _ _ _).2.1]; exact m2⟩
          · exact ⟨m1.setData _ _, by rw [(setData_n _ _ _).2.1]; exact m2⟩
  · rw [if_neg (by omega)]
    exact ⟨hI.step x hx, step_len A x⟩

end Go.Proofs.YtpicinjcmjaogaaGreat

/- Contracts of dom: empty, ReplaceAll, Adopt. (Printed by gend11.py.) -/
namespace Go.Proofs.YtpicinjcmjaogaaGreat
open Go.RowKit Go.Shelf
set_option linter.unusedVariables false

attribute [local go_sem] Oper.semAt_some

end Go.Proofs.YtpicinjcmjaogaaGreat

/- Contracts of dom: SetTextContent. (Printed by gend15.py.) -/
namespace Go.Proofs.YtpicinjcmjaogaaGreat
open Go.RowKit Go.Shelf
set_option linter.unusedVariables false

attribute [local go_sem] Oper.semAt_some

theorem empty_str {s : ByteArray} : s.toList.isEmpty = decide (s = ByteArray.empty) := by
  rw [isEmpty_size, Bool.eq_iff_iff, decide_eq_true_eq, decide_eq_true_eq]; exact size_zero

end Go.Proofs.YtpicinjcmjaogaaGreat
