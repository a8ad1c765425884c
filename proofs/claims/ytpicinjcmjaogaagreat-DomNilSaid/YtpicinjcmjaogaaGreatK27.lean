/-
  Parts: TZ, D15.
-/
import Derived.Deep.RegionHeld3
import Derived.BigRegion
import Derived.Deep.CutRange
import Derived.StillTailTactics
import Derived.Test.YtpicinjcmjaogaaGreatK25
import Derived.Test.YtpicinjcmjaogaaGreatK26

/- Contracts of text: ValidElement, ValidAttribute. -/
namespace Go.Proofs.YtpicinjcmjaogaaGreat
open Go.RowKit Go.Shelf
set_option linter.unusedVariables false

theorem validEl_cons (c : UInt8) (l : List UInt8) : validEl (c :: l) = if isLetterB c then (c :: l).all (noneB [47, 62]) else firstB c && l.all restB := rfl
theorem isEmpty_size (s : ByteArray) : s.toList.isEmpty = decide (s.size = 0) := by
  rw [← strcat_len]; cases s.toList <;> simp

set_option maxRecDepth 100000 in
theorem ValidAttribute_any (s : ByteArray) (w : World) (hs : s.size ≤ 1000000) :
    Calls Tryz.prog 109 #[.string s] w fun e w' => e = .returned (.bool (validAt s.toList)) ∧ Below w.heap.size w w' := by
  cases he : s.toList.isEmpty with
  | true =>
    have HF : Hid (validAt s.toList = false) := Lib.hid (by unfold validAt; rw [he]; rfl)
    go_enter Tryz.func109, Tryz.ntmps109
    go_wp2
    go_ret
    exact ⟨by rw [HF.out]; try rfl, Below.refl _ _⟩
  | false =>
    have HF : Hid (validAt s.toList = s.toList.all (noneB [47, 61, 62])) := Lib.hid (by unfold validAt; rw [he]; rfl)
    go_enter Tryz.func109, Tryz.ntmps109
    go_wp2_with fail
    refine (None_any ⟨#[47, 61, 62]⟩ w).mono ?_
    rintro e w1 ⟨g, rfl, hB1, hg⟩
    have HA := Lib.hid (All_any s _ _ w1 (fnR_none hg) hs)
    have HB := Lib.hid hB1
    clear hB1 hg
    go_wp2_with fail
    refine HA.out.mono ?_
    rintro e w2 ⟨rfl, hB2⟩
    have HB2 := Lib.hid (Below.from0 HB.out hB2)
    clear HA hB2
    rw [← HF.out]
    go_wp2
    go_ret
    exact ⟨by simp, HB2.out⟩

/-- The bytes behind the first. -/
theorem extract_drop (s : ByteArray) : (s.extract 1 s.size).toList = s.toList.drop 1 := by
  rw [Go.ByteArray.toList_eq, Go.ByteArray.toList_eq, Lib.extract_data]
  simp
  apply List.take_of_length_le
  simp

set_option maxRecDepth 100000 in
set_option maxHeartbeats 2000000 in
theorem ValidElement_any (s : ByteArray) (w : World) (hs : s.size ≤ 1000000) :
    Calls Tryz.prog 91 #[.string s] w fun e w' => e = .returned (.bool (validEl s.toList)) ∧ Below w.heap.size w w' := by
  cases he : s.toList.isEmpty with
  | true =>
    have HF : Hid (validEl s.toList = false) := Lib.hid (by cases h : s.toList with
      | nil => rfl
      | cons a l => rw [h] at he; simp at he)
    go_enter Tryz.func91, Tryz.ntmps91
    go_wp2
    go_ret
    exact ⟨by rw [HF.out]; try rfl, Below.refl _ _⟩
  | false =>
    have h0 : 0 < s.size := by
      rw [isEmpty_size] at he; have := of_decide_eq_false he; omega
    have h0' : (0 : Int) < s.size := by omega
    have h1' : (1 : Int) ≤ s.size := by omega
    have hc : s.toList = s[0] :: s.toList.drop 1 := by
      have h2 : s.toList[0]? = some s[0] := by
        rw [Go.ByteArray.toList_eq, Array.getElem?_toList]
        exact Array.getElem?_eq_getElem (show 0 < s.data.size from h0)
      have hk := (List.getElem?_eq_some_iff.1 h2).1
      conv => lhs; rw [← List.drop_zero (l := s.toList), List.drop_eq_getElem_cons hk, (List.getElem?_eq_some_iff.1 h2).2]
    have hw32 : wrap32 ((s[0].toNat : Nat) : Int) = s[0].toNat := wrap32_byte s[0]
    have HL := Lib.hid (IsLetter_any s[0] w)
    have HEX := Lib.hid (extract_drop s)
    cases hlt : isLetterB s[0] with
    | true =>
      have HF : Hid (validEl s.toList = s.toList.all (noneB [47, 62])) := Lib.hid (by rw [hc, validEl_cons, if_pos hlt])
      rw [hlt] at HL
      clear hlt hc
      go_enter Tryz.func91, Tryz.ntmps91
      go_wp2_with fail
      refine HL.out.mono ?_
      rintro e w1 ⟨rfl, hB1⟩
      have HB := Lib.hid hB1
      clear hB1 HL
      go_wp2_with fail
      refine (None_any ⟨#[47, 62]⟩ w1).mono ?_
      rintro e w2 ⟨g, rfl, hB2, hg⟩
      have HA := Lib.hid (All_any s _ _ w2 (fnR_none hg) hs)
      have HB2 := Lib.hid (Below.from0 HB.out hB2)
      clear hB2 hg
      go_wp2_with fail
      refine HA.out.mono ?_
      rintro e w3 ⟨rfl, hB3⟩
      have HB3 := Lib.hid (Below.from0 HB2.out hB3)
      clear HA hB3
      rw [← HF.out]
      go_wp2
      go_ret
      exact ⟨rfl, HB3.out⟩
    | false =>
      have HF : Hid (validEl s.toList = (firstB s[0] && (s.toList.drop 1).all restB)) := Lib.hid (by
        conv => lhs; rw [hc]
        rw [validEl_cons, if_neg (by rw [hlt]; decide)])
      rw [hlt] at HL
      clear hlt hc
      go_enter Tryz.func91, Tryz.ntmps91
      go_wp2_with fail
      refine HL.out.mono ?_
      rintro e w1 ⟨rfl, hB1⟩
      go_wp2_with fail
      refine (From_any 128 255 w1).mono ?_
      rintro e w2 ⟨a0, b0, rfl, hB2, h2, k2⟩
      go_wp2_with fail
      refine (From_any 58 58 w2).mono ?_
      rintro e w3 ⟨a1, b1, rfl, hB3, h3, k3⟩
      go_wp2_with fail
      refine (From_any 95 95 w3).mono ?_
      rintro e w4 ⟨a2, b2, rfl, hB4, h4, k4⟩
      have HH := Lib.hid (((fnR_from h2 k2).below hB3).below hB4)
      have HFN := Lib.hid (fnsR3 (t := 170) ((fnR_from h3 k3).below hB4) (fnR_from h4 k4) HH.out)
      have HE := Lib.hid (Either_any _ _ _ HFN.out)
      have HB4 := Lib.hid (Below.from0 (Below.from0 (Below.from0 hB1 hB2) hB3) hB4)
      clear hB1 hB2 hB3 hB4 h2 k2 h3 k3 h4 k4 HL
      have HB5 := Lib.hid (Below.from0 HB4.out (below_alloc w4 (.cells #[.func (.func 213) #[] #[.pointer (some ⟨a1, 0, none⟩), .pointer (some ⟨b1, 0, none⟩)], .func (.func 213) #[] #[.pointer (some ⟨a2, 0, none⟩), .pointer (some ⟨b2, 0, none⟩)], .func (.func 213) #[] #[.pointer (some ⟨a0, 0, none⟩), .pointer (some ⟨b0, 0, none⟩)]] 170)))
      have HH5 := Lib.hid (HH.out.below (below_alloc w4 (.cells #[.func (.func 213) #[] #[.pointer (some ⟨a1, 0, none⟩), .pointer (some ⟨b1, 0, none⟩)], .func (.func 213) #[] #[.pointer (some ⟨a2, 0, none⟩), .pointer (some ⟨b2, 0, none⟩)], .func (.func 213) #[] #[.pointer (some ⟨a0, 0, none⟩), .pointer (some ⟨b0, 0, none⟩)]] 170)))
      go_wp2_with fail
      refine HE.out.mono ?_
      rintro e w5 ⟨g, rfl, hB5, h5, k5⟩
      have hc0 := eitherC_any _ _ s[0] _ w5 h5 k5
      have hee : ([fun c => decide ((58 : Int) ≤ (c.toNat : Int)) && decide ((c.toNat : Int) ≤ 58), fun c => decide ((95 : Int) ≤ (c.toNat : Int)) && decide ((c.toNat : Int) ≤ 95), fun c => decide ((128 : Int) ≤ (c.toNat : Int)) && decide ((c.toNat : Int) ≤ 255)] : List (UInt8 → Bool)).any (fun p => p s[0]) = firstB s[0] := by
        have := s[0].toNat_lt
        rw [Bool.eq_iff_iff]; simp only [firstB, eqB, List.any_cons, List.any_nil, Bool.or_false, Bool.or_eq_true, Bool.and_eq_true, decide_eq_true_eq]
        have e1 : (58 : UInt8).toNat = 58 := rfl
        have e2 : (95 : UInt8).toNat = 95 := rfl
        rw [e1, e2]; omega
      rw [hee] at hc0
      have HC := Lib.hid hc0
      have HB6 := Lib.hid (Below.from0 HB5.out hB5)
      have HH6 := Lib.hid (HH5.out.below hB5)
      clear hc0 hee hB5 h5 k5 HE HFN HH HH5 HB4 HB5
      go_wp2_with fail
      refine HC.out.mono ?_
      rintro e w6 ⟨rfl, hB6⟩
      have HB7 := Lib.hid (Below.from0 HB6.out hB6)
      have HH7 := Lib.hid (HH6.out.below hB6)
      clear HC hB6 HB6 HH6
      cases hfb : firstB s[0] with
      | false =>
        have HF2 : Hid (validEl s.toList = false) := Lib.hid (by rw [HF.out, hfb]; rfl)
        clear hfb HF
        go_wp2
        go_ret
        exact ⟨by rw [HF2.out]; try rfl, HB7.out⟩
      | true =>
        have HF2 : Hid (validEl s.toList = (s.extract 1 s.size).toList.all restB) := Lib.hid (by rw [HF.out, hfb, HEX.out]; rfl)
        have hs2 : (s.extract 1 s.size).size ≤ 1000000 := by simp; omega
        clear hfb HF HEX
        generalize hex : s.extract 1 s.size = s1 at *
        go_upto_region 9 with fail
        have hrest : (fun c => ([isAlnumB, fun c => decide ((45 : Int) ≤ (c.toNat : Int)) && decide ((c.toNat : Int) ≤ 46), fun c => decide ((58 : Int) ≤ (c.toNat : Int)) && decide ((c.toNat : Int) ≤ 58), fun c => decide ((95 : Int) ≤ (c.toNat : Int)) && decide ((c.toNat : Int) ≤ 95), fun c => decide ((128 : Int) ≤ (c.toNat : Int)) && decide ((c.toNat : Int) ≤ 255)] : List (UInt8 → Bool)).any (fun p => p c)) = restB := by
          funext c
          have hl := c.toNat_lt
          have e1 : (45 : UInt8).toNat = 45 := rfl
          have e2 : (46 : UInt8).toNat = 46 := rfl
          have e3 : (58 : UInt8).toNat = 58 := rfl
          have e4 : (95 : UInt8).toNat = 95 := rfl
          cases ha : isAlnumB c with
          | true => simp [restB, ha]
          | false =>
            rw [Bool.eq_iff_iff]
            simp only [restB, ha, eqB, e1, e2, e3, e4, List.any_cons, List.any_nil, Bool.or_false, Bool.false_or, Bool.or_eq_true, Bool.and_eq_true, decide_eq_true_eq]
            omega
        have fh := HH7.out
        have hBB := HB7.out
        clear HH7 HB7
        go_region_held3 (fun w' => True) (trivial)
          (first
            | ((go_at_call 163; (with_reducible refine (From_any 45 46 _).mono ?_); rintro e w7 ⟨a7, b7, rfl, hB7, h7, k7⟩))
            | ((go_at_call 163; (with_reducible refine (From_any 58 58 _).mono ?_); rintro e w8 ⟨a8, b8, rfl, hB8, h8, k8⟩))
            | ((go_at_call 163; (with_reducible refine (From_any 95 95 _).mono ?_); rintro e w9 ⟨a9, b9, rfl, hB9, h9, k9⟩))
            | ((go_at_call 164; have fh9 := ((fh.below (Below.from0 (Below.drewN (Below.refl _ _) 1) hB7)).below hB8).below hB9; have F5 := fnsR5 (t := 170) (fnR_fn (enters_of Tryz.func165 (by kernel_rfl) rfl) IsAlnum_any w9) (((fnR_from h7 k7).below hB8).below hB9) ((fnR_from h8 k8).below hB9) (fnR_from h9 k9) fh9; (with_reducible refine (Either_any _ _ _ F5).mono ?_); rintro e w10 ⟨g10, rfl, hB10, h10, k10⟩))
            | ((go_at_call 161; have hk := fnR_either h10 k10; rw [hrest] at hk; (with_reducible refine (All_any s1 _ _ _ hk hs2).mono ?_); rintro e w11 ⟨rfl, hB11⟩))
            | fail)
        all_goals
          have HB11 := Lib.hid (Below.from0 (Below.from0 (Below.from0 (Below.from0 (Below.from0 hBB (Below.from0 (Below.drewN (Below.refl _ _) 1) hB7)) hB8) hB9) (Below.from0 (below_alloc _ _) hB10)) hB11)
          clear hB7 hB8 hB9 hB10 hB11 h7 k7 h8 k8 h9 k9 h10 k10 hrest fh hBB
          go_wp2
          go_ret
          exact ⟨by rw [HF2.out]; try rfl, HB11.out⟩

end Go.Proofs.YtpicinjcmjaogaaGreat

/- Contracts of dom: SetTextContent. (Printed by gend15.py.) -/
namespace Go.Proofs.YtpicinjcmjaogaaGreat
open Go.RowKit Go.Shelf
set_option linter.unusedVariables false

attribute [local go_sem] Oper.semAt_some

theorem empty_str {s : ByteArray} : s.toList.isEmpty = decide (s = ByteArray.empty) := by
  rw [isEmpty_size, Bool.eq_iff_iff, decide_eq_true_eq, decide_eq_true_eq]; exact size_zero

set_option maxRecDepth 100000 in
set_option maxHeartbeats 2000000 in
theorem SetTextContentD_own {w0 w : World} {B b : Nat} {A : Ar} {L : List Asrt} {h : Int} {s : ByteArray} (o : Own w0 B (.arena b A :: L) w) (hI : A.Inv) (hsz : A.ns.length + 3 ≤ 100000) :
    Calls Tryz.prog 55 #[.pointer (some ⟨b, 0, none⟩), .int .i64 h, .string s] w fun e w' => e = .returned (.int .i64 (A.setText h s).1) ∧ Own w0 B (.arena b (A.setText h s).2 :: L) w' := by
  have HS := hI.short (show A.ns.length ≤ 1000000 by omega)
  by_cases hh : A.has h
  · have HC := Lib.hid (Check1_own (opt := -1) (x := h) o (b := b) (A := A) (by simp) HS (chk1n.trans (if_pos hh)))
    obtain ⟨nd, hnd⟩ : ∃ nd, A.get h = nd := ⟨_, rfl⟩
    have HK := Lib.hid (fun W (q : Own w0 B (.arena b A :: L) W) => Kind_own (b := b) (A := A) q (by simp) HS hh hnd)
    have HE : Hid (A.setText h s = if nd.kind = 5 ∨ nd.kind = 6 then A.setData h s else if nd.kind = 4 ∨ nd.kind = 2 then if s = ByteArray.empty then (0, A.empty h)
        else ((((A.empty h).make ((A.empty h).get h).doc (textNd s)).2.put h ((A.empty h).make ((A.empty h).get h).doc (textNd s)).1.1 0).1, (((A.empty h).make ((A.empty h).get h).doc (textNd s)).2.put h ((A.empty h).make ((A.empty h).get h).doc (textNd s)).1.1 0).2) else (0, A)) := Lib.hid (by
      unfold Ar.setText; rw [if_neg (fun q => q hh), hnd])
    have HSD := Lib.hid (fun W (q : Own w0 B (.arena b A :: L) W) => q.call (fun ρ hA => SetData_any A ρ b h s W hA))
    obtain ⟨e1, e2, e3, e4⟩ := empty_facts hI hh
    have hle := n_len e2
    have hhe : (A.empty h).has h := by unfold Ar.has; rw [e2]; exact hh
    have HEM := Lib.hid (fun W (q : Own w0 B (.arena b A :: L) W) => empty_own hI hh (by omega) q)
    obtain ⟨ed, hed⟩ : ∃ ed, (A.empty h).get h = ed := ⟨_, rfl⟩
    have HDC := Lib.hid (fun W (q : Own w0 B (.arena b (A.empty h) :: L) W) => Document_own (b := b) (A := A.empty h) q (by simp) (e1.short (by omega)) hhe hed)
    have HTX := Lib.hid (fun d W (q : Own w0 B (.arena b (A.empty h) :: L) W) => q.call (fun ρ hA => Text_any (A.empty h) ρ b d s W hA (by omega)))
    unfold pairV at HTX
    have hmi : ∀ d, ((A.empty h).make d (textNd s)).2.Inv := fun d => e1.make rfl rfl rfl rfl (local_text _) (by simp [textNd]) (by simp [textNd])
    have hml : ∀ d, ((A.empty h).make d (textNd s)).2.ns.length ≤ 1000000 := fun d => by have := make_len (A.empty h) d (textNd s); omega
    have HPT := Lib.hid (fun d x W (q : Own w0 B (.arena b ((A.empty h).make d (textNd s)).2 :: L) W) => q.call (fun ρ hA => Put_any _ ρ b h x 0 W hA (hmi d).wf (hml d)))
    rw [hed] at HE
    clear o hI hh HS e1 e2 e3 e4 hle hhe hnd hed hmi hml
    have HEQ := Lib.hid (empty_str (s := s))
    generalize nd.kind = kd at *
    generalize ed.doc = dc at *
    by_cases h5 : kd = 5
    · have HF : Hid (A.setText h s = A.setData h s) := Lib.hid (HE.out.trans (if_pos (.inl h5)))
      have k5 : (kd == 5) = true := by simp [h5]
      clear h5 HE HEM HDC HTX HPT HEQ
      go_enter Tryz.func55, Tryz.ntmps55
      go_wp2_with fail
      refine HC.out.mono ?_
      rintro e w1 ⟨rfl, o1⟩
      have HK1 := Lib.hid (HK.out _ o1)
      clear HC HK o1
      go_wp2_with fail
      refine HK1.out.mono ?_
      rintro e w2 ⟨rfl, o2, -⟩
      clear HK1
      have H3 := Lib.hid (HSD.out _ o2)
      clear o2 HSD
      go_wp2_with fail
      refine H3.out.mono ?_
      rintro e w3 ⟨rfl, o3⟩
      have HO := Lib.hid o3
      clear o3 H3
      go_wp2
      go_ret
      rw [HF.out]
      exact ⟨rfl, HO.out⟩
    · have k5 : (kd == 5) = false := by simp [h5]
      by_cases h6 : kd = 6
      · have HF : Hid (A.setText h s = A.setData h s) := Lib.hid (HE.out.trans (if_pos (.inr h6)))
        have k6 : (kd == 6) = true := by simp [h6]
        clear h5 h6 HE HEM HDC HTX HPT HEQ
        go_enter Tryz.func55, Tryz.ntmps55
        go_wp2_with fail
        refine HC.out.mono ?_
        rintro e w1 ⟨rfl, o1⟩
        have HK1 := Lib.hid (HK.out _ o1)
        clear HC HK o1
        go_wp2_with fail
        refine HK1.out.mono ?_
        rintro e w2 ⟨rfl, o2, -⟩
        clear HK1
        have H3 := Lib.hid (HSD.out _ o2)
        clear o2 HSD
        go_wp2_with fail
        refine H3.out.mono ?_
        rintro e w3 ⟨rfl, o3⟩
        have HO := Lib.hid o3
        clear o3 H3
        go_wp2
        go_ret
        rw [HF.out]
        exact ⟨rfl, HO.out⟩
      · have k6 : (kd == 6) = false := by simp [h6]
        have HE2 := HE.out.trans (if_neg (fun q => q.elim h5 h6))
        by_cases h4 : kd = 4
        · have HG := Lib.hid (HE2.trans (if_pos (.inl h4)))
          have k4 : (kd == 4) = true := by simp [h4]
          clear h5 h6 h4 HE HE2 HSD
          cases hz : s.toList.isEmpty with
          | true =>
            have hz' : s = ByteArray.empty := of_decide_eq_true (HEQ.out.symm.trans hz)
            have HF : Hid (A.setText h s = (0, A.empty h)) := Lib.hid (HG.out.trans (if_pos hz'))
            clear hz' HG HEQ HDC HTX HPT
            go_enter Tryz.func55, Tryz.ntmps55
            go_wp2_with fail
            refine HC.out.mono ?_
            rintro e w1 ⟨rfl, o1⟩
            have HK1 := Lib.hid (HK.out _ o1)
            clear HC HK o1
            go_wp2_with fail
            refine HK1.out.mono ?_
            rintro e w2 ⟨rfl, o2, -⟩
            clear HK1
            have H3 := Lib.hid (HEM.out _ o2)
            clear o2 HEM
            go_wp2_with fail
            refine H3.out.mono ?_
            rintro e w3 ⟨rfl, o3⟩
            have HO := Lib.hid o3
            clear o3 H3
            go_wp2
            go_ret
            rw [HF.out]
            exact ⟨rfl, HO.out⟩
          | false =>
            have hz' : s ≠ ByteArray.empty := of_decide_eq_false (HEQ.out.symm.trans hz)
            have HF := Lib.hid (HG.out.trans (if_neg hz'))
            clear hz' HG HEQ
            go_enter Tryz.func55, Tryz.ntmps55
            go_wp2_with fail
            refine HC.out.mono ?_
            rintro e w1 ⟨rfl, o1⟩
            have HK1 := Lib.hid (HK.out _ o1)
            clear HC HK o1
            go_wp2_with fail
            refine HK1.out.mono ?_
            rintro e w2 ⟨rfl, o2, -⟩
            clear HK1
            have H3 := Lib.hid (HEM.out _ o2)
            clear o2 HEM
            go_wp2_with fail
            refine H3.out.mono ?_
            rintro e w3 ⟨rfl, o3⟩
            have H4 := Lib.hid (HDC.out _ o3)
            clear o3 HDC H3
            go_wp2_with fail
            refine H4.out.mono ?_
            rintro e w4 ⟨rfl, o4, -⟩
            have H5 := Lib.hid (HTX.out dc _ o4)
            clear o4 HTX H4
            go_wp2_with fail
            refine H5.out.mono ?_
            rintro e w5 ⟨rfl, o5⟩
            have H6 := Lib.hid (HPT.out dc ((A.empty h).make dc (textNd s)).1.1 _ o5)
            clear o5 HPT H5
            go_wp2_with fail
            refine H6.out.mono ?_
            rintro e w6 ⟨rfl, o6⟩
            have HO := Lib.hid o6
            clear o6 H6
            go_wp2
            go_ret
            rw [HF.out]
            exact ⟨rfl, HO.out⟩
        · have k4 : (kd == 4) = false := by simp [h4]
          by_cases h2 : kd = 2
          · have HG := Lib.hid (HE2.trans (if_pos (.inr h2)))
            have k2 : (kd == 2) = true := by simp [h2]
            clear h5 h6 h4 h2 HE HE2 HSD
            cases hz : s.toList.isEmpty with
            | true =>
              have hz' : s = ByteArray.empty := of_decide_eq_true (HEQ.out.symm.trans hz)
              have HF : Hid (A.setText h s = (0, A.empty h)) := Lib.hid (HG.out.trans (if_pos hz'))
              clear hz' HG HEQ HDC HTX HPT
              go_enter Tryz.func55, Tryz.ntmps55
              go_wp2_with fail
              refine HC.out.mono ?_
              rintro e w1 ⟨rfl, o1⟩
              have HK1 := Lib.hid (HK.out _ o1)
              clear HC HK o1
              go_wp2_with fail
              refine HK1.out.mono ?_
              rintro e w2 ⟨rfl, o2, -⟩
              clear HK1
              have H3 := Lib.hid (HEM.out _ o2)
              clear o2 HEM
              go_wp2_with fail
              refine H3.out.mono ?_
              rintro e w3 ⟨rfl, o3⟩
              have HO := Lib.hid o3
              clear o3 H3
              go_wp2
              go_ret
              rw [HF.out]
              exact ⟨rfl, HO.out⟩
            | false =>
              have hz' : s ≠ ByteArray.empty := of_decide_eq_false (HEQ.out.symm.trans hz)
              have HF := Lib.hid (HG.out.trans (if_neg hz'))
              clear hz' HG HEQ
              go_enter Tryz.func55, Tryz.ntmps55
              go_wp2_with fail
              refine HC.out.mono ?_
              rintro e w1 ⟨rfl, o1⟩
              have HK1 := Lib.hid (HK.out _ o1)
              clear HC HK o1
              go_wp2_with fail
              refine HK1.out.mono ?_
              rintro e w2 ⟨rfl, o2, -⟩
              clear HK1
              have H3 := Lib.hid (HEM.out _ o2)
              clear o2 HEM
              go_wp2_with fail
              refine H3.out.mono ?_
              rintro e w3 ⟨rfl, o3⟩
              have H4 := Lib.hid (HDC.out _ o3)
              clear o3 HDC H3
              go_wp2_with fail
              refine H4.out.mono ?_
              rintro e w4 ⟨rfl, o4, -⟩
              have H5 := Lib.hid (HTX.out dc _ o4)
              clear o4 HTX H4
              go_wp2_with fail
              refine H5.out.mono ?_
              rintro e w5 ⟨rfl, o5⟩
              have H6 := Lib.hid (HPT.out dc ((A.empty h).make dc (textNd s)).1.1 _ o5)
              clear o5 HPT H5
              go_wp2_with fail
              refine H6.out.mono ?_
              rintro e w6 ⟨rfl, o6⟩
              have HO := Lib.hid o6
              clear o6 H6
              go_wp2
              go_ret
              rw [HF.out]
              exact ⟨rfl, HO.out⟩
          · have HF := Lib.hid (HE2.trans (if_neg (fun q => q.elim h4 h2)))
            have k2 : (kd == 2) = false := by simp [h2]
            clear h5 h6 h4 h2 HE HE2 HSD HEM HDC HTX HPT HEQ
            go_enter Tryz.func55, Tryz.ntmps55
            go_wp2_with fail
            refine HC.out.mono ?_
            rintro e w1 ⟨rfl, o1⟩
            have HK1 := Lib.hid (HK.out _ o1)
            clear HC HK o1
            go_wp2_with fail
            refine HK1.out.mono ?_
            rintro e w2 ⟨rfl, o2, -⟩
            clear HK1
            have HO := Lib.hid o2
            clear o2
            go_wp2
            go_ret
            rw [HF.out]
            exact ⟨rfl, HO.out⟩
  · have HC := Lib.hid (Check1_own (opt := -1) (x := h) o (b := b) (A := A) (by simp) HS (chk1n.trans (if_neg hh)))
    have HF : Hid (A.setText h s = (3, A)) := Lib.hid (by unfold Ar.setText; rw [if_pos hh])
    clear o hI hh HS
    go_enter Tryz.func55, Tryz.ntmps55
    go_wp2_with fail
    refine HC.out.mono ?_
    rintro e w1 ⟨rfl, o1⟩
    have HO := Lib.hid o1
    clear o1 HC
    go_wp2
    go_ret
    rw [HF.out]
    exact ⟨rfl, HO.out⟩

end Go.Proofs.YtpicinjcmjaogaaGreat
