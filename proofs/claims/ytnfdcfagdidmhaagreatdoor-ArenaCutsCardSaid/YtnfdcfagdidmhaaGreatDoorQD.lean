/-
  arena.line: the text of one node.
-/
import Derived.Test.YtnfdcfagdidmhaaGreatDoorQC
import Derived.Deep.RegionHeld3
namespace Go.Proofs.YtnfdcfagdidmhaaGreatDoor
open Go.RowKit
set_option linter.unusedVariables false

theorem quote_held (s : ByteArray) (w : World) (hs : s.size ≤ 400) : ∃ q : ByteArray, q.size ≤ 802 ∧ Hid (q = ⟨(quoteS s).toArray⟩) ∧ Hid (∀ W, Below w.heap.size w W → Calls Tryz.prog 113 #[.string s] W fun e W' => e = .returned (.string q) ∧ Below w.heap.size w W') := by
  refine ⟨_, ?_, Lib.hid rfl, Lib.hid (fun W hW => (q_quote s W (by omega)).mono ?_)⟩
  · have h1 := quoteL_len s.toList
    have h2 : s.toList.length = s.size := by rw [Go.ByteArray.toList_eq]; rfl
    show ((quoteS s).toArray).size ≤ _
    rw [List.size_toArray]; unfold quoteS; omega
  · rintro e W' ⟨rfl, hB⟩
    exact ⟨rfl, hW.trans (hB.mono hW.size)⟩

theorem RAttrs.cellsQ {w : World} {a : Option Addr} {n c : Nat} {l : List AttrD} (h : RAttrs w (.slice a n c) l) (hp : 0 < l.length) : ∃ b o, a = some ⟨b, o, none⟩ ∧ n = l.length ∧ ∀ j x, l[j]? = some x → w.cell? ⟨b, o + j * 3, none⟩ = some (.int .i64 x.1) ∧ w.cell? ⟨b, o + j * 3 + 1, none⟩ = some (.string x.2.1) ∧ w.cell? ⟨b, o + j * 3 + 2, none⟩ = some (.string x.2.2) := by
  obtain ⟨a', c', e, h2, h3, h4⟩ := h.form
  simp at e
  obtain ⟨rfl, rfl, rfl⟩ := e
  obtain ⟨b, o, h5, h6⟩ := h4 hp
  exact ⟨b, o, h5, rfl, h6⟩
theorem digits2 (i : Nat) (hi : i < 100) : (Lib.decDigits i).length ≤ 2 := by
  by_cases h : i < 10
  · rw [Lib.decDigits_one h]; simp
  · rw [Lib.decDigits_two h hi]; simp
theorem itoa_held (x : Int) (hx : 0 ≤ x ∧ x < 100) : ∃ q : ByteArray, q.size ≤ 2 ∧ Hid (q = ⟨(Lib.decDigits x.toNat).toArray⟩) ∧ Hid (∀ W, Calls Tryz.prog 88 #[.int .i64 x] W fun e W' => e = .returned (.string q) ∧ W' = W) := by
  obtain ⟨i, rfl⟩ : ∃ i : Nat, x = i := ⟨x.toNat, by omega⟩
  refine ⟨_, ?_, Lib.hid rfl, Lib.hid (fun W => (q_itoa i (by omega) W).mono ?_)⟩
  · show ((Lib.decDigits (i : Int).toNat).toArray).size ≤ _
    rw [List.size_toArray]; exact digits2 _ (by omega)
  · rintro e W' ⟨rfl, rfl⟩
    exact ⟨rfl, rfl⟩

set_option maxRecDepth 100000 in
set_option maxHeartbeats 4000000 in
theorem q_line (nb o : Nat) (n : Nd) (kv av : Value) (w : World) (F : NodeF w nb o n kv av) (hA : RAttrs w av n.attrs) (hs : (n.name.size ≤ 400 ∧ n.data.size ≤ 400 ∧ n.pub.size ≤ 400 ∧ n.sys.size ≤ 400) ∧ (n.attrs.length ≤ 20 ∧ ∀ a ∈ n.attrs, attrSmall a)) (hsp : 0 ≤ n.space ∧ n.space < 100) (hasp : ∀ a ∈ n.attrs, 0 ≤ a.1 ∧ a.1 < 100) :
    Calls Tryz.prog 85 #[.pointer (some ⟨nb, o, none⟩)] w fun e w' => e = .returned (.string ⟨(lineL n).toArray⟩) ∧ Below w.heap.size w w' := by
  have c0 := F.c0; have c5 := F.c5; have c7 := F.c7; have c8 := F.c8; have c9 := F.c9; have c10 := F.c10; have c12 := F.c12
  obtain ⟨qn, ln, HEN, HQN⟩ := quote_held n.name w hs.1.1
  obtain ⟨qd, ld, HED, HQD⟩ := quote_held n.data w hs.1.2.1
  obtain ⟨qp, lp, HEP, HQP⟩ := quote_held n.pub w hs.1.2.2.1
  obtain ⟨qs, ls, HES, HQS⟩ := quote_held n.sys w hs.1.2.2.2
  go_enter Tryz.func85, Tryz.ntmps85
  by_cases k1 : n.kind = 1
  case pos =>
    have e1 : (n.kind == 1) = true := by simp [k1]
    have HL := Lib.hid (show lineL n = _ from if_pos k1)
    clear k1
    by_cases hq : n.quirks = true
    case pos =>
      have HL2 := Lib.hid (show lineL n = _ from HL.out.trans (if_pos hq))
      rw [hq] at c10
      go_wp2
      go_ret
      exact ⟨by rw [HL2.out]; rfl, Below.refl _ _⟩
    case neg =>
      have HL2 := Lib.hid (show lineL n = _ from HL.out.trans (if_neg hq))
      rw [Bool.eq_false_iff.2 hq] at c10
      go_wp2
      go_ret
      exact ⟨by rw [HL2.out]; rfl, Below.refl _ _⟩
  have e1 : (n.kind == 1) = false := by simp [k1]
  by_cases k2 : n.kind = 2
  case pos =>
    have e2 : (n.kind == 2) = true := by simp [k2]
    have HL := Lib.hid (show lineL n = _ from (if_neg k1).trans (if_pos k2))
    clear k1 k2
    by_cases hq : n.host = 0
    case pos =>
      have HL2 := Lib.hid (show lineL n = _ from HL.out.trans (if_neg (fun q => q hq)))
      rw [hq] at c12
      go_wp2
      go_ret
      exact ⟨by rw [HL2.out]; rfl, Below.refl _ _⟩
    case neg =>
      have HL2 := Lib.hid (show lineL n = _ from HL.out.trans (if_pos hq))
      have eq0 : (n.host != 0) = true := by simp [hq]
      go_wp2
      go_ret
      exact ⟨by rw [HL2.out]; rfl, Below.refl _ _⟩
  have e2 : (n.kind == 2) = false := by simp [k2]
  by_cases k3 : n.kind = 3
  case pos =>
    have e3 : (n.kind == 3) = true := by simp [k3]
    have HL := Lib.hid (show lineL n = _ from (if_neg k1).trans ((if_neg k2).trans (if_pos k3)))
    clear k1 k2 k3
    go_wp2_with fail
    have a1 : ¬ 9223372036854775807 < 8 + qn.size := by omega
    have a2 : ¬ 9223372036854775807 < 8 + qn.size + 1 := by omega
    have a3 : ¬ 9223372036854775807 < 8 + qn.size + 1 + qp.size := by omega
    have a4 : ¬ 9223372036854775807 < 8 + qn.size + 1 + qp.size + 1 := by omega
    have a5 : ¬ 9223372036854775807 < 8 + qn.size + 1 + qp.size + 1 + qs.size := by omega
    go_region_held3 (fun w' => w'.cell? ⟨nb, o + 5, none⟩ = some (.string n.name) ∧ w'.cell? ⟨nb, o + 8, none⟩ = some (.string n.pub) ∧ w'.cell? ⟨nb, o + 9, none⟩ = some (.string n.sys))
      (first | exact ⟨c5, c8, c9⟩ | exact ⟨x5, x8, x9⟩ | exact ⟨y5, y8, y9⟩ | exact ⟨z5, z8, z9⟩)
      (first
      | (go_at_call_of 113 (Value.string n.name); refine (HQN.out _ (Below.drew (Below.refl _ _))).mono ?_
         rintro e w1 ⟨rfl, hB1⟩
         have x5 := Below.old hB1 c5; have x8 := Below.old hB1 c8; have x9 := Below.old hB1 c9)
      | (go_at_call_of 113 (Value.string n.pub); refine (HQP.out _ hB1).mono ?_
         rintro e w2 ⟨rfl, hB2⟩
         have y5 := Below.old hB2 c5; have y8 := Below.old hB2 c8; have y9 := Below.old hB2 c9)
      | (go_at_call_of 113 (Value.string n.sys); refine (HQS.out _ hB2).mono ?_
         rintro e w3 ⟨rfl, hB3⟩
         have z5 := Below.old hB3 c5; have z8 := Below.old hB3 c8; have z9 := Below.old hB3 c9))
    all_goals
      go_wp2
      go_ret
      refine ⟨congrArg (fun x => Ending.returned (.string x)) ?_, hB3⟩
      rw [HEN.out, HEP.out, HES.out, HL.out]
      apply ByteArray.ext
      simp
  have e3 : (n.kind == 3) = false := by simp [k3]
  by_cases k5 : n.kind = 5
  case pos =>
    have e5 : (n.kind == 5) = true := by simp [k5]
    have HL := Lib.hid (show lineL n = _ from (if_neg k1).trans ((if_neg k2).trans ((if_neg k3).trans (if_pos k5))))
    clear k1 k2 k3 k5
    go_wp2_with fail
    refine (HQD.out _ (Below.refl _ _)).mono ?_
    rintro e w1 ⟨rfl, hB⟩
    have HB := Lib.hid hB
    clear hB
    go_wp2
    all_goals (try (exfalso; omega))
    go_ret
    refine ⟨congrArg (fun x => Ending.returned (.string x)) ?_, HB.out⟩
    rw [HED.out, HL.out]
    apply ByteArray.ext
    simp
  have e5 : (n.kind == 5) = false := by simp [k5]
  by_cases k6 : n.kind = 6
  case pos =>
    have e6 : (n.kind == 6) = true := by simp [k6]
    have HL := Lib.hid (show lineL n = _ from (if_neg k1).trans ((if_neg k2).trans ((if_neg k3).trans ((if_neg k5).trans (if_pos k6)))))
    clear k1 k2 k3 k5 k6
    go_wp2_with fail
    refine (HQD.out _ (Below.refl _ _)).mono ?_
    rintro e w1 ⟨rfl, hB⟩
    have HB := Lib.hid hB
    clear hB
    go_wp2
    all_goals (try (exfalso; omega))
    go_ret
    refine ⟨congrArg (fun x => Ending.returned (.string x)) ?_, HB.out⟩
    rw [HED.out, HL.out]
    apply ByteArray.ext
    simp
  have e6 : (n.kind == 6) = false := by simp [k6]
  have HL := Lib.hid (show lineL n = elemL n ++ attrsL n.attrs from (if_neg k1).trans ((if_neg k2).trans ((if_neg k3).trans ((if_neg k5).trans (if_neg k6)))))
  clear k1 k2 k3 k5 k6
  have c4 := F.c4; have c6 := F.c6
  obtain ⟨aa, ac, rfl, -⟩ := hA.form
  obtain ⟨qi, li, HEI, HQI⟩ := itoa_held n.space hsp
  obtain ⟨qe, hqe⟩ : ∃ qe : ByteArray, qe = ⟨#[101, 108, 101, 109, 101, 110, 116, 32]⟩ ++ qi ++ ⟨#[32]⟩ ++ qn := ⟨_, rfl⟩
  have le : qe.size ≤ 820 := by rw [hqe]; simp only [ByteArray.size_append]; show 8 + qi.size + 1 + qn.size ≤ 820; omega
  have HQE := Lib.hid hqe
  clear hqe
  have HA := Lib.hid hA
  have HS := Lib.hid (And.intro hs.2 hasp)
  clear hA hs hasp
  go_upto_region 16 with fail
  go_cut [3] from 61 to 73 (fun v wx => v = .string qe ∧ Hid (Below w.heap.size w wx))
  case first =>
    clear le
    have a1 : ¬ 9223372036854775807 < 8 + qi.size := by omega
    have a2 : ¬ 9223372036854775807 < 8 + qi.size + 1 := by omega
    have a3 : ¬ 9223372036854775807 < 8 + qi.size + 1 + qn.size := by omega
    go_region_held3 (fun w' => w'.cell? ⟨nb, o + 4, none⟩ = some (.int .i64 n.space) ∧ w'.cell? ⟨nb, o + 5, none⟩ = some (.string n.name))
      (first | exact ⟨c4, c5⟩ | exact ⟨x4, x5⟩)
      (first
      | (go_at_call 88; refine (HQI.out _).mono ?_
         rintro e w1 ⟨rfl, rfl⟩)
      | (go_at_call_of 113 (Value.string n.name); refine (HQN.out _ (Below.drew (Below.refl _ _))).mono ?_
         rintro e w1 ⟨rfl, hB1⟩
         have x4 := Below.old hB1 c4; have x5 := Below.old hB1 c5))
    all_goals
      go_wp2
      go_meet
      exact ⟨by rw [HQE.out], hB1⟩
  case rest =>
  obtain ⟨rfl, HB⟩ := hcut
  have HAB := Lib.hid (RAttrs.below HA.out HB.out)
  obtain ⟨W, hw⟩ : ∃ W, W = wc := ⟨_, rfl⟩
  subst hw
  have d6 := Below.old HB.out c6
  clear c0 c5 c7 c8 c9 c10 c12 c4 c6 F
  go_wp2_with fail
  go_loopw [3, 5, 79] (fun s _x i wr => ∃ k : Nat, k ≤ n.attrs.length ∧ i = .int .i64 k ∧ ∃ q : ByteArray, s = .string q ∧ q.size ≤ 820 + k * 2000 ∧ Hid (q = ⟨#[101, 108, 101, 109, 101, 110, 116, 32]⟩ ++ qi ++ ⟨#[32]⟩ ++ qn ++ ⟨(attrsL (n.attrs.take k)).toArray⟩) ∧ Hid (Below W.heap.size W wr)) (fun _ _ i _ => n.attrs.length - (intOf i).toNat)
  case atStart => exact ⟨0, Nat.zero_le _, rfl, qe, rfl, le, Lib.hid (by rw [HQE.out]; apply ByteArray.ext; simp [attrsL]), Lib.hid (Below.refl _ _)⟩
  case round =>
    obtain ⟨k, hk, rfl, q, rfl, lq, HQ, HW⟩ := hrel
    by_cases hlt : k < n.attrs.length
    · obtain ⟨b1, o1, rfl, -, hcs1⟩ := RAttrs.cellsQ HAB.out (by omega)
      obtain ⟨x, hx⟩ : ∃ x, n.attrs[k]? = some x := ⟨_, List.getElem?_eq_getElem hlt⟩
      obtain ⟨d1, d2, d3⟩ := hcs1 k x hx
      have r1 := Below.old HW.out d1; have r2 := Below.old HW.out d2; have r3 := Below.old HW.out d3
      have hxm := List.mem_of_getElem? hx
      have hxs := HS.out.1.2 x hxm
      have hxr := HS.out.2 x hxm
      have HX := Lib.hid hx
      have hkl : k < 20 := Nat.lt_of_lt_of_le hlt HS.out.1.1
      clear hcs1 d1 d2 d3 hx hxm
      obtain ⟨xs, xn, xv⟩ := x
      dsimp only at r1 r2 r3 hxr
      have hx1 : xn.size ≤ 400 := hxs.1
      have hx2 : xv.size ≤ 400 := hxs.2
      clear hxs
      go_upto_region 20 with fail
      have g1 : (wr.alloc (.cells #[.int .i64 xs, .string xn, .string xv] 123)).cell? ⟨wr.heap.size, 0, none⟩ = some (.int .i64 xs) := cell_new' rfl rfl
      have g2 : (wr.alloc (.cells #[.int .i64 xs, .string xn, .string xv] 123)).cell? ⟨wr.heap.size, 1, none⟩ = some (.string xn) := cell_new' rfl rfl
      have g3 : (wr.alloc (.cells #[.int .i64 xs, .string xn, .string xv] 123)).cell? ⟨wr.heap.size, 2, none⟩ = some (.string xv) := cell_new' rfl rfl
      have HBb := Lib.hid (below_alloc wr (.cells #[.int .i64 xs, .string xn, .string xv] 123))
      generalize wr.alloc (.cells #[.int .i64 xs, .string xn, .string xv] 123) = Wb at *
      obtain ⟨qa, la, HEA, HQA⟩ := quote_held xn Wb hx1
      obtain ⟨qv, lv, HEV, HQV⟩ := quote_held xv Wb hx2
      obtain ⟨qk, lk, HEK, HQK⟩ := itoa_held xs hxr
      have HLQ := Lib.hid lq
      have HLS := Lib.hid (And.intro la (And.intro lv lk))
      have a1 : ¬ 9223372036854775807 < 1 + qk.size := by omega
      have a2 : ¬ 9223372036854775807 < 1 + qk.size + 1 := by omega
      have a3 : ¬ 9223372036854775807 < 1 + qk.size + 1 + qa.size := by omega
      have a4 : ¬ 9223372036854775807 < 1 + qk.size + 1 + qa.size + 1 := by omega
      have a5 : ¬ 9223372036854775807 < 1 + qk.size + 1 + qa.size + 1 + qv.size := by omega
      have a6 : ¬ 9223372036854775807 < q.size + (1 + qk.size + 1 + qa.size + 1 + qv.size) := by omega
      clear r1 r2 r3
      go_region_held3 (fun w' => w'.cell? ⟨wr.heap.size, 0, none⟩ = some (.int .i64 xs) ∧ w'.cell? ⟨wr.heap.size, 1, none⟩ = some (.string xn) ∧ w'.cell? ⟨wr.heap.size, 2, none⟩ = some (.string xv))
        (first | exact ⟨g1, g2, g3⟩ | exact ⟨x1, x2, x3⟩ | exact ⟨y1, y2, y3⟩)
        (first
        | (go_at_call 88; refine (HQK.out _).mono ?_
           rintro e w1 ⟨rfl, rfl⟩)
        | (go_at_call_of 113 (Value.string xn); refine (HQA.out _ (Below.drew (Below.refl _ _))).mono ?_
           rintro e w1 ⟨rfl, hB1⟩
           have x1 := Below.old hB1 g1; have x2 := Below.old hB1 g2; have x3 := Below.old hB1 g3)
        | (go_at_call_of 113 (Value.string xv); refine (HQV.out _ hB1).mono ?_
           rintro e w2 ⟨rfl, hB2⟩
           have y1 := Below.old hB2 g1; have y2 := Below.old hB2 g2; have y3 := Below.old hB2 g3))
      all_goals
        have HB2 := Lib.hid hB2
        clear a1 a2 a3 a4 a5 a6
        go_wp2
        go_roundw
        case rel =>
          refine ⟨k + 1, hlt, by go_num, _, rfl, ?_, ?_, ?_⟩
          · have h1 := HLQ.out
            have h2 := HLS.out
            simp only [ByteArray.size_append]
            show q.size + (1 + qk.size + 1 + qa.size + 1 + qv.size) ≤ _
            omega
          · refine Lib.hid ?_
            rw [HQ.out, HEA.out, HEV.out, HEK.out]
            apply ByteArray.ext
            simp [attrsL, attrL, List.take_add_one, HX.out]
          · exact Lib.hid (HW.out.trans ((HBb.out.trans (HB2.out.mono HBb.out.size)).mono HW.out.size))
        case measure => simp [intOf]; omega
    · have hke : k = n.attrs.length := by omega
      have HFI := Lib.hid (show q = ⟨(lineL n).toArray⟩ by
        rw [HQ.out, HL.out, hke, List.take_length, HEI.out, HEN.out]
        apply ByteArray.ext
        simp [elemL])
      go_wp2
      go_ret
      exact ⟨by rw [HFI.out]; rfl, HB.out.trans (HW.out.mono HB.out.size)⟩
end Go.Proofs.YtnfdcfagdidmhaaGreatDoor
