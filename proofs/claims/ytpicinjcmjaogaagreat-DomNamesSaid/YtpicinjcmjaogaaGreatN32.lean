/-
  Parts: D17.
-/
import Derived.Deep.RegionHeld3
import Derived.Test.YtpicinjcmjaogaaGreatN31

/- Contracts of dom: Split. (Printed by gend17.py.) -/
namespace Go.Proofs.YtpicinjcmjaogaaGreat
open Go.RowKit Go.Shelf
set_option linter.unusedVariables false

attribute [local go_sem] Oper.semAt_some

theorem make_len_ge (A : Ar) (d : Int) (n : Nd) : A.ns.length ≤ (A.make d n).2.ns.length := by
  unfold Ar.make
  split
  · exact Nat.le_refl _
  · rw [add_len]; omega
theorem extract_tail (s : ByteArray) (n : Nat) : s.extract n s.size = ⟨(s.toList.drop n).toArray⟩ := by
  apply ByteArray.ext
  rw [Go.ByteArray.toList_eq]
  apply Array.toList_inj.1
  rw [Lib.extract_data]
  simp
  rw [List.take_of_length_le (by simp)]
theorem extract_head (s : ByteArray) (n : Nat) : s.extract 0 n = ⟨(s.toList.take n).toArray⟩ := by
  apply ByteArray.ext
  rw [Go.ByteArray.toList_eq]
  apply Array.toList_inj.1
  rw [Lib.extract_data]
  simp

set_option maxRecDepth 100000 in
set_option maxHeartbeats 2000000 in
theorem SplitD_own {w0 w : World} {B b : Nat} {A : Ar} {L : List Asrt} {h at' : Int} (o : Own w0 B (.arena b A :: L) w) (hI : A.Inv) (hsz : A.ns.length + 3 ≤ 100000) :
    Calls Tryz.prog 39 #[.pointer (some ⟨b, 0, none⟩), .int .i64 h, .int .i64 at'] w fun e w' => e = .returned (pairV (A.split h at').1) ∧ Own w0 B (.arena b (A.split h at').2 :: L) w' := by
  have HS := hI.short (show A.ns.length ≤ 1000000 by omega)
  unfold pairV
  by_cases hh : A.has h
  · have HC := Lib.hid (Check1_own (opt := -1) (x := h) o (b := b) (A := A) (by simp) HS (chk1n.trans (if_pos hh)))
    obtain ⟨nd, hnd⟩ : ∃ nd, A.get h = nd := ⟨_, rfl⟩
    have HN := Lib.hid (fun W (q : Own w0 B (.arena b A :: L) W) => Node_own (b := b) (A := A) q (by simp) HS hh hnd)
    obtain ⟨s1, hs1⟩ : ∃ s1, s1 = nd.data.extract at'.toNat nd.data.size := ⟨_, rfl⟩
    obtain ⟨s2, hs2⟩ : ∃ s2, s2 = nd.data.extract 0 at'.toNat := ⟨_, rfl⟩
    have HE : Hid (A.split h at' = if nd.kind ≠ 5 then ((0, 9), A) else if at' < 0 ∨ (nd.data.size : Int) < at' then ((0, 2), A) else
        (((A.make nd.doc (textNd s1)).1.1, 0), if nd.parent ≠ 0 then (((A.make nd.doc (textNd s1)).2.setData h s2).2.put nd.parent (A.make nd.doc (textNd s1)).1.1 (((A.make nd.doc (textNd s1)).2.setData h s2).2.next h)).2 else ((A.make nd.doc (textNd s1)).2.setData h s2).2)) := Lib.hid (by
      rw [hs1, hs2, extract_tail, extract_head]
      unfold Ar.split; rw [if_neg (fun q => q hh), hnd])
    have hmi : (A.make nd.doc (textNd s1)).2.Inv := hI.make rfl rfl rfl rfl (local_text _) (by simp [textNd]) (by simp [textNd])
    have hml : (A.make nd.doc (textNd s1)).2.ns.length ≤ 100000 := by have := make_len A nd.doc (textNd s1); omega
    have hhm : (A.make nd.doc (textNd s1)).2.has h := by
      have := (make_len_ge A nd.doc (textNd s1))
      exact ⟨hh.1, by have := hh.2; unfold Ar.n at *; omega⟩
    have HTX := Lib.hid (fun l' W (q : Own w0 B (.arena b A :: l') W) => q.call (fun ρ hA => Text_any A ρ b nd.doc s1 W hA (by omega)))
    unfold pairV at HTX
    generalize hAr : A.make nd.doc (textNd s1) = R at *
    have HSD := Lib.hid (fun l' W (q : Own w0 B (.arena b R.2 :: l') W) => q.call (fun ρ hA => SetData_any R.2 ρ b h s2 W hA))
    have hdi := Ar.Inv.setData hmi h s2
    have hdn := setData_n R.2 h s2
    have hdh : (R.2.setData h s2).2.has h := (setData_has _ _ _ _).2 hhm
    have HNX := Lib.hid (fun l' W (q : Own w0 B l' W) (hm : Asrt.arena b (R.2.setData h s2).2 ∈ l') => Next_own (b := b) q hm hdi (by omega) hdh)
    have HPT := Lib.hid (fun l' W (q : Own w0 B (.arena b (R.2.setData h s2).2 :: l') W) => q.call (fun ρ hA => Put_any _ ρ b nd.parent R.1.1 ((R.2.setData h s2).2.next h) W hA hdi.wf (by omega)))
    obtain ⟨⟨r1, r2⟩, R2⟩ := R
    dsimp only at *
    have HS1 := Lib.hid hs1
    have HS2 := Lib.hid hs2
    clear o hI hh HS hnd hmi hml hhm hdi hdn hdh hAr
    clear hs1 hs2
    by_cases hk : nd.kind = 5
    · have g1 : (nd.kind != 5) = false := by simp [hk]
      have HE2 := HE.out.trans (if_neg (fun q => q hk))
      by_cases ha0 : at' < 0
      · have HF := Lib.hid (HE2.trans (if_pos (.inl ha0)))
        clear hk HE HE2
        go_enter Tryz.func39, Tryz.ntmps39
        go_wp2_with fail
        refine HC.out.mono ?_
        rintro e w1 ⟨rfl, o1⟩
        have HN1 := Lib.hid (HN.out _ o1)
        clear HC HN o1
        go_wp2_with fail
        refine HN1.out.mono ?_
        rintro e w2 ⟨ka, kl, kc, aa, al, ac, rfl, o2, -⟩
        clear HN1
        have HT := Lib.hid (nodeBox_facts (w := w2) nd ka kc aa ac kl al)
        have o5 := o2.nodeBox nd (.slice ka kl kc) (.slice aa al ac)
        go_wp2_with ((with_reducible refine wpList_store_mid ?_ 46 (.tmp 9) (.tmp 24) ?_ w2.heap.size 0 (nd.cells (.slice ka kl kc) (.slice aa al ac)).toArray ?_ ?_ ?_ ?_ ?_ ?_); exact rfl; exact rfl; exact rfl; exact rfl; exact HT.out.1; exact sizeNode _ _ _; exact all_oneCell_toArray HT.out.2; clear HT; generalize hw5 : World.setCells _ _ _ _ = w5 at o5 ⊢; generalize hg5 : w2.heap.size = g5 at o5 ⊢; clear hw5 hg5; have q0 : w5.cell? ⟨g5, 0, none⟩ = some (.int .i64 nd.kind) := (cell_of_row w5 _ _ _ _ _ (o5.box (g := g5) (o := .cells (nd.cells (.slice ka kl kc) (.slice aa al ac)).toArray 46 (0, 0)) (by simp))).trans rfl)
        have HO := Lib.hid o5.drop
        clear o5 HTX HSD HNX HPT
        go_wp2
        go_ret2
        rw [HF.out]
        exact ⟨rfl, HO.out⟩
      · by_cases ha1 : (nd.data.size : Int) < at'
        · have HF := Lib.hid (HE2.trans (if_pos (.inr ha1)))
          clear hk HE HE2
          go_enter Tryz.func39, Tryz.ntmps39
          go_wp2_with fail
          refine HC.out.mono ?_
          rintro e w1 ⟨rfl, o1⟩
          have HN1 := Lib.hid (HN.out _ o1)
          clear HC HN o1
          go_wp2_with fail
          refine HN1.out.mono ?_
          rintro e w2 ⟨ka, kl, kc, aa, al, ac, rfl, o2, -⟩
          clear HN1
          have HT := Lib.hid (nodeBox_facts (w := w2) nd ka kc aa ac kl al)
          have o5 := o2.nodeBox nd (.slice ka kl kc) (.slice aa al ac)
          go_wp2_with ((with_reducible refine wpList_store_mid ?_ 46 (.tmp 9) (.tmp 24) ?_ w2.heap.size 0 (nd.cells (.slice ka kl kc) (.slice aa al ac)).toArray ?_ ?_ ?_ ?_ ?_ ?_); exact rfl; exact rfl; exact rfl; exact rfl; exact HT.out.1; exact sizeNode _ _ _; exact all_oneCell_toArray HT.out.2; clear HT; generalize hw5 : World.setCells _ _ _ _ = w5 at o5 ⊢; generalize hg5 : w2.heap.size = g5 at o5 ⊢; clear hw5 hg5; have q0 : w5.cell? ⟨g5, 0, none⟩ = some (.int .i64 nd.kind) := (cell_of_row w5 _ _ _ _ _ (o5.box (g := g5) (o := .cells (nd.cells (.slice ka kl kc) (.slice aa al ac)).toArray 46 (0, 0)) (by simp))).trans rfl; have q7 : w5.cell? ⟨g5, 7, none⟩ = some (.string nd.data) := (cell_of_row w5 _ _ _ _ _ (o5.box (g := g5) (o := .cells (nd.cells (.slice ka kl kc) (.slice aa al ac)).toArray 46 (0, 0)) (by simp))).trans rfl)
          have HO := Lib.hid o5.drop
          clear o5 HTX HSD HNX HPT
          go_wp2
          go_ret2
          rw [HF.out]
          exact ⟨rfl, HO.out⟩
        · have HG := Lib.hid (HE2.trans (if_neg (fun q => q.elim ha0 ha1)))
          have ha2 : 0 ≤ at' := by omega
          have ha3 : at' ≤ (nd.data.size : Int) := by omega
          have hs1 : nd.data.extract at'.toNat nd.data.size = s1 := HS1.out.symm
          have hs2 : nd.data.extract 0 at'.toNat = s2 := HS2.out.symm
          clear hk HE HE2 ha0 ha1 HS1 HS2
          by_cases hp : nd.parent = 0
          · have gp : (nd.parent != 0) = false := by simp [hp]
            rw [if_neg (fun q => q hp)] at HG
            clear hp HNX HPT
            go_enter Tryz.func39, Tryz.ntmps39
            go_wp2_with fail
            refine HC.out.mono ?_
            rintro e w1 ⟨rfl, o1⟩
            have HN1 := Lib.hid (HN.out _ o1)
            clear HC HN o1
            go_wp2_with fail
            refine HN1.out.mono ?_
            rintro e w2 ⟨ka, kl, kc, aa, al, ac, rfl, o2, -⟩
            clear HN1
            have HT := Lib.hid (nodeBox_facts (w := w2) nd ka kc aa ac kl al)
            have o5 := o2.nodeBox nd (.slice ka kl kc) (.slice aa al ac)
            go_wp2_with ((with_reducible refine wpList_store_mid ?_ 46 (.tmp 9) (.tmp 24) ?_ w2.heap.size 0 (nd.cells (.slice ka kl kc) (.slice aa al ac)).toArray ?_ ?_ ?_ ?_ ?_ ?_); exact rfl; exact rfl; exact rfl; exact rfl; exact HT.out.1; exact sizeNode _ _ _; exact all_oneCell_toArray HT.out.2; clear HT; generalize hw5 : World.setCells _ _ _ _ = w5 at o5 ⊢; generalize hg5 : w2.heap.size = g5 at o5 ⊢; clear hw5 hg5; have q0 : w5.cell? ⟨g5, 0, none⟩ = some (.int .i64 nd.kind) := (cell_of_row w5 _ _ _ _ _ (o5.box (g := g5) (o := .cells (nd.cells (.slice ka kl kc) (.slice aa al ac)).toArray 46 (0, 0)) (by simp))).trans rfl; have q7 : w5.cell? ⟨g5, 7, none⟩ = some (.string nd.data) := (cell_of_row w5 _ _ _ _ _ (o5.box (g := g5) (o := .cells (nd.cells (.slice ka kl kc) (.slice aa al ac)).toArray 46 (0, 0)) (by simp))).trans rfl)
            clear q0
            have h3 : w5.cell? ⟨g5, 3, none⟩ = some (.int .i64 nd.doc) := (cell_of_row w5 _ _ _ _ _ (o5.box (g := g5) (o := .cells (nd.cells (.slice ka kl kc) (.slice aa al ac)).toArray 46 (0, 0)) (by simp))).trans rfl
            have h7 := q7
            have oT := o5.swap.read (Below.drew (Below.refl _ _))
            clear o5
            go_upto_region 9 with fail
            go_region_held3 (fun w' => w'.cell? ⟨g5, 3, none⟩ = some (.int .i64 nd.doc) ∧ w'.cell? ⟨g5, 7, none⟩ = some (.string nd.data)) (first | exact ⟨h3, h7⟩ | exact ⟨k3, k7⟩)
              (first
                | ((go_at_call 82; (with_reducible refine (HTX.out _ _ oT).mono ?_); rintro e w6 ⟨rfl, o6⟩; have k3 : w6.cell? ⟨g5, 3, none⟩ = some (.int .i64 nd.doc) := (cell_of_row w6 _ _ _ _ _ (o6.box (g := g5) (o := .cells (nd.cells (.slice ka kl kc) (.slice aa al ac)).toArray 46 (0, 0)) (by simp))).trans rfl; have k7 : w6.cell? ⟨g5, 7, none⟩ = some (.string nd.data) := (cell_of_row w6 _ _ _ _ _ (o6.box (g := g5) (o := .cells (nd.cells (.slice ka kl kc) (.slice aa al ac)).toArray 46 (0, 0)) (by simp))).trans rfl))
                | fail)
            clear h3 h7 q7 oT k3
            have HC7 := Lib.hid (HSD.out _ _ o6)
            clear o6
            go_wp2_with fail
            refine HC7.out.mono ?_
            rintro e w7 ⟨rfl, o7⟩
            clear HC7 k7
            have q1 : w7.cell? ⟨g5, 1, none⟩ = some (.int .i64 nd.parent) := (cell_of_row w7 _ _ _ _ _ (o7.box (g := g5) (o := .cells (nd.cells (.slice ka kl kc) (.slice aa al ac)).toArray 46 (0, 0)) (by simp))).trans rfl
            have HO := Lib.hid o7.swap.drop
            clear o7
            go_wp2
            go_ret2
            rw [HG.out]
            exact ⟨rfl, HO.out⟩
          · have gp : (nd.parent != 0) = true := by simp [hp]
            rw [if_pos hp] at HG
            clear hp
            go_enter Tryz.func39, Tryz.ntmps39
            go_wp2_with fail
            refine HC.out.mono ?_
            rintro e w1 ⟨rfl, o1⟩
            have HN1 := Lib.hid (HN.out _ o1)
            clear HC HN o1
            go_wp2_with fail
            refine HN1.out.mono ?_
            rintro e w2 ⟨ka, kl, kc, aa, al, ac, rfl, o2, -⟩
            clear HN1
            have HT := Lib.hid (nodeBox_facts (w := w2) nd ka kc aa ac kl al)
            have o5 := o2.nodeBox nd (.slice ka kl kc) (.slice aa al ac)
            go_wp2_with ((with_reducible refine wpList_store_mid ?_ 46 (.tmp 9) (.tmp 24) ?_ w2.heap.size 0 (nd.cells (.slice ka kl kc) (.slice aa al ac)).toArray ?_ ?_ ?_ ?_ ?_ ?_); exact rfl; exact rfl; exact rfl; exact rfl; exact HT.out.1; exact sizeNode _ _ _; exact all_oneCell_toArray HT.out.2; clear HT; generalize hw5 : World.setCells _ _ _ _ = w5 at o5 ⊢; generalize hg5 : w2.heap.size = g5 at o5 ⊢; clear hw5 hg5; have q0 : w5.cell? ⟨g5, 0, none⟩ = some (.int .i64 nd.kind) := (cell_of_row w5 _ _ _ _ _ (o5.box (g := g5) (o := .cells (nd.cells (.slice ka kl kc) (.slice aa al ac)).toArray 46 (0, 0)) (by simp))).trans rfl; have q7 : w5.cell? ⟨g5, 7, none⟩ = some (.string nd.data) := (cell_of_row w5 _ _ _ _ _ (o5.box (g := g5) (o := .cells (nd.cells (.slice ka kl kc) (.slice aa al ac)).toArray 46 (0, 0)) (by simp))).trans rfl)
            clear q0
            have h3 : w5.cell? ⟨g5, 3, none⟩ = some (.int .i64 nd.doc) := (cell_of_row w5 _ _ _ _ _ (o5.box (g := g5) (o := .cells (nd.cells (.slice ka kl kc) (.slice aa al ac)).toArray 46 (0, 0)) (by simp))).trans rfl
            have h7 := q7
            have oT := o5.swap.read (Below.drew (Below.refl _ _))
            clear o5
            go_upto_region 9 with fail
            go_region_held3 (fun w' => w'.cell? ⟨g5, 3, none⟩ = some (.int .i64 nd.doc) ∧ w'.cell? ⟨g5, 7, none⟩ = some (.string nd.data)) (first | exact ⟨h3, h7⟩ | exact ⟨k3, k7⟩)
              (first
                | ((go_at_call 82; (with_reducible refine (HTX.out _ _ oT).mono ?_); rintro e w6 ⟨rfl, o6⟩; have k3 : w6.cell? ⟨g5, 3, none⟩ = some (.int .i64 nd.doc) := (cell_of_row w6 _ _ _ _ _ (o6.box (g := g5) (o := .cells (nd.cells (.slice ka kl kc) (.slice aa al ac)).toArray 46 (0, 0)) (by simp))).trans rfl; have k7 : w6.cell? ⟨g5, 7, none⟩ = some (.string nd.data) := (cell_of_row w6 _ _ _ _ _ (o6.box (g := g5) (o := .cells (nd.cells (.slice ka kl kc) (.slice aa al ac)).toArray 46 (0, 0)) (by simp))).trans rfl))
                | fail)
            clear h3 h7 q7 oT k3
            have HC7 := Lib.hid (HSD.out _ _ o6)
            clear o6
            go_wp2_with fail
            refine HC7.out.mono ?_
            rintro e w7 ⟨rfl, o7⟩
            clear HC7 k7
            have q1 : w7.cell? ⟨g5, 1, none⟩ = some (.int .i64 nd.parent) := (cell_of_row w7 _ _ _ _ _ (o7.box (g := g5) (o := .cells (nd.cells (.slice ka kl kc) (.slice aa al ac)).toArray 46 (0, 0)) (by simp))).trans rfl
            have oN := o7.read (Below.drew (Below.refl _ _))
            clear o7
            go_upto_region 12 with fail
            go_region_held3 (fun w' => w'.cell? ⟨g5, 1, none⟩ = some (.int .i64 nd.parent)) (first | exact q1 | exact k1 | exact k2)
              (first
                | ((go_at_call 120; (with_reducible refine (HNX.out _ _ oN (by simp)).mono ?_); rintro e w8 ⟨rfl, o8⟩; have k1 : w8.cell? ⟨g5, 1, none⟩ = some (.int .i64 nd.parent) := (cell_of_row w8 _ _ _ _ _ (o8.box (g := g5) (o := .cells (nd.cells (.slice ka kl kc) (.slice aa al ac)).toArray 46 (0, 0)) (by simp))).trans rfl))
                | ((go_at_call 125; (with_reducible refine (HPT.out _ _ o8).mono ?_); rintro e w9 ⟨rfl, o9⟩; have k2 : w9.cell? ⟨g5, 1, none⟩ = some (.int .i64 nd.parent) := (cell_of_row w9 _ _ _ _ _ (o9.box (g := g5) (o := .cells (nd.cells (.slice ka kl kc) (.slice aa al ac)).toArray 46 (0, 0)) (by simp))).trans rfl))
                | fail)
            all_goals
              have HO := Lib.hid o9.swap.drop
              clear oN o8 o9 k1 k2 q1
              go_wp2
              go_ret2
              rw [HG.out]
              exact ⟨rfl, HO.out⟩
    · have g1 : (nd.kind != 5) = true := by simp [hk]
      have HF := Lib.hid (HE.out.trans (if_pos hk))
      clear hk HE
      go_enter Tryz.func39, Tryz.ntmps39
      go_wp2_with fail
      refine HC.out.mono ?_
      rintro e w1 ⟨rfl, o1⟩
      have HN1 := Lib.hid (HN.out _ o1)
      clear HC HN o1
      go_wp2_with fail
      refine HN1.out.mono ?_
      rintro e w2 ⟨ka, kl, kc, aa, al, ac, rfl, o2, -⟩
      clear HN1
      have HT := Lib.hid (nodeBox_facts (w := w2) nd ka kc aa ac kl al)
      have o5 := o2.nodeBox nd (.slice ka kl kc) (.slice aa al ac)
      go_wp2_with ((with_reducible refine wpList_store_mid ?_ 46 (.tmp 9) (.tmp 24) ?_ w2.heap.size 0 (nd.cells (.slice ka kl kc) (.slice aa al ac)).toArray ?_ ?_ ?_ ?_ ?_ ?_); exact rfl; exact rfl; exact rfl; exact rfl; exact HT.out.1; exact sizeNode _ _ _; exact all_oneCell_toArray HT.out.2; clear HT; generalize hw5 : World.setCells _ _ _ _ = w5 at o5 ⊢; generalize hg5 : w2.heap.size = g5 at o5 ⊢; clear hw5 hg5; have q0 : w5.cell? ⟨g5, 0, none⟩ = some (.int .i64 nd.kind) := (cell_of_row w5 _ _ _ _ _ (o5.box (g := g5) (o := .cells (nd.cells (.slice ka kl kc) (.slice aa al ac)).toArray 46 (0, 0)) (by simp))).trans rfl)
      have HO := Lib.hid o5.drop
      clear o5 HTX HSD HNX HPT
      go_wp2
      go_ret2
      rw [HF.out]
      exact ⟨rfl, HO.out⟩
  · have HC := Lib.hid (Check1_own (opt := -1) (x := h) o (b := b) (A := A) (by simp) HS (chk1n.trans (if_neg hh)))
    have HF : Hid (A.split h at' = ((0, 3), A)) := Lib.hid (by unfold Ar.split; rw [if_pos hh])
    clear o hI hh HS
    go_enter Tryz.func39, Tryz.ntmps39
    go_wp2_with fail
    refine HC.out.mono ?_
    rintro e w1 ⟨rfl, o1⟩
    have HO := Lib.hid o1
    clear HC o1
    go_wp2
    go_ret2
    rw [HF.out]
    exact ⟨rfl, HO.out⟩

end Go.Proofs.YtpicinjcmjaogaaGreat
