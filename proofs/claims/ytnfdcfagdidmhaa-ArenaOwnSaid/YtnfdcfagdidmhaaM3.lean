/-
  The law ArenaMoves: the walk when the node is put.
-/
import Derived.Test.YtnfdcfagdidmhaaM2
namespace Go.Proofs.Ytnfdcfagdidmhaa
open Go.RowKit
set_option linter.unusedVariables false

theorem Kids_own' {w0 w : World} {B b : Nat} {A : Ar} {l : List Asrt} {h : Int} (o : Own w0 B l w) (hm : Asrt.arena b A ∈ l) (hS : A.Short) {y : List Int} (hy : A.kidsOf h = y) :
    Calls Try.prog 33 #[.pointer (some ⟨b, 0, none⟩), .int .i64 h] w fun e w' => ∃ a c, e = .returned (.slice a y.length c) ∧ Own w0 B (.ints (.slice a y.length c) y :: l) w' := by
  subst hy; exact Kids_own o hm hS
theorem Index_own {w0 w : World} {B b : Nat} {A : Ar} {l : List Asrt} {h : Int} (o : Own w0 B l w) (hm : Asrt.arena b A ∈ l) (hI : A.Inv) {i : Int} (hi : A.index h = i) :
    Calls Try.prog 39 #[.pointer (some ⟨b, 0, none⟩), .int .i64 h] w fun e w' => e = .returned (.int .i64 i) ∧ w = w' := by
  subst hi
  obtain ⟨ρ, hA⟩ := o.arena hm
  exact Index_arena A ρ b h w hA (fun hh hp => (hI.wf.link h hh hp).1)
theorem Parent_own' {w0 w : World} {B b : Nat} {A : Ar} {l : List Asrt} {h : Int} (o : Own w0 B l w) (hm : Asrt.arena b A ∈ l) {p : Int} (hp : A.parentOf h = p) :
    Calls Try.prog 43 #[.pointer (some ⟨b, 0, none⟩), .int .i64 h] w fun e w' => e = .returned (.int .i64 p) ∧ w = w' := by
  subst hp; exact Parent_own o hm
theorem kidsOf_len {A : Ar} (hI : A.Inv) (h : Int) : (A.kidsOf h).length ≤ A.ns.length := by
  unfold Ar.kidsOf
  split
  · rename_i hh; exact Ar.kids_len hI.wf hh
  · exact Nat.zero_le _

/-- The facts that the walk wants. -/
theorem moves_facts {A : Ar} (hI : A.Inv) {parent node before : Int} (h : (A.put parent node before).1 = 0) (hsm : A.ns.length ≤ 1000) : ∃ (i : Nat) (A' : Ar) (nw wk kb : List Int) (from0 : Int), A.put parent node before = (0, A') ∧ A'.Inv ∧ A'.ns.length ≤ 1000 ∧
    A.parentOf node = from0 ∧ A'.parentOf node = parent ∧ A.kidsOf parent = wk ∧ A'.kidsOf parent = nw ∧ A'.index node = i ∧ i < nw.length ∧ nw[i]?.getD 0 = node ∧ nw.length ≤ 1000 ∧ wk.length ≤ 1000 ∧ (A.kidsOf from0).length ≤ 1000 ∧
    (before = 0 → i + 1 = nw.length) ∧ (before ≠ 0 → i + 1 < nw.length ∧ nw[i + 1]?.getD 0 = before) ∧ without wk node = kb ∧ without nw node = kb ∧ (from0 ≠ parent → without (A.kidsOf from0) node = A'.kidsOf from0) := by
  obtain ⟨i, kb, A', h1, h2, h3, h4, h5, h6, h7, h8, h9, h10, h11, h12, h13, h14, h15⟩ := moves_law hI h
  have hl : (kb.take i).length = i := by simp; omega
  have hlen : (kb.take i ++ node :: kb.drop i).length = kb.length + 1 := by simp; omega
  have e2 : A'.kidsOf parent = kb.take i ++ node :: kb.drop i := by unfold Ar.kidsOf; rw [if_pos h6, h9]
  have e1 : A.kidsOf parent = (A.get parent).kids := by unfold Ar.kidsOf; rw [if_pos h4]
  refine ⟨i, A', _, _, kb, _, h1, h2, by omega, rfl, by unfold Ar.parentOf; rw [if_pos h7, h8], rfl, e2, index_put h7 h6 h8 h9 h10 h11, by omega, ?_, ?_, Nat.le_trans (kidsOf_len hI _) hsm, Nat.le_trans (kidsOf_len hI _) hsm, fun e => by have := h12 e; omega, fun e => ?_, by rw [e1]; exact h14, without_put i h11, h15⟩
  · rw [List.getElem?_append_right (by omega), hl]; simp
  · rw [← e2]; exact Nat.le_trans (kidsOf_len h2 _) (by omega)
  · have hk := h13 e
    have hik : i < kb.length := (List.getElem?_eq_some_iff.1 hk).1
    refine ⟨by omega, ?_⟩
    rw [List.getElem?_append_right (by omega), hl, show i + 1 - i = 1 from by omega, List.getElem?_cons_succ, List.getElem?_drop]
    simp [hk]

set_option maxRecDepth 100000 in
set_option maxHeartbeats 4000000 in
theorem ArenaMoves_some (v : Value) (l : List OpD) (parent node before : Int) (w : World) (hv : ROps w v l) (hs : smallOps l 150) (he : ((runL l).put parent node before).1 = 0) :
    Calls Try.prog 9 #[v, .int .i64 parent, .int .i64 node, .int .i64 before] w fun e w' => e = .returned (.bool true) ∧ Below w.heap.size w w' := by
  have HS := Lib.hid (Small_any v l 150 w hv)
  have HD := Lib.hid (show decide (smallOps l 150) = true from decide_eq_true hs)
  obtain ⟨s1, s2⟩ := smallOps_get hs (by omega)
  obtain ⟨i1, i2⟩ := run_len s2
  have HR := Lib.hid (fun (w0 w1 : World) (B : Nat) (o : Own w0 B [] w1) (hv1 : ROps w1 v l) => Run_own o v l hv1 s1 s2)
  have o0 := Own.start w
  have HV := Lib.hid hv
  have hl150 := hs.1
  obtain ⟨av, cv, rfl, -⟩ := hv
  obtain ⟨i, A', nw, wk, kb, from0, f1, f2, f3, f4, f5, f6, f7, f8, f9, f10, f11, f12, f13, f14, f15, f16, f17, f18⟩ := moves_facts i1 he (by omega)
  have HI := Lib.hid (And.intro i1 (And.intro (show (runL l).ns.length ≤ 1000 by omega) (And.intro f2 f3)))
  generalize runL l = A at *
  have HP := Lib.hid f1
  have H4 := Lib.hid f4; have H5 := Lib.hid f5; have H6 := Lib.hid f6; have H7 := Lib.hid f7; have H8 := Lib.hid f8; have H10 := Lib.hid f10; have H12 := Lib.hid f12; have H13 := Lib.hid f13
  have H16 := Lib.hid f16; have H17 := Lib.hid f17; have H18 := Lib.hid f18
  have H14 := Lib.hid f14; have H15 := Lib.hid f15
  clear hs hl150 he i1 i2 f1 f2 f3 f4 f5 f6 f7 f8 f10 f12 f13 f14 f15 f16 f17 f18
  have hi1 : (i : Int) < nw.length := by omega
  have hi2 : (nw.length : Int) ≤ 1000 := by omega
  have hi3 : (1 : Int) ≤ nw.length := by omega
  have hcase : (from0 = parent ∨ from0 ≠ parent) ∧ (before = 0 ∨ before ≠ 0) := ⟨Classical.em _, Classical.em _⟩
  obtain ⟨hfp, hb0⟩ := hcase
  rcases hfp with hfp | hfp <;> rcases hb0 with hb0 | hb0
  all_goals
    first
      | (have g1 : (from0 == parent) = true := by simp [hfp])
      | (have g1 : (from0 == parent) = false := by simp [hfp])
    have HFP := Lib.hid hfp
    clear hfp
    first
      | (have g2 : (before == 0) = true := by simp [hb0]
         have g3 : (before != 0) = false := by simp [hb0]
         have g4 : ((i : Int) != (nw.length : Int) - 1) = false := by have := H14.out hb0; simp; omega)
      | (have g2 : (before == 0) = false := by simp [hb0]
         have g3 : (before != 0) = true := by simp [hb0]
         have g4 : (i : Int) + 1 < nw.length := by have := (H15.out hb0).1; omega)
    have HB0 := Lib.hid hb0
    clear hb0
    go_enter Try.func9, Try.ntmps9
    go_wp2_with fail
    refine HS.out.mono ?_
    rintro e w1 ⟨rfl, hB1⟩
    rw [HD.out]
    have o1 := o0.read hB1
    clear o0 HS HD
    go_wp2_with fail
    refine (HR.out _ _ _ o1 (HV.out.below hB1)).mono ?_
    rintro e w2 ⟨rfl, o2⟩
    generalize w1.heap.size = b at *
    clear o1 hB1 HV
    go_wp2_with fail
    refine (Parent_own' o2 (b := b) (A := A) (by simp) H4.out).mono ?_
    rintro e w3 ⟨rfl, rfl⟩
    go_wp2_with fail
    refine (Kids_own' o2 (b := b) (A := A) (by simp) (HI.out.1.short (by have := HI.out.2.1; omega)) H6.out).mono ?_
    rintro e w3 ⟨a3, c3, rfl, o3⟩
    clear o2
    go_wp2_with fail
    refine (Kids_own o3 (b := b) (A := A) (by simp) (HI.out.1.short (by have := HI.out.2.1; omega))).mono ?_
    rintro e w4 ⟨a4, c4, rfl, o4⟩
    clear o3
    have o4 := o4.rot3
    go_wp2_with fail
    refine (o4.callE (fun ρ hA => Put_any A ρ _ parent node before _ hA HI.out.1.wf (by have := HI.out.2.1; omega)) (A2 := A') (v' := .int .i64 0) (by rw [HP.out]) (by rw [HP.out])).mono ?_
    rintro e w5 ⟨rfl, o5⟩
    clear o4
    go_wp2_with fail
    refine (Kids_own' o5 (b := b) (A := A') (by simp) (HI.out.2.2.1.short (by have := HI.out.2.2.2; omega)) H7.out).mono ?_
    rintro e w6 ⟨a6, c6, rfl, o6⟩
    clear o5
    go_wp2_with fail
    refine (Index_own o6 (b := b) (A := A') (by simp) HI.out.2.2.1 H8.out).mono ?_
    rintro e w7 ⟨rfl, rfl⟩
    go_wp2_with fail
    refine (Parent_own' o6 (b := b) (A := A') (by simp) H5.out).mono ?_
    rintro e w7 ⟨rfl, rfl⟩
    obtain ⟨a6', c6', hsl, -, -, hcell⟩ := (o6.ints (v := .slice a6 nw.length c6) (x := nw) (by simp)).form
    simp only [Value.slice.injEq] at hsl
    obtain ⟨rfl, -, rfl⟩ := hsl
    obtain ⟨g, oo, rfl, hcell2⟩ := hcell (by omega)
    have q1 := hcell2 i f9
    rw [H10.out] at q1
    try (have q2 := hcell2 (i + 1) (by omega); rw [(H15.out HB0.out).2] at q2)
    clear hcell hcell2
    go_wp2_with fail
    refine (Without_own o6 (v := .slice a3 wk.length c3) (x := wk) (by simp) (by have := H12.out; omega) H16.out).mono ?_
    rintro e w8 ⟨a8, c8, rfl, o8⟩
    clear q1
    try clear q2
    clear o6
    go_wp2_with fail
    refine (Without_own o8 (v := .slice (some ⟨g, oo, none⟩) nw.length c6) (x := nw) (by simp) (by omega) H17.out).mono ?_
    rintro e w9 ⟨a9, c9, rfl, o9⟩
    clear o8
    go_wp2_with fail
    refine (SameInts_own o9 (v1 := .slice a8 kb.length c8) (x := kb) (v2 := .slice a9 kb.length c9) (y := kb) (by simp) (by simp)).mono ?_
    rintro e w10 ⟨rfl, o10⟩
    clear o9
    rw [show decide (kb = kb) = true from by simp]
    go_wp2_with fail
    first
      | (go_at_call 18
         refine (known_any w10).mono ?_
         rintro e w13 ⟨rfl, hB13⟩
         have HB := Lib.hid (o10.back hB13)
         clear o10 hB13
         go_wp2
         go_ret
         exact ⟨rfl, HB.out⟩)
      | (go_at_call 50
         refine (Without_own o10 (v := .slice a4 (A.kidsOf from0).length c4) (x := A.kidsOf from0) (by simp) (by have := H13.out; omega) (H18.out HFP.out)).mono ?_
         rintro e w11 ⟨a11, c11, rfl, o11⟩
         clear o10
         go_wp2_with fail
         refine (Kids_own o11 (b := b) (A := A') (by simp) (HI.out.2.2.1.short (by have := HI.out.2.2.2; omega))).mono ?_
         rintro e w12 ⟨a12, c12, rfl, o12⟩
         clear o11
         go_wp2_with fail
         refine (SameInts_own o12 (v1 := .slice a11 (A'.kidsOf from0).length c11) (x := A'.kidsOf from0) (v2 := .slice a12 (A'.kidsOf from0).length c12) (y := A'.kidsOf from0) (by simp) (by simp)).mono ?_
         rintro e w13 ⟨rfl, o13⟩
         clear o12
         rw [show decide (A'.kidsOf from0 = A'.kidsOf from0) = true from by simp]
         go_wp2_with fail
         refine (known_any w13).mono ?_
         rintro e w14 ⟨rfl, hB14⟩
         have HB := Lib.hid (o13.back hB14)
         clear o13 hB14
         go_wp2
         go_ret
         exact ⟨rfl, HB.out⟩)

/-- **ArenaMoves: the walk.** -/
theorem ArenaMoves_any (v : Value) (l : List OpD) (parent node before : Int) (w : World) (hv : ROps w v l) :
    Calls Try.prog 9 #[v, .int .i64 parent, .int .i64 node, .int .i64 before] w fun e w' => e = .returned (.bool true) ∧ Below w.heap.size w w' := by
  by_cases hs : smallOps l 150
  · by_cases he : ((runL l).put parent node before).1 = 0
    · exact ArenaMoves_some v l parent node before w hv hs he
    · exact ArenaMoves_none v l parent node before w hv hs he
  · exact ArenaMoves_big v l parent node before w hv hs

end Go.Proofs.Ytnfdcfagdidmhaa
