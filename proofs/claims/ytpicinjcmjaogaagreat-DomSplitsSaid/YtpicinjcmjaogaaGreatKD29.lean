/-
  The law DomSplits: the walk.
-/
import Derived.Deep.QuietTactic
import Derived.BigQuiet
import Derived.Test.YtpicinjcmjaogaaGreatK40
import Derived.Test.YtpicinjcmjaogaaGreatK46
namespace Go.Proofs.YtpicinjcmjaogaaGreat
open Go.RowKit Go.Shelf Classical
set_option linter.unusedVariables false

theorem below_get {A : Ar} {h k : Int} (e : A.get h = A.get k) : A.below h = A.below k := by
  unfold Ar.below
  cases A.ns.length with
  | zero => rfl
  | succ n => unfold belowF; rw [e]
/-- The text below any handle. -/
theorem textOf_any {A : Ar} (hI : A.Inv) (h : Int) : (A.textOf (A.below h)).length ≤ A.mass := by
  by_cases hh : A.has h
  · exact textOf_mass hI h hh
  · have hz : A.get h = zeroNd → (A.textOf (A.below h)).length ≤ A.mass := fun e => by
      have : A.below h = [] := by
        unfold Ar.below
        cases A.ns.length with
        | zero => rfl
        | succ n => unfold belowF; rw [e]; rfl
      rw [this]; exact Nat.zero_le _
    by_cases h0 : h ≤ 0
    · have e : A.get h = A.get 1 := by unfold Ar.get; rw [show h.toNat - 1 = 0 by omega]; rfl
      by_cases h1 : A.has 1
      · rw [below_get e]; exact textOf_mass hI 1 h1
      · refine hz ?_
        have : A.ns.length = 0 := Classical.not_not.1 (fun q => h1 ⟨Int.le_refl _, by unfold Ar.n; omega⟩)
        unfold Ar.get
        rw [List.getElem?_eq_none (by omega)]; rfl
    · refine hz ?_
      have : A.ns.length ≤ h.toNat - 1 := Nat.le_of_not_lt (fun q => hh ⟨by omega, by unfold Ar.n; omega⟩)
      unfold Ar.get
      rw [List.getElem?_eq_none this]; rfl

set_option maxRecDepth 100000 in
set_option maxHeartbeats 1000000 in
theorem DomSplits_no (v0 : Value) (l : List OpD) (h at' : Int) (w : World) (hv : ROps w v0 l) (hs : ¬ small5 l 60) :
    Calls Tryz.prog 5 #[v0, .int .i64 h, .int .i64 at'] w fun e w' => e = .returned (.bool true) ∧ Below w.heap.size w w' := by
  have HS := Lib.hid (Small5_any v0 l 60 w hv)
  have HD := Lib.hid (show decide (small5 l 60) = false from decide_eq_false hs)
  obtain ⟨av, cv, rfl, -⟩ := hv
  go_enter Tryz.func5, Tryz.ntmps5
  go_wp2_with fail
  refine HS.out.mono ?_
  rintro e w1 ⟨rfl, hB1⟩
  rw [HD.out]
  go_wp2_with fail
  refine (known5_any w1).mono ?_
  rintro e w2 ⟨rfl, hB2⟩
  go_wp2
  go_ret
  exact ⟨rfl, hB1.trans (hB2.mono hB1.size)⟩

set_option maxRecDepth 100000 in
set_option maxHeartbeats 4000000 in
theorem DomSplits_some (v0 : Value) (l : List OpD) (h at' : Int) (w : World) (hv : ROps w v0 l) (hs : small5 l 60) :
    Calls Tryz.prog 5 #[v0, .int .i64 h, .int .i64 at'] w fun e w' => e = .returned (.bool true) ∧ Below w.heap.size w w' := by
  have HS := Lib.hid (Small5_any v0 l 60 w hv)
  have HD := Lib.hid (show decide (small5 l 60) = true from decide_eq_true hs)
  obtain ⟨i1, -, hlen, -⟩ := run5_take hs (by omega) (Nat.le_refl l.length)
  rw [List.take_length] at i1 hlen
  have hmass := run60_mass hs (by omega)
  have HRUN := Lib.hid (fun W (ll : List Asrt) (o : Own w w.heap.size ll W) => Run5_own o v0 l (hv.below o.low) hs (by omega))
  have HSH := Lib.hid (i1.short (show (runL5 l).ns.length ≤ 1000000 by omega))
  obtain ⟨av0, cv0, rfl, -⟩ := hv
  have o0 := Own.start w
  clear hs
  generalize runL5 l = A at *
  obtain ⟨p, hp⟩ : ∃ p, p = A.parentOf h := ⟨_, rfl⟩
  obtain ⟨nd, hnd⟩ : ∃ nd, (if A.has h then A.get h else zeroNd) = nd := ⟨_, rfl⟩
  have HND := Lib.hid hnd
  have HP := Lib.hid hp.symm
  have HTX := Lib.hid (fun (W : World) (b : Nat) (ll : List Asrt) (o : Own w w.heap.size (.arena b A :: ll) W) => TextContent_own (h := p) o i1 (by omega) (Nat.le_trans (textOf_any i1 p) hmass))
  have HSP := Lib.hid (fun (W : World) (b : Nat) (ll : List Asrt) (o : Own w w.heap.size (.arena b A :: ll) W) => SplitD_own (h := h) (at' := at') o i1 (by omega))
  unfold pairV at HSP
  have HLAW : Hid ((A.split h at').1.2 = 0 → (A.split h at').1.1 = (A.ns.length : Int) + 1 ∧ 0 ≤ at' ∧ at' ≤ (nd.data.size : Int) ∧ (A.split h at').2.Inv ∧ (A.split h at').2.ns.length = A.ns.length + 1 ∧ (A.split h at').2.mass ≤ 140737488355328 ∧
      (if (A.split h at').2.has h then (A.split h at').2.get h else zeroNd).data = nd.data.extract 0 at'.toNat ∧ (if (A.split h at').2.has h then (0 : Int) else 3) = 0 ∧
      (if (A.split h at').2.has ((A.ns.length : Int) + 1) then (A.split h at').2.get ((A.ns.length : Int) + 1) else zeroNd).data = nd.data.extract at'.toNat nd.data.size ∧ (if (A.split h at').2.has ((A.ns.length : Int) + 1) then (A.split h at').2.get ((A.ns.length : Int) + 1) else zeroNd).doc = nd.doc ∧
      (if (A.split h at').2.has ((A.ns.length : Int) + 1) then (A.split h at').2.get ((A.ns.length : Int) + 1) else zeroNd).parent = p ∧ (if (A.split h at').2.has ((A.ns.length : Int) + 1) then (0 : Int) else 3) = 0 ∧
      ((A.split h at').2.textContent p).1 = (A.textContent p).1 ∧ (p ≠ 0 → ∃ ix : Nat, (A.split h at').2.index h = ix ∧ ix ≤ 100000 ∧ (A.split h at').2.index ((A.ns.length : Int) + 1) = (ix : Int) + 1)) := Lib.hid (fun h0 => by
    obtain ⟨q1, q2, q3, q4, q5, q6, q7, q8, q9, q10, q11, q12, q13, q14, q15, q16⟩ := split_law i1 h0
    have hpp : p = (A.get h).parent := by rw [hp]; unfold Ar.parentOf; rw [if_pos q1]
    have hAn : A.n = (A.ns.length : Int) := rfl
    have hnn : nd = A.get h := by rw [← hnd, if_pos q1]
    rw [hAn] at q5 q9 q11 q12 q13 q15
    rw [if_pos q8, if_pos q8, if_pos q9, if_pos q9, hnn, extract_head, extract_tail]
    refine ⟨q5, q3, q4, q6, q7, Nat.le_trans (mass_split h at') hmass, q10, rfl, q11, q12, by rw [q13, hpp], rfl, by rw [hpp, q14], fun z => ?_⟩
    rw [hpp] at z
    have hBp : ((A.split h at').2.get h).parent ≠ 0 := by rw [q16]; exact z
    obtain ⟨ix, e1, e2, e3⟩ := index_nat q6 q8 hBp
    exact ⟨ix, e1, by have := Ar.kids_len q6.wf (q6.wf.link _ q8 hBp).1; omega, by rw [q15 z, e1]⟩)
  have HBB : Hid (∀ B : Ar, B.Inv → B.ns.length = A.ns.length + 1 → B.mass ≤ 140737488355328 → ∀ (W : World) (b : Nat) (ll : List Asrt) (o : Own w w.heap.size (.arena b B :: ll) W), Calls Tryz.prog 38 #[.pointer (some ⟨b, 0, none⟩), .int .i64 p] W fun e w' => e = .returned (.tuple #[.string (B.textContent p).1, .int .i64 (B.textContent p).2]) ∧ Own w w.heap.size (.arena b B :: ll) w') :=
    Lib.hid (fun B hI hl hm W b ll o => TextContent_own (h := p) o hI (by omega) (Nat.le_trans (textOf_any hI p) hm))
  generalize hB : (A.split h at').2 = B at *
  generalize he : (A.split h at').1.2 = er at *
  generalize ht : (A.split h at').1.1 = t at *
  generalize A.textContent p = tp at *
  obtain ⟨tx1, tx2⟩ := tp
  dsimp only at HTX HLAW
  clear hnd hp hB he ht hmass i1
  go_enter Tryz.func5, Tryz.ntmps5
  go_wp2_with fail
  refine HS.out.mono ?_
  rintro e w1 ⟨rfl, hB1⟩
  rw [HD.out]
  have o1 := o0.read hB1
  clear hB1 o0 HS HD
  go_wp2_with fail
  refine (HRUN.out _ _ o1).mono ?_
  rintro e w2 ⟨rfl, o2⟩
  generalize w1.heap.size = b at *
  clear o1 HRUN
  go_wp2_with fail
  refine (NodeE_own o2 (b := b) (A := A) (by simp) HSH.out HND.out (er := if A.has h then (0 : Int) else 3) rfl).mono ?_
  rintro e w3 ⟨ka, kl, kc, aa, al, ac, rfl, o3, -⟩
  generalize (if A.has h then (0 : Int) else 3) = e0 at *
  clear o2
  have HT := Lib.hid (nodeBox_facts (w := w3) nd ka kc aa ac kl al)
  have o4 := o3.nodeBox nd (.slice ka kl kc) (.slice aa al ac)
  clear o3
  go_wp2_with ((with_reducible refine wpList_store_mid ?_ 46 (.tmp 8) (.tmp 31) ?_ w3.heap.size 0 (nd.cells (.slice ka kl kc) (.slice aa al ac)).toArray ?_ ?_ ?_ ?_ ?_ ?_); exact rfl; exact rfl; exact rfl; exact rfl; exact HT.out.1; exact sizeNode _ _ _; exact all_oneCell_toArray HT.out.2; generalize hw4 : World.setCells _ _ _ _ = w4 at o4 ⊢; generalize hg8 : w3.heap.size = g8 at o4 ⊢; clear hw4 hg8)
  clear HT
  refine (Parent_own o4 (b := b) (A := A) (by simp)).mono ?_
  rintro e w5 ⟨rfl, rfl⟩
  rw [HP.out]
  go_wp2_with fail
  refine (HTX.out _ _ _ o4.swap).mono ?_
  rintro e w5 ⟨rfl, o5⟩
  clear o4 HTX
  go_wp2_with fail
  refine (HSP.out _ _ _ o5).mono ?_
  rintro e w6 ⟨rfl, o6⟩
  clear o5 HSP
  by_cases her : er = 0
  · have here : (er != 0) = false := by simp [her]
    obtain ⟨rfl, l1, l2, l3, l4, l5, l6, l7, l8, l9, l10, l11, l12, l13⟩ := HLAW.out her
    have HB2 := Lib.hid (HBB.out B l3 l4 l5)
    have HBI := Lib.hid l3
    have HBS := Lib.hid (l3.short (show B.ns.length ≤ 1000000 by omega))
    obtain ⟨nx, hnx⟩ : ∃ nx, (if B.has h then B.get h else zeroNd) = nx := ⟨_, rfl⟩
    obtain ⟨ny, hny⟩ : ∃ ny, (if B.has ((A.ns.length : Int) + 1) then B.get ((A.ns.length : Int) + 1) else zeroNd) = ny := ⟨_, rfl⟩
    rw [hnx] at l6
    rw [hny] at l8 l9 l10
    have HX := Lib.hid (And.intro hnx l7)
    have HY := Lib.hid (And.intro hny l11)
    have L6 := Lib.hid l6
    have L8 := Lib.hid l8
    have L9 := Lib.hid l9
    have L10 := Lib.hid l10
    have L12 := Lib.hid l12
    have L13 := Lib.hid l13
    have L4 := Lib.hid l4
    clear her HLAW l3 l4 l5 l6 l7 l8 l9 l10 l11 l12 l13 hnx hny HBB
    go_wp2_with fail
    refine (NodeE_own o6 (b := b) (A := B) (by simp) HBS.out HX.out.1 HX.out.2).mono ?_
    rintro e w7 ⟨ka7, kl7, kc7, aa7, al7, ac7, rfl, o7, -⟩
    clear o6
    have HT := Lib.hid (nodeBox_facts (w := w7) nx ka7 kc7 aa7 ac7 kl7 al7)
    have o8 := o7.nodeBox nx (.slice ka7 kl7 kc7) (.slice aa7 al7 ac7)
    clear o7
    go_wp2_with ((with_reducible refine wpList_store_mid ?_ 46 (.tmp 15) (.tmp 56) ?_ w7.heap.size 0 (nx.cells (.slice ka7 kl7 kc7) (.slice aa7 al7 ac7)).toArray ?_ ?_ ?_ ?_ ?_ ?_); exact rfl; exact rfl; exact rfl; exact rfl; exact HT.out.1; exact sizeNode _ _ _; exact all_oneCell_toArray HT.out.2; generalize hw8 : World.setCells _ _ _ _ = w8 at o8 ⊢; generalize hg15 : w7.heap.size = g15 at o8 ⊢; clear hw8 hg15)
    clear HT
    refine (NodeE_own o8 (b := b) (A := B) (by simp) HBS.out HY.out.1 HY.out.2).mono ?_
    rintro e w9 ⟨ka9, kl9, kc9, aa9, al9, ac9, rfl, o9, -⟩
    clear o8
    have HT := Lib.hid (nodeBox_facts (w := w9) ny ka9 kc9 aa9 ac9 kl9 al9)
    have o10 := o9.nodeBox ny (.slice ka9 kl9 kc9) (.slice aa9 al9 ac9)
    clear o9
    go_wp2_with ((with_reducible refine wpList_store_mid ?_ 46 (.tmp 17) (.tmp 62) ?_ w9.heap.size 0 (ny.cells (.slice ka9 kl9 kc9) (.slice aa9 al9 ac9)).toArray ?_ ?_ ?_ ?_ ?_ ?_); exact rfl; exact rfl; exact rfl; exact rfl; exact HT.out.1; exact sizeNode _ _ _; exact all_oneCell_toArray HT.out.2; generalize hw10 : World.setCells _ _ _ _ = w10 at o10 ⊢; generalize hg17 : w9.heap.size = g17 at o10 ⊢; clear hw10 hg17)
    clear HT
    have BX8 := o10.box (g := g8) (o := .cells (nd.cells (.slice ka kl kc) (.slice aa al ac)).toArray 46 (0, 0)) (by simp)
    have BX15 := o10.box (g := g15) (o := .cells (nx.cells (.slice ka7 kl7 kc7) (.slice aa7 al7 ac7)).toArray 46 (0, 0)) (by simp)
    have BX17 := o10.box (g := g17) (o := .cells (ny.cells (.slice ka9 kl9 kc9) (.slice aa9 al9 ac9)).toArray 46 (0, 0)) (by simp)
    have k1 : w10.cell? ⟨g8, 3, none⟩ = some (.int .i64 nd.doc) := (cell_of_row w10 _ _ _ _ _ BX8).trans rfl
    have k2 : w10.cell? ⟨g8, 7, none⟩ = some (.string nd.data) := (cell_of_row w10 _ _ _ _ _ BX8).trans rfl
    have k3 : w10.cell? ⟨g15, 7, none⟩ = some (.string (nd.data.extract 0 at'.toNat)) := by rw [← L6.out]; exact (cell_of_row w10 _ _ _ _ _ BX15).trans rfl
    have k4 : w10.cell? ⟨g17, 1, none⟩ = some (.int .i64 p) := by rw [← L10.out]; exact (cell_of_row w10 _ _ _ _ _ BX17).trans rfl
    have k5 : w10.cell? ⟨g17, 3, none⟩ = some (.int .i64 nd.doc) := by rw [← L9.out]; exact (cell_of_row w10 _ _ _ _ _ BX17).trans rfl
    have k6 : w10.cell? ⟨g17, 7, none⟩ = some (.string (nd.data.extract at'.toNat nd.data.size)) := by rw [← L8.out]; exact (cell_of_row w10 _ _ _ _ _ BX17).trans rfl
    have HLN := Lib.hid (fun (n : Nat) => (Len_own (o10.read (Below.drewN (Below.refl _ _) n)) (b := b) (A := B) (by simp)).mono (fun e w' hh => show e = .returned (.int .i64 ((A.ns.length : Int) + 1)) ∧ w' = w10.drewN n from ⟨by rw [hh.1, L4.out]; simp, hh.2.symm⟩))
    have HO := Lib.hid o10
    clear BX8 BX15 BX17 o10
    go_quiet ((go_at_call 40; exact Calls.quiet_of_same (HLN.out _)))
    have o11 := (HO.out.read (Below.drewN (Below.refl w10.heap.size w10) nq)).rot3
    clear HO HLN k1 k2 k3 k4 k5 k6
    generalize w10.drewN nq = w11 at *
    go_wp2_with fail
    refine (HB2.out _ _ _ o11).mono ?_
    rintro e w12 ⟨rfl, o12⟩
    rw [L12.out]
    clear o11 HB2
    by_cases hp0 : p = 0
    · have e1 : (p == 0) = true := by simp [hp0]
      clear hp0
      go_wp2_with fail
      refine (known5_any w12).mono ?_
      rintro e w13 ⟨rfl, hB13⟩
      have HX := Lib.hid (o12.back hB13)
      clear hB13 o12
      go_wp2
      go_ret
      exact ⟨rfl, HX.out⟩
    · have e1 : (p == 0) = false := by simp [hp0]
      obtain ⟨ix, i1, i2, i3⟩ := L13.out hp0
      have I1 := Lib.hid i1
      have I3 := Lib.hid i3
      clear hp0 i1 i3
      go_wp2_with fail
      refine (Index_own o12 (b := b) (A := B) (by simp) HBI.out).mono ?_
      rintro e w13 ⟨rfl, rfl⟩
      rw [I3.out]
      go_wp2_with fail
      refine (Index_own o12 (b := b) (A := B) (by simp) HBI.out).mono ?_
      rintro e w13 ⟨rfl, rfl⟩
      rw [I1.out]
      go_wp2_with fail
      refine (known5_any w12).mono ?_
      rintro e w13 ⟨rfl, hB13⟩
      have HX := Lib.hid (o12.back hB13)
      clear hB13 o12
      go_wp2
      go_ret
      exact ⟨rfl, HX.out⟩
  · have here : (er != 0) = true := by simp [her]
    have HO := Lib.hid o6
    clear her o6 HLAW HBB
    go_wp2_with fail
    refine (known5_any w6).mono ?_
    rintro e w8 ⟨rfl, hB8⟩
    have HX := Lib.hid (HO.out.back hB8)
    clear hB8
    go_wp2
    go_ret
    exact ⟨rfl, HX.out⟩

/-- **DomSplits: the walk.** -/
theorem DomSplits_any (v0 : Value) (l : List OpD) (h at' : Int) (w : World) (hv : ROps w v0 l) :
    Calls Tryz.prog 5 #[v0, .int .i64 h, .int .i64 at'] w fun e w' => e = .returned (.bool true) ∧ Below w.heap.size w w' := by
  by_cases hs : small5 l 60
  · exact DomSplits_some v0 l h at' w hv hs
  · exact DomSplits_no v0 l h at' w hv hs

end Go.Proofs.YtpicinjcmjaogaaGreat
