/-
  The document's Sound: the links of one node. (Printed by gensw.py.)
-/
import Derived.Test.YtnfdcfagdidmhaaSX
import Derived.Test.YtnfdcfagdidmhaaQB
import Derived.BigRegion
import Derived.Deep.CutRange
namespace Go.Proofs.Ytnfdcfagdidmhaa
open Go.RowKit Classical
set_option linter.unusedVariables false

set_option maxRecDepth 100000 in
set_option maxHeartbeats 1000000 in
theorem Unused_0 (n : Nd) (kv av : Value) (w : World) (hk : RInts w kv n.kids) (ha : RAttrs w av n.attrs) (h1 : n.kind < 1 ∨ 6 < n.kind) :
    Calls Try.prog 93 #[.agg (n.cells kv av).toArray] w fun e w' => e = .returned (.bool (decide (unusedP n))) ∧ Below w.heap.size w w' := by
  have HV := Lib.hid (show decide (unusedP n) = false from decide_eq_false (fun q => by have a := q.1; have b := q.2.1; omega))
  obtain ⟨n0, n1, n2, n3, n4, n5, n6, n7, n8, n9, n10, n11, n12⟩ := n
  dsimp only at h1
  clear hk ha
  unfold Nd.cells
  rcases h1 with h1 | h1
  · go_enter Try.func93, Try.ntmps93
    go_wp2
    go_ret
    exact ⟨ret_bool (HV.out).symm, below_alloc _ _⟩
  · have h2 : ¬ n0 < 1 := by omega
    go_enter Try.func93, Try.ntmps93
    go_wp2
    go_ret
    exact ⟨ret_bool (HV.out).symm, below_alloc _ _⟩

theorem Unused_any (n : Nd) (kv av : Value) (w : World) (hk : RInts w kv n.kids) (ha : RAttrs w av n.attrs) :
    Calls Try.prog 93 #[.agg (n.cells kv av).toArray] w fun e w' => e = .returned (.bool (decide (unusedP n))) ∧ Below w.heap.size w w' := by
  by_cases h1 : n.kind = 1
  · exact Unused_1 n kv av w hk ha h1
  by_cases h2 : n.kind = 2
  · exact Unused_2 n kv av w hk ha h2
  by_cases h3 : n.kind = 3
  · exact Unused_3 n kv av w hk ha h3
  by_cases h4 : n.kind = 4
  · exact Unused_4 n kv av w hk ha h4
  by_cases h5 : n.kind = 5
  · exact Unused_5 n kv av w hk ha h5
  by_cases h6 : n.kind = 6
  · exact Unused_6 n kv av w hk ha h6
  exact Unused_0 n kv av w hk ha (by omega)

set_option maxRecDepth 100000 in
set_option maxHeartbeats 4000000 in
theorem Linked_any (A : Ar) (b : Nat) (h : Int) (w : World) (hA : RN w b A) (hh : A.has h) :
    Calls Try.prog 95 #[.pointer (some ⟨b, 0, none⟩), .int .i64 h] w fun e w' => e = .returned (.bool (decide (A.parP h ∧ A.kidP h))) ∧ Below w.heap.size w w' := by
  obtain ⟨nb, o, c, h0, h1, h2, h3⟩ := hA
  have HF := Lib.hid h3
  have HLN := Lib.hid (show (A.ns.length : Int) + 1 ≤ 9223372036854775807 by omega)
  have HHAS := Lib.hid (fun (W : World) (hW : Below w.heap.size w W) x => RHas_any A b (some ⟨nb, o, none⟩) c x W (Below.old hW h0) HLN.out)
  obtain ⟨q1, q2, kv, av, F, hK, hAt⟩ := h3 h hh
  have HKK := Lib.hid hK
  obtain ⟨ka, kc, rfl, kl1, kl2, -⟩ := hK.form
  obtain ⟨aa, ac, rfl, al1, al2, -⟩ := hAt.form
  have c0 := F.c0; have c1 := F.c1; have c2 := F.c2; have c3 := F.c3; have c4 := F.c4; have c5 := F.c5; have c6 := F.c6; have c7 := F.c7; have c8 := F.c8; have c9 := F.c9; have c10 := F.c10; have c11 := F.c11; have c12 := F.c12
  have HBX := Lib.hid (nodeBoxF w (A.get h) (.slice ka (A.get h).kids.length kc) (.slice aa (A.get h).attrs.length ac))
  have HT := Lib.hid (nodeBox_facts (w := w) (A.get h) ka kc aa ac (A.get h).kids.length (A.get h).attrs.length)
  have HHH := Lib.hid hh
  clear F hK hAt h3 hh
  by_cases hp : (A.get h).parent = 0
  · have ep : ((A.get h).parent != 0) = false := by simp [hp]
    have HPP := Lib.hid (show A.parP h from fun q => absurd hp q)
    clear hp
    go_enter Try.func95, Try.ntmps95
    go_wp2_with ((with_reducible refine wpList_store_mid ?_ 36 (.tmp 5) (.tmp 13) ?_ w.heap.size 0 ((A.get h).cells (.slice ka (A.get h).kids.length kc) (.slice aa (A.get h).attrs.length ac)).toArray ?_ ?_ ?_ ?_ ?_ ?_); exact rfl; exact rfl; exact rfl; exact rfl; exact HT.out.1; exact sizeNode _ _ _; exact all_oneCell_toArray HT.out.2; generalize hWW : World.setCells _ _ _ _ = W at HBX ⊢; clear hWW c0 c1 c2 c3 c4 c5 c6 c7 c8 c9 c10 c11 c12; have HBB := Lib.hid HBX.out.2; have d0 := HBX.out.1.c0; have d1 := HBX.out.1.c1; have d2 := HBX.out.1.c2; simp only [Nat.zero_add] at d0 d1 d2; have g0 := Below.old HBB.out h0; clear HT HBX)
    go_wp2
    go_loopw [6] (fun i wr => ∃ k : Nat, k ≤ (A.get h).kids.length ∧ i = .int .i64 k ∧ Hid (∀ (j : Nat) (x : Int), j < k → (A.get h).kids[j]? = some x → A.has x ∧ (A.get x).parent = h ∧ findI (fun y => decide (y = x)) (A.get h).kids = j) ∧ Hid (Below w.heap.size w wr) ∧ wr.cell? ⟨w.heap.size, 2, none⟩ = some (.slice ka (A.get h).kids.length kc)) (fun i _ => (A.get h).kids.length - (intOf i).toNat)
    case atStart => exact ⟨0, Nat.zero_le _, rfl, Lib.hid (fun j x hj => by omega), HBB, d2⟩
    case round =>
      obtain ⟨k, hk, rfl, hT, HB2, e2⟩ := hrel
      have i0 := Below.old HB2.out h0
      clear d2 HBB h0
      by_cases hlt : k < (A.get h).kids.length
      · obtain ⟨b1, o1, rfl, -, hcs⟩ := (HKK.out.below HB2.out).cells (by omega)
        obtain ⟨x, hx⟩ : ∃ x, (A.get h).kids[k]? = some x := ⟨_, List.getElem?_eq_getElem hlt⟩
        have t1 := hcs k x hx
        have HX := Lib.hid hx
        have HATN := Lib.hid (fun n => At_any _ (A.get h).kids x (wr.drewN n) (HKK.out.below (Below.drewN HB2.out n)))
        clear hcs hx
        by_cases hq : A.has x
        · obtain ⟨p1, p2, kv', av', F', -, -⟩ := HF.out _ hq
          have f1 := (F'.below HB2.out).c1
          have HH1 := Lib.hid (fun n => (HHAS.out (wr.drewN n) (Below.drewN HB2.out n) x).mono (fun e w' hh => show e = .returned (.bool true) ∧ w' = wr.drewN n from ⟨by rw [hh.1, decide_eq_true hq], hh.2.symm⟩))
          have HQ := Lib.hid hq
          clear hq F'
          by_cases hp : (A.get x).parent = h
          · have ep : ((A.get x).parent != h) = false := by simp [hp]
            have HP2 := Lib.hid hp
            clear hp
            obtain ⟨fi, hfi⟩ : ∃ fi, fi = findI (fun y => decide (y = x)) (A.get h).kids := ⟨_, rfl⟩
            have HAT1 := Lib.hid (fun n => (HATN.out n).mono (fun e w' hh => show e = .returned (.int .i64 fi) ∧ w' = wr.drewN n from ⟨by rw [hh.1, hfi], hh.2.symm⟩))
            have HFI := Lib.hid hfi
            clear hfi
            by_cases hfk : fi = k
            · have ef : (fi != (k : Int)) = false := by simp [hfk]
              have HFK := Lib.hid hfk
              clear hfk HATN
              go_wp2_with fail
              go_quiet (first | (go_at_call 47; exact Calls.quiet_of_same (HH1.out _)) | (go_at_call 53; exact Calls.quiet_of_same (HAT1.out _)))
              go_wp2
              go_roundw
              case rel => exact ⟨k + 1, hlt, by go_num, Lib.hid (fun j x' hj hx' => by
                by_cases hjk : j < k
                · exact hT.out j x' hjk hx'
                · have : j = k := by omega
                  subst this
                  rw [HX.out] at hx'
                  injection hx' with hx'
                  rw [← hx']
                  exact ⟨HQ.out, HP2.out, by rw [← HFI.out, HFK.out]⟩), Lib.hid (Below.drewN HB2.out _), Below.old (Below.drewN (Below.refl _ _) _) e2⟩
              case measure => simp [intOf]; omega
            · have ef : (fi != (k : Int)) = true := by simp [hfk]
              have HFK := Lib.hid hfk
              clear hfk HATN
              go_wp2_with fail
              go_quiet (first | (go_at_call 47; exact Calls.quiet_of_same (HH1.out _)) | (go_at_call 53; exact Calls.quiet_of_same (HAT1.out _)))
              go_wp2
              go_ret
              exact ⟨ret_bool (decide_eq_false (fun q => HFK.out (by rw [HFI.out]; exact (q.2 k x HX.out).2.2))).symm, Below.drewN HB2.out _⟩
          · have ep : ((A.get x).parent != h) = true := by simp [hp]
            have HP2 := Lib.hid hp
            clear hp HATN
            go_wp2_with fail
            go_quiet (first | (go_at_call 47; exact Calls.quiet_of_same (HH1.out _)) | (go_at_call 53; exact Calls.quiet_of_same (HAT1.out _)))
            go_wp2
            go_ret
            exact ⟨ret_bool (decide_eq_false (fun q => HP2.out (q.2 k x HX.out).2.1)).symm, Below.drewN HB2.out _⟩
        · have HH1 := Lib.hid (fun n => (HHAS.out (wr.drewN n) (Below.drewN HB2.out n) x).mono (fun e w' hh => show e = .returned (.bool false) ∧ w' = wr.drewN n from ⟨by rw [hh.1, decide_eq_false hq], hh.2.symm⟩))
          have HQ := Lib.hid hq
          clear hq HATN
          go_wp2_with fail
          go_quiet (first | (go_at_call 47; exact Calls.quiet_of_same (HH1.out _)) | (go_at_call 53; exact Calls.quiet_of_same (HAT1.out _)))
          go_wp2
          go_ret
          exact ⟨ret_bool (decide_eq_false (fun q => HQ.out (q.2 k x HX.out).1)).symm, Below.drewN HB2.out _⟩
      · have HK2 := Lib.hid (show A.kidP h from fun j x hx => hT.out j x (by have := (List.getElem?_eq_some_iff.1 hx).1; omega) hx)
        clear hT
        go_wp2
        go_ret
        exact ⟨ret_bool (decide_eq_true ⟨HPP.out, HK2.out⟩).symm, HB2.out⟩
  · have ep : ((A.get h).parent != 0) = true := by simp [hp]
    have HP := Lib.hid hp
    clear hp
    go_enter Try.func95, Try.ntmps95
    go_wp2_with ((with_reducible refine wpList_store_mid ?_ 36 (.tmp 5) (.tmp 13) ?_ w.heap.size 0 ((A.get h).cells (.slice ka (A.get h).kids.length kc) (.slice aa (A.get h).attrs.length ac)).toArray ?_ ?_ ?_ ?_ ?_ ?_); exact rfl; exact rfl; exact rfl; exact rfl; exact HT.out.1; exact sizeNode _ _ _; exact all_oneCell_toArray HT.out.2; generalize hWW : World.setCells _ _ _ _ = W at HBX ⊢; clear hWW c0 c1 c2 c3 c4 c5 c6 c7 c8 c9 c10 c11 c12; have HBB := Lib.hid HBX.out.2; have d0 := HBX.out.1.c0; have d1 := HBX.out.1.c1; have d2 := HBX.out.1.c2; simp only [Nat.zero_add] at d0 d1 d2; have g0 := Below.old HBB.out h0; clear HT HBX)
    go_upto_region 3 with fail
    go_cut [45] from 17 to 45 (fun v wx => v = .bool (decide (¬ A.parP h)) ∧ Hid (Below W.heap.size W wx))
    case first =>
      by_cases hq : A.has (A.get h).parent
      · obtain ⟨p1, p2, kv', av', F', hK', -⟩ := HF.out _ hq
        have HH1 := Lib.hid (fun n => (HHAS.out (W.drewN n) (Below.drewN HBB.out n) (A.get h).parent).mono (fun e w' hh => show e = .returned (.bool true) ∧ w' = W.drewN n from ⟨by rw [hh.1, decide_eq_true hq], hh.2.symm⟩))
        have HQ := Lib.hid hq
        clear hq
        by_cases hk1 : (A.get h).kind = 1
        · have e1 : ((A.get h).kind == 1) = true := by simp [hk1]
          have HN := Lib.hid (show decide (¬ A.parP h) = true from decide_eq_true (fun q => (q HP.out).2.1 hk1))
          clear hk1
          go_quiet (first | (go_at_call 47; exact Calls.quiet_of_same (HH1.out _)) | (go_at_call 53; exact Calls.quiet_of_same (HAT1.out _)))
          go_wp2_with fail
          go_meet
          exact ⟨by rw [HN.out], Below.drewN (Below.refl _ _) _⟩
        have e1 : ((A.get h).kind == 1) = false := by simp [hk1]
        have HK1 := Lib.hid hk1
        clear hk1
        by_cases hk2 : (A.get h).kind = 2
        · have e2 : ((A.get h).kind == 2) = true := by simp [hk2]
          have HN := Lib.hid (show decide (¬ A.parP h) = true from decide_eq_true (fun q => (q HP.out).2.2.1 hk2))
          clear hk2
          go_quiet (first | (go_at_call 47; exact Calls.quiet_of_same (HH1.out _)) | (go_at_call 53; exact Calls.quiet_of_same (HAT1.out _)))
          go_wp2_with fail
          go_meet
          exact ⟨by rw [HN.out], Below.drewN (Below.refl _ _) _⟩
        have e2 : ((A.get h).kind == 2) = false := by simp [hk2]
        have HK2 := Lib.hid hk2
        clear hk2
        have f2 := (F'.below HBB.out).c2
        have HAT := Lib.hid (fun n => At_any kv' (A.get (A.get h).parent).kids h (W.drewN n) (hK'.below (Below.drewN HBB.out n)))
        by_cases hm : h ∈ (A.get (A.get h).parent).kids
        · have hfi := findI_memI hm
          have HN := Lib.hid (show decide (¬ A.parP h) = false from decide_eq_false (fun q => q (fun _ => ⟨HQ.out, HK1.out, HK2.out, hm⟩)))
          generalize findI (fun y => decide (y = h)) (A.get (A.get h).parent).kids = fi at *
          have hlt : ¬ fi < 0 := by omega
          have HAT1 := Lib.hid (fun n => (HAT.out n).mono (fun e w' hh => show e = .returned (.int .i64 fi) ∧ w' = W.drewN n from ⟨hh.1, hh.2.symm⟩))
          clear hm F' hK' HAT
          go_quiet (first | (go_at_call 47; exact Calls.quiet_of_same (HH1.out _)) | (go_at_call 53; exact Calls.quiet_of_same (HAT1.out _)))
          go_wp2_with fail
          go_meet
          exact ⟨by rw [HN.out], Below.drewN (Below.refl _ _) _⟩
        · have hfi := findI_notmem hm
          have HN := Lib.hid (show decide (¬ A.parP h) = true from decide_eq_true (fun q => hm (q HP.out).2.2.2))
          generalize findI (fun y => decide (y = h)) (A.get (A.get h).parent).kids = fi at *
          have HAT1 := Lib.hid (fun n => (HAT.out n).mono (fun e w' hh => show e = .returned (.int .i64 fi) ∧ w' = W.drewN n from ⟨hh.1, hh.2.symm⟩))
          clear hm F' hK' HAT
          go_quiet (first | (go_at_call 47; exact Calls.quiet_of_same (HH1.out _)) | (go_at_call 53; exact Calls.quiet_of_same (HAT1.out _)))
          go_wp2_with fail
          go_meet
          exact ⟨by rw [HN.out], Below.drewN (Below.refl _ _) _⟩
      · have HH1 := Lib.hid (fun n => (HHAS.out (W.drewN n) (Below.drewN HBB.out n) (A.get h).parent).mono (fun e w' hh => show e = .returned (.bool false) ∧ w' = W.drewN n from ⟨by rw [hh.1, decide_eq_false hq], hh.2.symm⟩))
        have HN := Lib.hid (show decide (¬ A.parP h) = true from decide_eq_true (fun q => hq (q HP.out).1))
        clear hq
        go_quiet (first | (go_at_call 47; exact Calls.quiet_of_same (HH1.out _)) | (go_at_call 53; exact Calls.quiet_of_same (HAT1.out _)))
        go_wp2_with fail
        go_meet
        exact ⟨by rw [HN.out], Below.drewN (Below.refl _ _) _⟩
    case rest =>
      obtain ⟨rfl, hB1⟩ := hcut
      have HBB2 := Lib.hid (HBB.out.trans (hB1.out.mono HBB.out.size))
      have d2' := Below.old hB1.out d2
      clear d0 d1 d2 g0 hB1 HBB
      have d2 := d2'
      have HBB := HBB2
      clear d2' HBB2
      by_cases hpp : A.parP h
      · rw [show decide (¬ A.parP h) = false from decide_eq_false (fun q => q hpp)]
        have HPP := Lib.hid hpp
        clear hpp
        go_wp2
        go_loopw [6] (fun i wr => ∃ k : Nat, k ≤ (A.get h).kids.length ∧ i = .int .i64 k ∧ Hid (∀ (j : Nat) (x : Int), j < k → (A.get h).kids[j]? = some x → A.has x ∧ (A.get x).parent = h ∧ findI (fun y => decide (y = x)) (A.get h).kids = j) ∧ Hid (Below w.heap.size w wr) ∧ wr.cell? ⟨w.heap.size, 2, none⟩ = some (.slice ka (A.get h).kids.length kc)) (fun i _ => (A.get h).kids.length - (intOf i).toNat)
        case atStart => exact ⟨0, Nat.zero_le _, rfl, Lib.hid (fun j x hj => by omega), HBB, d2⟩
        case round =>
          obtain ⟨k, hk, rfl, hT, HB2, e2⟩ := hrel
          have i0 := Below.old HB2.out h0
          clear d2 HBB h0
          by_cases hlt : k < (A.get h).kids.length
          · obtain ⟨b1, o1, rfl, -, hcs⟩ := (HKK.out.below HB2.out).cells (by omega)
            obtain ⟨x, hx⟩ : ∃ x, (A.get h).kids[k]? = some x := ⟨_, List.getElem?_eq_getElem hlt⟩
            have t1 := hcs k x hx
            have HX := Lib.hid hx
            have HATN := Lib.hid (fun n => At_any _ (A.get h).kids x (wr.drewN n) (HKK.out.below (Below.drewN HB2.out n)))
            clear hcs hx
            by_cases hq : A.has x
            · obtain ⟨p1, p2, kv', av', F', -, -⟩ := HF.out _ hq
              have f1 := (F'.below HB2.out).c1
              have HH1 := Lib.hid (fun n => (HHAS.out (wr.drewN n) (Below.drewN HB2.out n) x).mono (fun e w' hh => show e = .returned (.bool true) ∧ w' = wr.drewN n from ⟨by rw [hh.1, decide_eq_true hq], hh.2.symm⟩))
              have HQ := Lib.hid hq
              clear hq F'
              by_cases hp : (A.get x).parent = h
              · have ep : ((A.get x).parent != h) = false := by simp [hp]
                have HP2 := Lib.hid hp
                clear hp
                obtain ⟨fi, hfi⟩ : ∃ fi, fi = findI (fun y => decide (y = x)) (A.get h).kids := ⟨_, rfl⟩
                have HAT1 := Lib.hid (fun n => (HATN.out n).mono (fun e w' hh => show e = .returned (.int .i64 fi) ∧ w' = wr.drewN n from ⟨by rw [hh.1, hfi], hh.2.symm⟩))
                have HFI := Lib.hid hfi
                clear hfi
                by_cases hfk : fi = k
                · have ef : (fi != (k : Int)) = false := by simp [hfk]
                  have HFK := Lib.hid hfk
                  clear hfk HATN
                  go_wp2_with fail
                  go_quiet (first | (go_at_call 47; exact Calls.quiet_of_same (HH1.out _)) | (go_at_call 53; exact Calls.quiet_of_same (HAT1.out _)))
                  go_wp2
                  go_roundw
                  case rel => exact ⟨k + 1, hlt, by go_num, Lib.hid (fun j x' hj hx' => by
                    by_cases hjk : j < k
                    · exact hT.out j x' hjk hx'
                    · have : j = k := by omega
                      subst this
                      rw [HX.out] at hx'
                      injection hx' with hx'
                      rw [← hx']
                      exact ⟨HQ.out, HP2.out, by rw [← HFI.out, HFK.out]⟩), Lib.hid (Below.drewN HB2.out _), Below.old (Below.drewN (Below.refl _ _) _) e2⟩
                  case measure => simp [intOf]; omega
                · have ef : (fi != (k : Int)) = true := by simp [hfk]
                  have HFK := Lib.hid hfk
                  clear hfk HATN
                  go_wp2_with fail
                  go_quiet (first | (go_at_call 47; exact Calls.quiet_of_same (HH1.out _)) | (go_at_call 53; exact Calls.quiet_of_same (HAT1.out _)))
                  go_wp2
                  go_ret
                  exact ⟨ret_bool (decide_eq_false (fun q => HFK.out (by rw [HFI.out]; exact (q.2 k x HX.out).2.2))).symm, Below.drewN HB2.out _⟩
              · have ep : ((A.get x).parent != h) = true := by simp [hp]
                have HP2 := Lib.hid hp
                clear hp HATN
                go_wp2_with fail
                go_quiet (first | (go_at_call 47; exact Calls.quiet_of_same (HH1.out _)) | (go_at_call 53; exact Calls.quiet_of_same (HAT1.out _)))
                go_wp2
                go_ret
                exact ⟨ret_bool (decide_eq_false (fun q => HP2.out (q.2 k x HX.out).2.1)).symm, Below.drewN HB2.out _⟩
            · have HH1 := Lib.hid (fun n => (HHAS.out (wr.drewN n) (Below.drewN HB2.out n) x).mono (fun e w' hh => show e = .returned (.bool false) ∧ w' = wr.drewN n from ⟨by rw [hh.1, decide_eq_false hq], hh.2.symm⟩))
              have HQ := Lib.hid hq
              clear hq HATN
              go_wp2_with fail
              go_quiet (first | (go_at_call 47; exact Calls.quiet_of_same (HH1.out _)) | (go_at_call 53; exact Calls.quiet_of_same (HAT1.out _)))
              go_wp2
              go_ret
              exact ⟨ret_bool (decide_eq_false (fun q => HQ.out (q.2 k x HX.out).1)).symm, Below.drewN HB2.out _⟩
          · have HK2 := Lib.hid (show A.kidP h from fun j x hx => hT.out j x (by have := (List.getElem?_eq_some_iff.1 hx).1; omega) hx)
            clear hT
            go_wp2
            go_ret
            exact ⟨ret_bool (decide_eq_true ⟨HPP.out, HK2.out⟩).symm, HB2.out⟩
      · rw [show decide (¬ A.parP h) = true from decide_eq_true hpp]
        have HPP := Lib.hid hpp
        clear hpp
        go_wp2
        go_ret
        exact ⟨ret_bool (decide_eq_false (fun q => HPP.out q.1)).symm, HBB.out⟩

end Go.Proofs.Ytnfdcfagdidmhaa
