/-
  The law DomOutside: the walk.
-/
import Derived.Test.YtpicinjcmjaogaaGreatK40
import Derived.Test.YtpicinjcmjaogaaGreatK45
namespace Go.Proofs.YtpicinjcmjaogaaGreat
open Go.RowKit Classical
set_option linter.unusedVariables false

theorem insert_err {A : Ar} {p n c : Int} (h : (A.insertCall p n c).1 ≠ 0) : (A.insertCall p n c).2 = A := by
  unfold Ar.insertCall at h ⊢
  by_cases q : A.validate p n c ≠ 0
  · rw [if_pos q]
  · rw [if_neg q] at h; exact absurd rfl h
theorem insert_len {A : Ar} (hI : A.Inv) (p n c : Int) : (A.insertCall p n c).2.ns.length ≤ A.ns.length + 1 := by
  unfold Ar.insertCall
  by_cases q : A.validate p n c ≠ 0
  · rw [if_pos q]; exact Nat.le_succ _
  · rw [if_neg q]
    have hh : A.has p ∧ A.has n ∧ (c ≠ 0 → A.has c) := by
      unfold Ar.validate at q
      by_cases z : A.has p ∧ A.has n ∧ (c ≠ 0 → A.has c)
      · exact z
      · rw [if_neg z] at q; exact absurd (by decide) q
    exact (insertAt_facts hI hh.1 hh.2.1).2
theorem ns_of_get {A : Ar} {k : Nat} {x : Nd} (h : A.ns[k]? = some x) : A.has ((k : Int) + 1) ∧ A.get ((k : Int) + 1) = x := by
  have hlt := (List.getElem?_eq_some_iff.1 h).1
  refine ⟨⟨by omega, by unfold Ar.n; omega⟩, ?_⟩
  unfold Ar.get
  rw [show ((k : Int) + 1).toNat - 1 = k by omega, h]; rfl
theorem get_of_ns {A : Ar} {k : Nat} (h : A.has ((k : Int) + 1)) : A.ns[k]? = some (A.get ((k : Int) + 1)) := by
  have h2 := h.2
  unfold Ar.n at h2
  unfold Ar.get
  rw [show ((k : Int) + 1).toNat - 1 = k by omega, List.getElem?_eq_getElem (by omega)]; rfl

set_option maxRecDepth 100000 in
set_option maxHeartbeats 1000000 in
theorem DomOutside_no (v0 : Value) (l : List OpD) (p n c : Int) (w : World) (hv : ROps w v0 l) (hs : ¬ small5 l 100) :
    Calls Tryz.prog 8 #[v0, .int .i64 p, .int .i64 n, .int .i64 c] w fun e w' => e = .returned (.bool true) ∧ Below w.heap.size w w' := by
  have HS := Lib.hid (Small5_any v0 l 100 w hv)
  have HD := Lib.hid (show decide (small5 l 100) = false from decide_eq_false hs)
  obtain ⟨av, cv, rfl, -⟩ := hv
  go_enter Tryz.func8, Tryz.ntmps8
  go_wp2_with fail
  refine HS.out.mono ?_
  rintro e w1 ⟨rfl, hB1⟩
  rw [HD.out]
  go_wp2_with fail
  refine (known5_any w1).mono ?_
  rintro e w2 ⟨rfl, hB2⟩
  go_wp2
  go_ret
  exact ⟨rfl, hB1.trans (hB2.mono hB1.size)⟩

set_option maxRecDepth 100000 in
set_option maxHeartbeats 4000000 in
theorem DomOutside_err (v0 : Value) (l : List OpD) (p n c : Int) (w : World) (hv : ROps w v0 l) (hs : small5 l 100) (he : ((runL5 l).insertCall p n c).1 ≠ 0) :
    Calls Tryz.prog 8 #[v0, .int .i64 p, .int .i64 n, .int .i64 c] w fun e w' => e = .returned (.bool true) ∧ Below w.heap.size w w' := by
  have HS := Lib.hid (Small5_any v0 l 100 w hv)
  have HD := Lib.hid (show decide (small5 l 100) = true from decide_eq_true hs)
  obtain ⟨i1, -, hlen, -⟩ := run5_take hs (by omega) (Nat.le_refl l.length)
  rw [List.take_length] at i1 hlen
  have HRUN := Lib.hid (fun W (ll : List Asrt) (o : Own w w.heap.size ll W) => Run5_own o v0 l (hv.below o.low) hs (by omega))
  have HSH := Lib.hid (i1.short (show (runL5 l).ns.length ≤ 1000000 by omega))
  obtain ⟨av0, cv0, rfl, -⟩ := hv
  have o0 := Own.start w
  clear hs
  generalize runL5 l = A at *
  have HR := Lib.hid (fun (W : World) (b : Nat) (ll : List Asrt) (o : Own w w.heap.size (.arena b A :: ll) W) => InsertD_own (p := p) (n := n) (c := c) o i1 (by omega))
  rw [insert_err he] at HR
  clear i1
  generalize (A.insertCall p n c).1 = r at *
  have her : (r != 0) = true := by simp [he]
  clear he
  go_enter Tryz.func8, Tryz.ntmps8
  go_wp2_with fail
  refine HS.out.mono ?_
  rintro e w1 ⟨rfl, hB1⟩
  rw [HD.out]
  have o1 := o0.read hB1
  clear hB1 o0 HS HD
  go_wp2_with fail
  refine (HRUN.out _ _ o1).mono ?_
  rintro e w2 ⟨rfl, o2⟩
  generalize w1.heap.size = b at *
  clear o1 HRUN
  go_wp2_with fail
  refine (Nodes_own o2 (b := b) (A := A) (by simp) HSH.out).mono ?_
  rintro e w3 ⟨a3, c3, rfl, o3⟩
  clear o2
  go_wp2_with fail
  refine (Parent_own o3 (b := b) (A := A) (by simp)).mono ?_
  rintro e w4 ⟨rfl, rfl⟩
  generalize A.parentOf n = pf at *
  go_wp2_with fail
  refine (HR.out _ _ _ o3.swap).mono ?_
  rintro e w5 ⟨rfl, o5⟩
  clear o3
  go_wp2_with fail
  refine (Nodes_own o5 (b := b) (A := A) (by simp) HSH.out).mono ?_
  rintro e w6 ⟨a6, c6, rfl, o6⟩
  clear o5
  go_wp2_with fail
  refine (SameNodes_own o6 (x := A.ns) (y := A.ns) (by simp) (by simp)).mono ?_
  rintro e w7 ⟨rfl, o7⟩
  rw [show decide (A.ns = A.ns) = true by simp]
  clear o6
  go_wp2_with fail
  refine (known5_any w7).mono ?_
  rintro e w8 ⟨rfl, hB8⟩
  have HX := Lib.hid (o7.back hB8)
  clear hB8 o7
  go_wp2
  go_ret
  exact ⟨rfl, HX.out⟩

set_option maxRecDepth 100000 in
set_option maxHeartbeats 4000000 in
theorem DomOutside_ok (v0 : Value) (l : List OpD) (p n c : Int) (w : World) (hv : ROps w v0 l) (hs : small5 l 100) (he : ((runL5 l).insertCall p n c).1 = 0) :
    Calls Tryz.prog 8 #[v0, .int .i64 p, .int .i64 n, .int .i64 c] w fun e w' => e = .returned (.bool true) ∧ Below w.heap.size w w' := by
  have HS := Lib.hid (Small5_any v0 l 100 w hv)
  have HD := Lib.hid (show decide (small5 l 100) = true from decide_eq_true hs)
  obtain ⟨i1, -, hlen, -⟩ := run5_take hs (by omega) (Nat.le_refl l.length)
  rw [List.take_length] at i1 hlen
  have HRUN := Lib.hid (fun W (ll : List Asrt) (o : Own w w.heap.size ll W) => Run5_own o v0 l (hv.below o.low) hs (by omega))
  have HSH := Lib.hid (i1.short (show (runL5 l).ns.length ≤ 1000000 by omega))
  obtain ⟨av0, cv0, rfl, -⟩ := hv
  have o0 := Own.start w
  clear hs
  generalize runL5 l = A at *
  have HR := Lib.hid (fun (W : World) (b : Nat) (ll : List Asrt) (o : Own w w.heap.size (.arena b A :: ll) W) => InsertD_own (p := p) (n := n) (c := c) o i1 (by omega))
  obtain ⟨hp, hn, hBI, hle, hget, hfr, hpa⟩ := insert_law i1 he
  have hbl := insert_len i1 p n c
  rw [he] at HR
  have hpf : A.parentOf n = (A.get n).parent := by unfold Ar.parentOf; rw [if_pos hn]
  obtain ⟨pf, hpfe⟩ : ∃ pf, pf = A.parentOf n := ⟨_, rfl⟩
  obtain ⟨nk, hnk⟩ : ∃ nk, nk = (A.get n).kind := ⟨_, rfl⟩
  have HPF := Lib.hid hpfe.symm
  have hnl : 1 ≤ n ∧ n ≤ A.ns.length := hn
  generalize hB : (A.insertCall p n c).2 = B at *
  have HBS := Lib.hid (hBI.short (show B.ns.length ≤ 1000000 by omega))
  have HBI := Lib.hid hBI
  have HSAME : Hid (∀ (k : Nat) x, A.ns[k]? = some x → (k : Int) + 1 ≠ p → (k : Int) + 1 ≠ n → (k : Int) + 1 ≠ pf → B.contains p ((k : Int) + 1) = false → B.ns[k]? = some x) := Lib.hid (fun k x hx q1 q2 q3 q4 => by
    obtain ⟨z1, z2⟩ := ns_of_get hx
    obtain ⟨y1, y2⟩ := hget _ z1
    rw [get_of_ns y1, y2 q1 q2 (by rw [← hpf, ← hpfe]; exact q3) q4, z2])
  have HKN : Hid (nk = 2 → B.kidsOf n = []) := Lib.hid (fun q => by unfold Ar.kidsOf; rw [if_pos (hget n hn).1]; exact hfr (by rw [← hnk]; exact q))
  have HPN : Hid (nk ≠ 2 → B.parentOf n = p) := Lib.hid (fun q => by unfold Ar.parentOf; rw [if_pos (hget n hn).1]; exact hpa (by rw [← hnk]; exact q))
  have HNK : Hid (∀ (k : Nat) x, A.ns[k]? = some x → (k : Int) + 1 = n → x.kind = nk) := Lib.hid (fun k x hx q => by rw [hnk, ← q, (ns_of_get hx).2])
  obtain ⟨fr, hfr0⟩ : ∃ fr : Nat → Bool, ∀ k, fr k = decide (n ≤ k ∧ nk = 2) := ⟨fun k => decide (n ≤ k ∧ nk = 2), fun _ => rfl⟩
  have HF0 : Hid (fr 0 = false) := Lib.hid (by rw [hfr0]; exact decide_eq_false (fun q => by have := q.1; omega))
  have HF1 : Hid (∀ k : Nat, (k : Int) + 1 ≠ n → fr (k + 1) = fr k) := Lib.hid (fun k q => by rw [hfr0, hfr0]; exact decide_eq_decide.2 ⟨fun z => ⟨by have := z.1; omega, z.2⟩, fun z => ⟨by have := z.1; omega, z.2⟩⟩)
  have HF2 : Hid (∀ k : Nat, (k : Int) + 1 = n → fr (k + 1) = (nk == 2)) := Lib.hid (fun k q => by rw [hfr0, Bool.eq_iff_iff]; simp; omega)
  have HF3 : Hid (fr A.ns.length = (nk == 2)) := Lib.hid (by rw [hfr0, Bool.eq_iff_iff]; simp; omega)
  have hml : A.ns.length ≤ B.ns.length := hle
  clear i1 he hBI hle hget hfr hpa hpf hpfe hnk hB hfr0 hp hn
  go_enter Tryz.func8, Tryz.ntmps8
  go_wp2_with fail
  refine HS.out.mono ?_
  rintro e w1 ⟨rfl, hB1⟩
  rw [HD.out]
  have o1 := o0.read hB1
  clear hB1 o0 HS HD
  go_wp2_with fail
  refine (HRUN.out _ _ o1).mono ?_
  rintro e w2 ⟨rfl, o2⟩
  generalize w1.heap.size = b at *
  clear o1 HRUN
  go_wp2_with fail
  refine (Nodes_own o2 (b := b) (A := A) (by simp) HSH.out).mono ?_
  rintro e w3 ⟨a3, c3, rfl, o3⟩
  clear o2
  go_wp2_with fail
  refine (Parent_own o3 (b := b) (A := A) (by simp)).mono ?_
  rintro e w4 ⟨rfl, rfl⟩
  rw [HPF.out]
  go_wp2_with fail
  refine (HR.out _ _ _ o3.swap).mono ?_
  rintro e w5 ⟨rfl, o5⟩
  clear o3 HR
  go_wp2_with fail
  refine (Nodes_own o5 (b := b) (A := B) (by simp) HBS.out).mono ?_
  rintro e w6 ⟨a6, c6, rfl, o6⟩
  have HO := Lib.hid o6
  clear o5 o6
  have hdl : decide (B.ns.length < A.ns.length) = false := decide_eq_false (by omega)
  go_wp2
  go_loopw [13, 14] (fun f i wr => ∃ k : Nat, k ≤ A.ns.length ∧ i = .int .i64 k ∧ f = .bool (fr k) ∧ Hid (Own w w.heap.size [.nlist (.slice a6 B.ns.length c6) B.ns, .arena b B, .nlist (.slice a3 A.ns.length c3) A.ns] wr)) (fun _ i _ => A.ns.length - (intOf i).toNat)
  case atStart => exact ⟨0, Nat.zero_le _, rfl, by rw [HF0.out], HO⟩
  case round =>
    obtain ⟨k, hk, rfl, rfl, hT⟩ := hrel
    clear HO
    by_cases hlt : k < A.ns.length
    · obtain ⟨x, hx⟩ : ∃ x, A.ns[k]? = some x := ⟨_, List.getElem?_eq_getElem hlt⟩
      by_cases hn1 : (k : Int) + 1 = n
      · obtain ⟨b3, q3, rfl, -, hcs1⟩ := (hT.out.nlist (v := .slice a3 A.ns.length c3) (ns := A.ns) (by simp)).at (by omega)
        obtain ⟨kv, av, F, -, -⟩ := hcs1 k x hx
        have c0 := F.c0
        rw [HNK.out k x hx hn1] at c0
        have HFF := Lib.hid (HF2.out k hn1)
        have e1 : (((k : Int) + 1) == n) = true := by simp [hn1]
        clear hcs1 F hx hn1
        by_cases hp1 : (k : Int) + 1 = p
        · have e2 : (((k : Int) + 1) == p) = true := by simp [hp1]
          clear hp1
          go_wp2
          go_roundw
          case rel => exact ⟨k + 1, by omega, by go_num, by rw [HFF.out], hT⟩
          case measure => simp [intOf]; omega
        · have e2 : (((k : Int) + 1) == p) = false := by simp [hp1]
          clear hp1
          by_cases hq1 : (k : Int) + 1 = pf
          · have e3 : (((k : Int) + 1) == pf) = true := by simp [hq1]
            clear hq1
            go_wp2
            go_roundw
            case rel => exact ⟨k + 1, by omega, by go_num, by rw [HFF.out], hT⟩
            case measure => simp [intOf]; omega
          · have e3 : (((k : Int) + 1) == pf) = false := by simp [hq1]
            clear hq1
            go_wp2
            go_roundw
            case rel => exact ⟨k + 1, by omega, by go_num, by rw [HFF.out], hT⟩
            case measure => simp [intOf]; omega
      · have HFF := Lib.hid (HF1.out k hn1)
        have e1 : (((k : Int) + 1) == n) = false := by simp [hn1]
        by_cases hp1 : (k : Int) + 1 = p
        · have e2 : (((k : Int) + 1) == p) = true := by simp [hp1]
          clear hp1 hn1 hx
          go_wp2
          go_roundw
          case rel => exact ⟨k + 1, by omega, by go_num, by rw [HFF.out], hT⟩
          case measure => simp [intOf]; omega
        · have e2 : (((k : Int) + 1) == p) = false := by simp [hp1]
          have e2' : (((k : Int) + 1) != p) = true := by simp [hp1]
          by_cases hq1 : (k : Int) + 1 = pf
          · have e3 : (((k : Int) + 1) == pf) = true := by simp [hq1]
            clear hq1 hp1 hn1 hx
            go_wp2
            go_roundw
            case rel => exact ⟨k + 1, by omega, by go_num, by rw [HFF.out], hT⟩
            case measure => simp [intOf]; omega
          · have e3 : (((k : Int) + 1) == pf) = false := by simp [hq1]
            have HSM := Lib.hid (fun q => HSAME.out k x hx hp1 hn1 hq1 q)
            have HX := Lib.hid hx
            clear hq1 hp1 hn1 hx
            have o4 := hT.out
            clear hT
            go_wp2_with fail
            refine (Contains_own o4 (b := b) (A := B) (by simp) HBI.out).mono ?_
            rintro e w5 ⟨rfl, o5⟩
            clear o4
            have HO5 := Lib.hid o5
            cases hz : B.contains p ((k : Int) + 1) with
            | true =>
              clear hz HSM o5
              go_wp2
              go_roundw
              case rel => exact ⟨k + 1, by omega, by go_num, by rw [HFF.out], HO5⟩
              case measure => simp [intOf]; omega
            | false =>
              have hy := HSM.out hz
              obtain ⟨b3, q3, rfl, -, hcs1⟩ := (o5.nlist (v := .slice a3 A.ns.length c3) (ns := A.ns) (by simp)).at (by omega)
              obtain ⟨b6, q6, rfl, -, hcs2⟩ := (o5.nlist (v := .slice a6 B.ns.length c6) (ns := B.ns) (by simp)).at (by omega)
              obtain ⟨kv, av, F, hK, hA⟩ := hcs1 k x HX.out
              obtain ⟨kv', av', F', hK', hA'⟩ := hcs2 k x hy
              have HSN : Hid (∀ W : World, Below w5.heap.size w5 W → Calls Tryz.prog 53 #[.agg (x.cells kv av).toArray, .agg (x.cells kv' av').toArray] W fun e w' => e = .returned (.bool (decide (x = x))) ∧ Below W.heap.size W w') :=
                Lib.hid (fun W hW => SameNode_any x x kv av kv' av' W (RInts.below hK hW) (RInts.below hK' hW) (RAttrs.below hA hW) (RAttrs.below hA' hW))
              rw [show decide (x = x) = true by simp] at HSN
              have c0 := F.c0; have c1 := F.c1; have c2 := F.c2; have c3' := F.c3; have c4 := F.c4; have c5 := F.c5; have c6' := F.c6; have c7 := F.c7; have c8 := F.c8; have c9 := F.c9; have c10 := F.c10; have c11 := F.c11; have c12 := F.c12
              have d0 := F'.c0; have d1 := F'.c1; have d2 := F'.c2; have d3 := F'.c3; have d4 := F'.c4; have d5 := F'.c5; have d6 := F'.c6; have d7 := F'.c7; have d8 := F'.c8; have d9 := F'.c9; have d10 := F'.c10; have d11 := F'.c11; have d12 := F'.c12
              have hbl1 : k < B.ns.length := by omega
              have hbl2 : (k : Int) < B.ns.length := by omega
              clear hcs1 hcs2 hy F F' hK hA hK' hA' hz HSM HX o5
              unfold Nd.cells at HSN
              go_wp2
              go_region_with (refine (HSN.out _ (Below.drewN (Below.refl _ _) _)).mono ?_; rintro e w6 ⟨rfl, hB6⟩)
              all_goals
                have HO6 := Lib.hid (HO5.out.read ((Below.drewN (Below.refl w5.heap.size w5) _).trans (hB6.mono (by simp))))
                clear hB6 HSN c0 c1 c2 c3' c4 c5 c6' c7 c8 c9 c10 c11 c12 d0 d1 d2 d3 d4 d5 d6 d7 d8 d9 d10 d11 d12 HO5
                go_wp2
                go_roundw
                case rel => exact ⟨k + 1, by omega, by go_num, by rw [HFF.out], HO6⟩
                case measure => simp [intOf]; omega
    · have hke : k = A.ns.length := by omega
      have HFR := Lib.hid (show fr k = (nk == 2) by rw [hke]; exact HF3.out)
      rw [HFR.out]
      have o4 := hT.out
      clear hT hke HFR
      by_cases h2 : nk = 2
      · have e2 : (nk == 2) = true := by simp [h2]
        have HKK := Lib.hid (HKN.out h2)
        clear h2
        go_wp2_with fail
        refine (Kids_ownE o4 (b := b) (A := B) (by simp) HBS.out HKK.out).mono ?_
        rintro e w5 ⟨a5, c5, rfl, o5⟩
        clear o4
        go_wp2_with fail
        refine (known5_any w5).mono ?_
        rintro e w8 ⟨rfl, hB8⟩
        have HX := Lib.hid (o5.back hB8)
        clear hB8 o5
        go_wp2
        go_ret
        exact ⟨rfl, HX.out⟩
      · have e2 : (nk == 2) = false := by simp [h2]
        have HPP := Lib.hid (HPN.out h2)
        clear h2
        go_wp2_with fail
        refine (Parent_own o4 (b := b) (A := B) (by simp)).mono ?_
        rintro e w5 ⟨rfl, rfl⟩
        rw [HPP.out]
        go_wp2_with fail
        refine (known5_any wr).mono ?_
        rintro e w8 ⟨rfl, hB8⟩
        have HX := Lib.hid (o4.back hB8)
        clear hB8 o4
        go_wp2
        go_ret
        exact ⟨rfl, HX.out⟩

/-- **DomOutside: the walk.** -/
theorem DomOutside_any (v0 : Value) (l : List OpD) (p n c : Int) (w : World) (hv : ROps w v0 l) :
    Calls Tryz.prog 8 #[v0, .int .i64 p, .int .i64 n, .int .i64 c] w fun e w' => e = .returned (.bool true) ∧ Below w.heap.size w w' := by
  by_cases hs : small5 l 100
  · by_cases he : ((runL5 l).insertCall p n c).1 = 0
    · exact DomOutside_ok v0 l p n c w hv hs he
    · exact DomOutside_err v0 l p n c w hv hs he
  · exact DomOutside_no v0 l p n c w hv hs

end Go.Proofs.YtpicinjcmjaogaaGreat
