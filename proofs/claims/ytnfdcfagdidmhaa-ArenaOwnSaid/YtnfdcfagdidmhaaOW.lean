/-
  The law ArenaOwn.
-/
import Derived.Test.YtnfdcfagdidmhaaOQ
import Derived.Test.YtnfdcfagdidmhaaRD
import Derived.Deep.CutRange
import Derived.BigRegion
namespace Go.Proofs.Ytnfdcfagdidmhaa
open Go.RowKit
set_option linter.unusedVariables false

theorem node_cells {W : World} {g : Nat} {n : Nd} {kv av : Value} {t : TypeId} (h : W.heap[g]? = some (.cells (n.cells kv av).toArray t (0, 0))) : W.cell? ⟨g, 0, none⟩ = some (.int .i64 n.kind) ∧ W.cell? ⟨g, 1, none⟩ = some (.int .i64 n.parent) ∧ W.cell? ⟨g, 2, none⟩ = some kv ∧ W.cell? ⟨g, 3, none⟩ = some (.int .i64 n.doc) ∧ W.cell? ⟨g, 4, none⟩ = some (.int .i64 n.space) ∧ W.cell? ⟨g, 5, none⟩ = some (.string n.name) ∧ W.cell? ⟨g, 6, none⟩ = some av ∧ W.cell? ⟨g, 7, none⟩ = some (.string n.data) ∧ W.cell? ⟨g, 8, none⟩ = some (.string n.pub) ∧ W.cell? ⟨g, 9, none⟩ = some (.string n.sys) ∧ W.cell? ⟨g, 10, none⟩ = some (.bool n.quirks) ∧ W.cell? ⟨g, 11, none⟩ = some (.int .i64 n.contents) ∧ W.cell? ⟨g, 12, none⟩ = some (.int .i64 n.host) := by
  refine ⟨?_, ?_, ?_, ?_, ?_, ?_, ?_, ?_, ?_, ?_, ?_, ?_, ?_⟩ <;> (rw [cell_of_row W g _ _ _ _ h]; rfl)

set_option maxRecDepth 100000 in
set_option maxHeartbeats 1000000 in
theorem ArenaOwn_no (v0 v1 : Value) (l : List OpD) (al : List AttrD) (h : Int) (w : World) (hv : ROps w v0 l) (hv' : RAttrs w v1 al) (hs : ¬ (smallOps l 100 ∧ smallAttrs al)) :
    Calls Try.prog 6 #[v0, v1, .int .i64 h] w fun e w' => e = .returned (.bool true) ∧ Below w.heap.size w w' := by
  have HS := Lib.hid (Small_any v0 l 100 w hv)
  have HS' := Lib.hid (fun W (hB : Below w.heap.size w W) => SmallAttrs_any v1 al W (RAttrs.below hv' hB))
  by_cases h1 : smallOps l 100
  · have h2 : ¬ smallAttrs al := fun q => hs ⟨h1, q⟩
    have HD := Lib.hid (show decide (smallOps l 100) = true from decide_eq_true h1)
    have HD' := Lib.hid (show decide (smallAttrs al) = false from decide_eq_false h2)
    obtain ⟨av, cv, rfl, -⟩ := hv
    obtain ⟨av', cv', rfl, -⟩ := hv'.form
    clear hs h1 h2 hv'
    go_enter Try.func6, Try.ntmps6
    go_wp2_with fail
    refine HS.out.mono ?_
    rintro e w1 ⟨rfl, hB1⟩
    rw [HD.out]
    go_wp2_with fail
    refine (HS'.out _ hB1).mono ?_
    rintro e w2 ⟨rfl, rfl⟩
    rw [HD'.out]
    go_wp2_with fail
    refine (known_any w1).mono ?_
    rintro e w3 ⟨rfl, hB3⟩
    have HX := Lib.hid (hB1.trans (hB3.mono hB1.size))
    clear hB1 hB3
    go_wp2
    go_ret
    exact ⟨rfl, HX.out⟩
  · have HD := Lib.hid (show decide (smallOps l 100) = false from decide_eq_false h1)
    obtain ⟨av, cv, rfl, -⟩ := hv
    obtain ⟨av', cv', rfl, -⟩ := hv'.form
    clear hs h1 hv'
    go_enter Try.func6, Try.ntmps6
    go_wp2_with fail
    refine HS.out.mono ?_
    rintro e w1 ⟨rfl, hB1⟩
    rw [HD.out]
    go_wp2_with fail
    refine (known_any w1).mono ?_
    rintro e w3 ⟨rfl, hB3⟩
    have HX := Lib.hid (hB1.trans (hB3.mono hB1.size))
    clear hB1 hB3
    go_wp2
    go_ret
    exact ⟨rfl, HX.out⟩

set_option maxRecDepth 100000 in
set_option maxHeartbeats 4000000 in
theorem ArenaOwn_some (v0 v1 : Value) (l : List OpD) (al : List AttrD) (h : Int) (w : World) (hv : ROps w v0 l) (hv' : RAttrs w v1 al) (hs : smallOps l 100) (hs' : smallAttrs al) :
    Calls Try.prog 6 #[v0, v1, .int .i64 h] w fun e w' => e = .returned (.bool true) ∧ Below w.heap.size w w' := by
  obtain ⟨i0, hi, hz0, hz1, hz2⟩ := info_parts infoAttr
  obtain ⟨j0, hjn, hy0, hy1, hy2⟩ := info_parts infoANode
  have HS := Lib.hid (Small_any v0 l 100 w hv)
  have HS' := Lib.hid (fun W (hB : Below w.heap.size w W) => SmallAttrs_any v1 al W (RAttrs.below hv' hB))
  have HD := Lib.hid (show decide (smallOps l 100) = true from decide_eq_true hs)
  have HD' := Lib.hid (show decide (smallAttrs al) = true from decide_eq_true hs')
  obtain ⟨s1, s2⟩ := smallOps_get hs (by omega)
  obtain ⟨i1, i2⟩ := run_len s2
  have hll := hs.1
  have hal := hs'.1
  have HP := Lib.hid (fun W (o : Own w w.heap.size [] W) => Play_own o v0 l (fun W o => hv.below o.low) s1 s2)
  have HSA := Lib.hid (run_small (l := l) (fun x hx => (hs.2 x hx).2.2.2.2))
  have HI := Lib.hid i1
  have hAn : (runL l).ns.length ≤ 300 := by omega
  have HV := Lib.hid hv'
  have HIN := Lib.hid hi
  have HAL := Lib.hid hs'.2
  have hlen : (al.flatMap attrCells).length = al.length * 3 := attr_len al
  have HLEN := Lib.hid hlen
  have o0 := Own.start w
  obtain ⟨av, cv, rfl, -⟩ := hv
  clear hs hs' i1 i2 s1 s2 hi hlen
  generalize runL l = A at *
  have hcase := RCells.addr hv'
  obtain ⟨xa, xc, rfl, hxc1, hxc2, -⟩ := hv'.form
  clear hv'
  go_enter Try.func6, Try.ntmps6
  go_wp2_with fail
  refine HS.out.mono ?_
  rintro e w1 ⟨rfl, hB1⟩
  rw [HD.out]
  have o1 := o0.read hB1
  clear o0 HS HD
  go_wp2_with fail
  refine (HS'.out _ o1.low).mono ?_
  rintro e w2 ⟨rfl, rfl⟩
  rw [HD'.out]
  clear hB1 HS' HD'
  go_wp2_with fail
  refine (HP.out _ o1).mono ?_
  rintro e w3 ⟨b, c, rfl, o3⟩
  have HO3 := Lib.hid o3
  have HCASE := Lib.hid hcase
  clear o1 HP o3 hcase
  go_upto_region 6 with fail
  go_cut [10] from 37 to 38 (fun p wx => ∃ a c', p = .slice a al.length c' ∧ Hid (Own w w.heap.size [.row 55 3 (.slice a al.length c') al.length (al.flatMap attrCells), .arena b A, .refar c A] wx))
  case first =>
    rcases HCASE.out with ⟨cc, e, hz⟩ | ⟨ad, cc, e, hcell⟩
    · simp only [Value.slice.injEq, true_and] at e
      obtain ⟨rfl, rfl⟩ := e
      have hzl : al = [] := List.eq_nil_of_length_eq_zero hz
      subst hzl
      go_wp2
      go_meet
      exact ⟨none, 0, rfl, Own.newRow HO3.out (Below.refl _ _) (World.ownsRow_nil _ _ _ _)⟩
    · simp only [Value.slice.injEq, true_and] at e
      obtain ⟨rfl, rfl⟩ := e
      have HN := Lib.hid (hcell w3 HO3.out.low)
      clear hcell
      go_wp2_with (at_builtin; refine wpList_append_own _ rfl _ _ 34 rfl w3.heap.size 55 i0 _ 3 40 Try.underlying34 HIN.out hz0 hz1 hz2 rfl (by decide) _ _ _ rfl (World.ownsRow_nil _ _ _ _) ad al.length xc (al.flatMap attrCells) rfl HLEN.out HN.out (oneAttrs al) (by unfold maxLen; omega) (by omega) (Nat.le_refl _) ?_)
      intro v' w' hown' hgrow _
      have hB : Below w3.heap.size w3 w' := (Below.refl _ w3).grown hgrow (Nat.le_refl _) (fun k hk => by simp [Value.ownBlock] at hk)
      try rw [Nat.zero_add] at hown'
      try rw [List.nil_append] at hown'
      obtain ⟨va, vc, rfl⟩ := ownsForm hown'
      have HO := Lib.hid (Own.newRow HO3.out hB hown')
      clear hown' hgrow hB
      go_wp2
      go_meet
      exact ⟨va, vc, rfl, HO.out⟩
  case rest =>
    obtain ⟨oa, oc, rfl, hO⟩ := hcut
    obtain ⟨w4, hw4⟩ : ∃ w4, w4 = wc := ⟨_, rfl⟩
    subst hw4
    clear HCASE HO3 HLEN HIN hz0 hz1 hz2
    have o4 := hO.out
    clear hO
    have hR := attrs_reads (v := .slice oa al.length oc) (l := al) (o4.row (by simp))
    have HC1 := Lib.hid (o4.swap.call (fun ρ hA => SetAttrs_any A ρ b h _ al w4 hA hR (by omega)))
    clear o4 hR
    go_wp2_with fail
    refine HC1.out.mono ?_
    rintro e w5 ⟨rfl, o5⟩
    clear HC1
    have HC2 := Lib.hid (o5.rot3.callR (fun ρ hA => RSetAttrs_any A ρ c h _ al w5 hA (RAttrs.below HV.out o5.low) (by omega)))
    clear o5
    go_wp2_with fail
    refine HC2.out.mono ?_
    rintro e w6 ⟨rfl, o6⟩
    clear HC2
    have hi2 : (A.setAttrs h al).2.Inv := Ar.Inv.setAttrs HI.out h al hal
    have hl2 : (A.setAttrs h al).2.ns.length ≤ 300 := by
      unfold Ar.setAttrs
      split
      · exact hAn
      · split
        · exact hAn
        · split
          · exact hAn
          · rw [mod_len]; exact hAn
    have hs2 : (A.setAttrs h al).2.SmallA := by
      unfold Ar.setAttrs
      split
      · exact HSA.out
      · split
        · exact HSA.out
        · split
          · exact HSA.out
          · exact HSA.out.mod _ (fun m hm a ha => HAL.out a (onceL_mem ha))
    generalize (A.setAttrs h al).2 = A2 at *
    have HI2 := Lib.hid hi2
    have HS2 := Lib.hid hs2
    have HSH := Lib.hid (hi2.short (show A2.ns.length ≤ 1000000 by omega))
    clear hi2 hs2 HSA HI hAn
    have hsm := SameAttrs_any (.slice oa al.length oc) (.slice xa al.length xc) al al w6 (attrs_reads (o6.row (v := .slice oa al.length oc) (xs := al.flatMap attrCells) (n := al.length) (size := 3) (e := 55) (by simp))) (RAttrs.below HV.out o6.low)
    have HSM := Lib.hid (hsm.mono (fun e w' hh => show e = .returned (.bool true) ∧ Below w6.heap.size w6 w' from ⟨by rw [hh.1]; simp, hh.2⟩))
    clear hsm
    go_wp2_with fail
    refine HSM.out.mono ?_
    rintro e w7 ⟨rfl, hB7⟩
    have o7 := (((o6.read hB7).rot3).toLa (B := 400) (fun a ha => ⟨(HAL.out a ha).1, (HAL.out a ha).2⟩))
    have HO7 := Lib.hid o7
    clear o6 o7 hB7 HSM
    go_wp2
    go_loopw [11] (fun i wr => ∃ k : Nat, k ≤ al.length ∧ i = .int .i64 k ∧ Hid (Own w w.heap.size [.la (.slice oa al.length oc) al.length (400 + k), .refar c A2, .arena b A2] wr)) (fun i _ => al.length - (intOf i).toNat)
    case atStart => exact ⟨0, Nat.zero_le _, rfl, HO7.out⟩
    case round =>
      obtain ⟨k, hk, rfl, hT⟩ := hrel
      by_cases hlt : k < al.length
      · obtain ⟨S, hS1, hS2⟩ := hT.out.frontP
        obtain ⟨g, cc, cs, a, e, q1, q2, -, -, -, q3, -, q4, q5⟩ := hS2.at hlt
        simp only [Value.slice.injEq, true_and] at e
        obtain ⟨rfl, rfl⟩ := e
        have q6 := q5 (k * 3 + 2)
        obtain ⟨a0, a1, a2⟩ := a
        dsimp only at q3 q4
        clear hS1 hS2 q5
        have HT := Lib.hid hT
        clear hT
        unfold maxLen at q2
        have HO := Lib.hid (HT.out.out.laValue (k := k) (s := a2 ++ ⟨#[120]⟩) (by rw [ByteArray.size_append]; show a2.size + 1 ≤ _; omega))
        clear HT
        go_wp2
        go_roundw
        case rel => exact ⟨k + 1, hlt, by go_num, HO.out⟩
        case measure => simp [intOf]; omega
      · have hO1 := hT.out
        generalize 400 + k = BB at hO1
        have HO := Lib.hid hO1
        clear hT hO1
        go_wp2_with fail
        refine (Node_loose HO.out (b := b) (A := A2) (by simp) HSH.out HI2.out HS2.out).mono ?_
        rintro e w8 ⟨n, ka, kc, aa, ac, er, rfl, hn1, hn2, o8⟩
        have HT := Lib.hid (nodeBox_facts (w := w8) n ka kc aa ac n.kids.length n.attrs.length)
        have o9 := o8.nodeBox n (.slice ka n.kids.length kc) (.slice aa n.attrs.length ac)
        go_wp2_with ((with_reducible refine wpList_store_mid ?_ 36 (.tmp 12) (.tmp 71) ?_ w8.heap.size 0 (n.cells (.slice ka n.kids.length kc) (.slice aa n.attrs.length ac)).toArray ?_ ?_ ?_ ?_ ?_ ?_); exact rfl; exact rfl; exact rfl; exact rfl; exact HT.out.1; exact sizeNode _ _ _; exact all_oneCell_toArray HT.out.2)
        clear o8 HT
        generalize hw9 : World.setCells _ _ _ _ = w9 at o9 ⊢
        generalize hg9 : w8.heap.size = g9 at o9 ⊢
        clear hw9 hg9
        refine (Nodes_loose o9 (b := b) (A := A2) (by simp) HSH.out HI2.out HS2.out).mono ?_
        rintro e w10 ⟨na, nc, rfl, o10⟩
        have hbx := o10.box (g := g9) (o := .cells (n.cells (.slice ka n.kids.length kc) (.slice aa n.attrs.length ac)).toArray 36 (0, 0)) (by simp)
        obtain ⟨f0, f1, f2, f3, f4, f5, f6, f7, f8, f9, f10, f11, f12⟩ := node_cells hbx
        have om := (o10.swap.drop).mix
        obtain ⟨S, hP, hF⟩ := om.front
        have hPa := (Asrt.mix (.slice na A2.ns.length nc) A2.ns.length (.slice ka n.kids.length kc) (.slice aa n.attrs.length ac) n 400).upd hP (Upd.below (F := fun _ => False) (below_alloc w10 (.cells (n.cells (.slice ka n.kids.length kc) (.slice aa n.attrs.length ac)).toArray 36))) (fun _ _ h => h)
        obtain ⟨rows, r2, r3, r4, r5⟩ := hPa.2.1
        have HAP := Lib.hid (fun w2 v' (q1 : World.ownsRow w2 0 36 13 v' (A2.ns.length + 1) (rows.flatten ++ n.cells (.slice ka n.kids.length kc) (.slice aa n.attrs.length ac))) hg hat => Own.appended (w2 := w2) (v' := v') hn1 hn2 hF hPa q1 r2 r3 r4 r5 hg hat)
        have HROW := Lib.hid r2
        have HONE := Lib.hid (cellsOneCell n (.slice ka n.kids.length kc) (.slice aa n.attrs.length ac) rfl rfl)
        have HJN := Lib.hid hjn
        clear o9 o10 om hP hF hPa r2 r3 r4 r5 hbx hjn
        unfold Nd.cells
        go_wp2_with (at_builtin; refine wpList_append_own_at _ rfl _ _ 46 rfl 0 36 j0 _ 13 168 Try.underlying46 HJN.out hy0 hy1 hy2 rfl (by decide) _ A2.ns.length rows.flatten rfl HROW.out ⟨w10.heap.size, 0, none⟩ 1 1 (n.cells (.slice ka n.kids.length kc) (.slice aa n.attrs.length ac)) rfl rfl ?c1 ?c2 ?c3 ?c4 ?c5 ?_)
        case c1 => intro j u hj; rw [Addr.add_mid, Nat.zero_add]; exact cell_new' rfl (by simpa [Nd.cells] using hj)
        case c2 => exact HONE.out
        case c3 => unfold maxLen; omega
        case c4 => omega
        case c5 => simp
        intro v' w11 hown' hgrow _ hat
        have HO := Lib.hid (HAP.out w11 v' hown' hgrow (hat.imp id (fun h => by rw [h]; simp)))
        rcases owns_cases hown' with ⟨-, hz, -⟩ | ⟨gg, vc, rfl, -⟩
        · omega
        clear HAP hown' hgrow hat f0 f1 f2 f3 f4 f5 f6 f7 f8 f9 f10 f11 f12
        go_wp2_with fail
        refine (Kids_own HO.out (b := b) (A := A2) (h := h) (by simp) HSH.out).mono ?_
        rintro e w12 ⟨ka2, kc2, rfl, o12⟩
        have HO2 := Lib.hid o12.toLk
        clear o12 HO
        generalize (A2.kidsOf h).length = L at *
        obtain ⟨m1, hm1⟩ : ∃ m1, A2.ns.length + 1 = m1 := ⟨_, rfl⟩
        rw [hm1] at HO2 ⊢
        have hcap : L ≤ kc2 ∧ kc2 ≤ 9223372036854775807 := by
          obtain ⟨S, hS1, hS2⟩ := HO2.out.frontP
          obtain ⟨a', c', e, q1, q2⟩ := hS2.form
          simp only [Value.slice.injEq, true_and] at e
          unfold maxLen at q2
          rw [e.2]; exact ⟨q1, q2⟩
        obtain ⟨hcap1, hcap2⟩ := hcap
        have hcapv : m1 ≤ vc ∧ vc ≤ 9223372036854775807 := by
          obtain ⟨S, hS1, hS2⟩ := HO2.out.swap.frontP
          obtain ⟨a', c', e, q1, q2⟩ := hS2.form
          simp only [Value.slice.injEq, true_and] at e
          unfold maxLen at q2
          rw [e.2]; exact ⟨q1, q2⟩
        obtain ⟨hcapv1, hcapv2⟩ := hcapv
        go_wp2
        go_loopw [16] (fun i wr => ∃ k : Nat, k ≤ L ∧ i = .int .i64 k ∧ Hid (Own w w.heap.size [.lk (.slice ka2 L kc2) L, .loose (.slice (some ⟨gg, 0, none⟩) m1 vc) m1 400, .la (.slice oa al.length oc) al.length BB, .refar c A2, .arena b A2] wr)) (fun i _ => L - (intOf i).toNat)
        case atStart => exact ⟨0, Nat.zero_le _, rfl, HO2.out⟩
        case round =>
          obtain ⟨k, hk, rfl, hT⟩ := hrel
          by_cases hlt : k < L
          · obtain ⟨S, hS1, hS2⟩ := hT.out.frontP
            obtain ⟨g, cc, cs, e, q1, q2, -, -, ⟨u, q3⟩, q5⟩ := hS2.at hlt
            simp only [Value.slice.injEq, true_and] at e
            obtain ⟨rfl, rfl⟩ := e
            have q6 := q5 k
            clear hS1 hS2 q5
            have HT := Lib.hid (hT.out.lkSet (k := k) (u := .int .i64 (-1)))
            clear hT
            unfold maxLen at q2
            go_wp2
            go_roundw
            case rel => exact ⟨k + 1, hlt, by go_num, HT.out⟩
            case measure => simp [intOf]; omega
          · have HO3 := Lib.hid hT.out.swap
            clear hT
            go_wp2
            go_loopw [17] (fun i wr => ∃ j : Nat, j ≤ m1 ∧ i = .int .i64 j ∧ Hid (Own w w.heap.size [.loose (.slice (some ⟨gg, 0, none⟩) m1 vc) m1 (400 + 20 * j), .lk (.slice ka2 L kc2) L, .la (.slice oa al.length oc) al.length BB, .refar c A2, .arena b A2] wr)) (fun i _ => m1 - (intOf i).toNat)
            case atStart => exact ⟨0, Nat.zero_le _, rfl, HO3.out⟩
            case round =>
              obtain ⟨j, hj, rfl, hT⟩ := hrel
              by_cases hltj : j < m1
              · obtain ⟨S, hS1, hS2⟩ := hT.out.frontP
                obtain ⟨g', c'', n2, kv, av2, e, F, hLk, hLa, hk1, ha1⟩ := hS2.at hltj
                simp only [Value.slice.injEq, Option.some.injEq, Addr.mk.injEq, and_true, true_and] at e
                obtain ⟨rfl, rfl⟩ := e
                obtain ⟨kb, kd, rfl, hkd1, hkd2⟩ := hLk.form
                obtain ⟨ab, ad2, rfl, had1, had2⟩ := hLa.form
                unfold maxLen at hkd2 had2
                have f2 := F.c2
                have f6 := F.c6
                have HT := Lib.hid hT.out
                have HF := Lib.hid (And.intro f2 f6)
                generalize n2.kids.length = nk at *
                generalize n2.attrs.length = na2 at *
                clear hS1 hS2 F hLk hLa hT f2 f6
                go_wp2
                go_loopw [18] (fun i wr => ∃ i' : Nat, i' ≤ na2 ∧ i = .int .i64 i' ∧ Hid (Own w w.heap.size [.loose (.slice (some ⟨gg, 0, none⟩) m1 vc) m1 (400 + 20 * j + i'), .lk (.slice ka2 L kc2) L, .la (.slice oa al.length oc) al.length BB, .refar c A2, .arena b A2] wr ∧ wr.cell? ⟨gg, j * 13 + 2, none⟩ = some (.slice kb nk kd) ∧ wr.cell? ⟨gg, j * 13 + 6, none⟩ = some (.slice ab na2 ad2))) (fun i _ => na2 - (intOf i).toNat)
                case atStart => exact ⟨0, Nat.zero_le _, rfl, HT.out, HF.out.1, HF.out.2⟩
                case round =>
                  obtain ⟨i', hi', rfl, hU⟩ := hrel
                  have u2 := hU.out.2.1
                  have u6 := hU.out.2.2
                  by_cases hlti : i' < na2
                  · obtain ⟨S, hS1, hS2⟩ := hU.out.1.frontP
                    obtain ⟨hLa4, hna⟩ := hS2.attrsAt hltj u6
                    obtain ⟨g5, cc5, cs5, at5, e5, r1, r2, -, hbl5, r3, -, r4, -, r5⟩ := hLa4.at hlti
                    simp only [Value.slice.injEq, true_and] at e5
                    obtain ⟨rfl, rfl⟩ := e5
                    obtain ⟨cur, hcur⟩ := hS2.blk
                    obtain ⟨t0, t1, t2⟩ := at5
                    dsimp only at r3 r4
                    have hnew := hU.out.1.looseName (i := i') (s := t1 ++ ⟨#[120]⟩) hltj u6 hlti (by rw [ByteArray.size_append]; show t1.size + 1 ≤ _; omega)
                    have HST := Lib.hid (hnew.read (Below.drew (Below.refl _ _)))
                    have HC2 := Lib.hid (Below.old (Below.drew (Below.refl _ _)) (cell_apart (u := .string (t1 ++ ⟨#[120]⟩)) (j := i' * 3 + 1) hcur hbl5 (by decide) u2))
                    have HC6 := Lib.hid (Below.old (Below.drew (Below.refl _ _)) (cell_apart (u := .string (t1 ++ ⟨#[120]⟩)) (j := i' * 3 + 1) hcur hbl5 (by decide) u6))
                    have df0 := r5 (i' * 3 + 1)
                    clear hS1 hS2 hLa4 hbl5 hcur r5 hU hnew
                    go_wp2_with fail
                    go_region
                    all_goals
                      clear u2 u6 r3 df0
                      go_wp2
                      go_roundw
                      case rel => exact ⟨i' + 1, hlti, by go_num, HST.out, HC2.out, HC6.out⟩
                      case measure => simp [intOf]; omega
                  · have hna : na2 ≤ 20 := by
                      obtain ⟨S, hS1, hS2⟩ := hU.out.1.frontP
                      exact (hS2.attrsAt hltj u6).2
                    have HO5 := Lib.hid (hU.out.1.looseMore (C := 400 + 20 * (j + 1)) (by omega))
                    clear hU
                    go_wp2
                    go_loopw [19] (fun i wr => ∃ i2 : Nat, i2 ≤ nk ∧ i = .int .i64 i2 ∧ Hid (Own w w.heap.size [.loose (.slice (some ⟨gg, 0, none⟩) m1 vc) m1 (400 + 20 * (j + 1)), .lk (.slice ka2 L kc2) L, .la (.slice oa al.length oc) al.length BB, .refar c A2, .arena b A2] wr ∧ wr.cell? ⟨gg, j * 13 + 2, none⟩ = some (.slice kb nk kd))) (fun i _ => nk - (intOf i).toNat)
                    case atStart => exact ⟨0, Nat.zero_le _, rfl, HO5.out, u2⟩
                    case round =>
                      clear u2 u6
                      obtain ⟨i2, hi2, rfl, hU⟩ := hrel
                      have u2 := hU.out.2
                      by_cases hlt5 : i2 < nk
                      · obtain ⟨S, hS1, hS2⟩ := hU.out.1.frontP
                        have hLk4 := hS2.kidsAt hltj u2
                        obtain ⟨g5, cc5, cs5, e5, r1, r2, -, hbl5, ⟨uu, r3⟩, r5⟩ := hLk4.at hlt5
                        simp only [Value.slice.injEq, true_and] at e5
                        obtain ⟨rfl, rfl⟩ := e5
                        obtain ⟨cur, hcur⟩ := hS2.blk
                        have HST := Lib.hid (hU.out.1.looseKid (i := i2) (u := .int .i64 (-1)) hltj u2 hlt5)
                        have HC2 := Lib.hid (cell_apart (u := .int .i64 (-1)) (j := i2) hcur hbl5 (by decide) u2)
                        have df0 := r5 i2
                        clear hS1 hS2 hLk4 hbl5 hcur r5 hU
                        go_wp2
                        go_roundw
                        case rel => exact ⟨i2 + 1, hlt5, by go_num, HST.out, HC2.out⟩
                        case measure => simp [intOf]; omega
                      · have HO6 := Lib.hid hU.out.1
                        clear hU
                        go_wp2
                        go_roundw
                        case rel => exact ⟨j + 1, hltj, by go_num, HO6.out⟩
                        case measure => simp [intOf]; omega
              · have hfin := hT.out
                have HO4 := Lib.hid hfin
                clear hT hfin
                go_wp2_with fail
                refine (Matches_own HO4.out (b := b) (c := c) (A := A2) (by simp) (by simp) HSH.out).mono ?_
                rintro e w13 ⟨rfl, o13⟩
                go_wp2_with fail
                refine (known_any w13).mono ?_
                rintro e w14 ⟨rfl, hB14⟩
                have HB := Lib.hid (o13.back hB14)
                clear o13 hB14
                go_wp2
                go_ret
                exact ⟨rfl, HB.out⟩

/-- **ArenaOwn: the walk.** -/
theorem ArenaOwn_any (v0 : Value) (l : List OpD) (v1 : Value) (al : List AttrD) (h : Int) (w : World) (hv : ROps w v0 l) (hv' : RAttrs w v1 al) :
    Calls Try.prog 6 #[v0, v1, .int .i64 h] w fun e w' => e = .returned (.bool true) ∧ Below w.heap.size w w' := by
  by_cases hs : smallOps l 100 ∧ smallAttrs al
  · exact ArenaOwn_some v0 v1 l al h w hv hv' hs.1 hs.2
  · exact ArenaOwn_no v0 v1 l al h w hv hv' hs

end Go.Proofs.Ytnfdcfagdidmhaa
