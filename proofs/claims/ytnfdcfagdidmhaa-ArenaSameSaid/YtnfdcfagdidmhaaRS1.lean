/-
  The document's Same.
-/
import Derived.Test.YtnfdcfagdidmhaaAS0
import Derived.Test.YtnfdcfagdidmhaaPL3
import Derived.BigRegion
import Derived.Deep.CutRange
import Derived.StillTailTactics
namespace Go.Proofs.Ytnfdcfagdidmhaa
open Go.RowKit Classical
set_option linter.unusedVariables false

theorem boxes2 (w : World) (x y : Nd) (kv av kv' av' : Value) (t : TypeId) : NodeF (((w.alloc (.cells (x.cells kv av).toArray t)).alloc (.cells (y.cells kv' av').toArray t)).drew) w.heap.size 0 x kv av ∧
    NodeF (((w.alloc (.cells (x.cells kv av).toArray t)).alloc (.cells (y.cells kv' av').toArray t)).drew) (w.heap.size + 1) 0 y kv' av' ∧ Below w.heap.size w (((w.alloc (.cells (x.cells kv av).toArray t)).alloc (.cells (y.cells kv' av').toArray t)).drew) := by
  refine ⟨((boxF w x kv av t).below (below_alloc _ _)).below (Below.drew (Below.refl _ _)), ?_, Below.drew (((Below.refl _ w).alloc (Nat.le_refl _) _).alloc (by simp) _)⟩
  have := (boxF (w.alloc (.cells (x.cells kv av).toArray t)) y kv' av' t).below (Below.drew (Below.refl _ _))
  simpa using this
theorem boxes2s (w : World) (x y : Nd) (kv av kv' av' : Value) (t : TypeId) : NodeF (((w.alloc (.cells (x.cells kv av).toArray t)).alloc (.cells (y.cells kv' av').toArray t)).drew) (w.heap.size + 1) 0 y kv' av' ∧
    NodeF (((w.alloc (.cells (x.cells kv av).toArray t)).alloc (.cells (y.cells kv' av').toArray t)).drew) w.heap.size 0 x kv av ∧ Below w.heap.size w (((w.alloc (.cells (x.cells kv av).toArray t)).alloc (.cells (y.cells kv' av').toArray t)).drew) :=
  ⟨(boxes2 w x y kv av kv' av' t).2.1, (boxes2 w x y kv av kv' av' t).1, (boxes2 w x y kv av kv' av' t).2.2⟩

set_option maxRecDepth 100000 in
set_option maxHeartbeats 10000000 in
theorem RSame_has (A B : Ar) (ρ σ : Nat → Nat) (b c : Nat) (hI : A.Inv) (hJ : B.Inv) : ∀ h, A.has h → ∀ k w, RMem w ρ b A → RMem w σ c B →
    Calls Try.prog 56 #[.pointer (some ⟨b, 0, none⟩), .int .i64 h, .pointer (some ⟨c, 0, none⟩), .int .i64 k] w fun e w' => e = .returned (.bool (decide (AlkP A B h k))) ∧ Below w.heap.size w w' := by
  refine walk_ind hI (fun h hh ihc ihk k w hA hB => ?_)
  obtain ⟨nb, c1, h0, hm, hc, hfn, hnb, HH0, hN⟩ := hA.look
  obtain ⟨nb', c2, h0', hm', hc', hfn', hnb', HH0', hN'⟩ := hB.look
  have hd : decide (A.has h) = true := by simp [hh]
  by_cases hk : B.has k
  · obtain ⟨hp, hq, kv, av, F, hK, hAt⟩ := hN h hh
    obtain ⟨hp', hq', kv', av', F', hK', hAt'⟩ := hN' k hk
    have hd' : decide (B.has k) = true := by simp [hk]
    have HR1 := Lib.hid (show RInts w kv (A.get h).kids from hK.reads)
    have HR2 := Lib.hid (show RInts w kv' (B.get k).kids from hK'.reads)
    have HT1 := Lib.hid (show RAttrs w av (A.get h).attrs from hAt.reads)
    have HT2 := Lib.hid (show RAttrs w av' (B.get k).attrs from hAt'.reads)
    obtain ⟨ka, kc, rfl, kl1, kl2, -⟩ := HR1.out.form
    obtain ⟨ka', kc', rfl, kl3, kl4, -⟩ := HR2.out.form
    obtain ⟨aa, ac, rfl, -⟩ := HT1.out.form
    obtain ⟨aa', ac', rfl, -⟩ := HT2.out.form
    have k0 := F.c0; have k1 := F.c1; have k2 := F.c2; have k3 := F.c3; have k4 := F.c4; have k5 := F.c5; have k6 := F.c6; have k7 := F.c7; have k8 := F.c8; have k9 := F.c9; have k10 := F.c10; have k11 := F.c11; have k12 := F.c12
    have m0 := F'.c0; have m1 := F'.c1; have m2 := F'.c2; have m3 := F'.c3; have m4 := F'.c4; have m5 := F'.c5; have m6 := F'.c6; have m7 := F'.c7; have m8 := F'.c8; have m9 := F'.c9; have m10 := F'.c10; have m11 := F'.c11; have m12 := F'.c12
    have lb := World.block_lt_of_cell? w _ h0; have lb' := World.block_lt_of_cell? w _ h0'; have ln := World.block_lt_of_cell? w _ k0; have ln' := World.block_lt_of_cell? w _ m0
    dsimp only at lb lb' ln ln'
    have HH1 := Lib.hid (HH0 h w h0)
    have HH2 := Lib.hid (HH0' k w h0')
    have HIC := Lib.hid (fun hc W (hW : Below w.heap.size w W) => ihc hc (B.get k).contents W (hA.below hW) (hB.below hW))
    have HIK := Lib.hid (fun u hu v W (hW : Below w.heap.size w W) => ihk u hu v W (hA.below hW) (hB.below hW))
    have HG := Lib.hid (fun (q : AlkP A B h k) => q.inv.2.2)
    have HMK := Lib.hid (fun h1 h2 h3 h4 h5 => AlkP.mk (A := A) (B := B) (h := h) (k := k) hh hk h1 h2 h3 h4 h5)
    clear hA hB hN hN' F F' hK hK' hAt hAt' HH0 HH0' hfn hfn' ihc ihk hh hk
    generalize A.get h = x at *
    generalize B.get k = y at *
    go_enter Try.func56, Try.ntmps56
    go_wp2_with fail
    refine HH1.out.mono ?_
    rintro e w' ⟨rfl, rfl⟩
    rw [hd]
    go_wp2_with fail
    refine HH2.out.mono ?_
    rintro e w' ⟨rfl, rfl⟩
    rw [hd']
    go_wp2_with fail
    go_upto_region 3 with fail
    go_cut [9, 10] from 22 to 35 (fun p q wx => ∃ xb yb : Nat, p = .pointer (some ⟨xb, 0, none⟩) ∧ q = .pointer (some ⟨yb, 0, none⟩) ∧ Hid (NodeF wx xb 0 x (.slice ka x.kids.length kc) (.slice aa x.attrs.length ac) ∧ NodeF wx yb 0 y (.slice ka' y.kids.length kc') (.slice aa' y.attrs.length ac') ∧ Below w.heap.size w wx))
    case first =>
      go_region
      all_goals
        clear k0 k1 k2 k3 k4 k5 k6 k7 k8 k9 k10 k11 k12 m0 m1 m2 m3 m4 m5 m6 m7 m8 m9 m10 m11 m12
        go_wp2_with fail
        go_meet
        first
          | exact ⟨_, _, rfl, rfl, boxes2 w x y (.slice ka x.kids.length kc) (.slice aa x.attrs.length ac) (.slice ka' y.kids.length kc') (.slice aa' y.attrs.length ac') 36⟩
          | exact ⟨_, _, rfl, rfl, boxes2s w y x (.slice ka' y.kids.length kc') (.slice aa' y.attrs.length ac') (.slice ka x.kids.length kc) (.slice aa x.attrs.length ac) 36⟩
    case rest =>
      obtain ⟨xb, yb, rfl, rfl, hc3⟩ := hcut
      obtain ⟨hX, hY, hB1⟩ := hc3.out
      clear k0 k1 k2 k3 k4 k5 k6 k7 k8 k9 k10 k11 k12 m0 m1 m2 m3 m4 m5 m6 m7 m8 m9 m10 m11 m12 hc3
      obtain ⟨W1, hW1⟩ : ∃ W1, W1 = wc := ⟨_, rfl⟩
      subst hW1
      have HB1 := Lib.hid hB1
      have HAL := Lib.hid (Alike_any x y (.slice ka x.kids.length kc) (.slice aa x.attrs.length ac) (.slice ka' y.kids.length kc') (.slice aa' y.attrs.length ac') W1 (RAttrs.below HT1.out hB1) (RAttrs.below HT2.out hB1))
      unfold Nd.cells at HAL
      have x0 := hX.c0; have x1 := hX.c1; have x2 := hX.c2; have x3 := hX.c3; have x4 := hX.c4; have x5 := hX.c5; have x6 := hX.c6; have x7 := hX.c7; have x8 := hX.c8; have x9 := hX.c9; have x10 := hX.c10; have x11 := hX.c11; have x12 := hX.c12
      have y0 := hY.c0; have y1 := hY.c1; have y2 := hY.c2; have y3 := hY.c3; have y4 := hY.c4; have y5 := hY.c5; have y6 := hY.c6; have y7 := hY.c7; have y8 := hY.c8; have y9 := hY.c9; have y10 := hY.c10; have y11 := hY.c11; have y12 := hY.c12
      have X2 := x2; have X11 := x11; have Y2 := y2; have Y11 := y11
      simp only [Nat.zero_add] at x0 x1 x2 x3 x4 x5 x6 x7 x8 x9 x10 x11 x12 y0 y1 y2 y3 y4 y5 y6 y7 y8 y9 y10 y11 y12 X2 X11 Y2 Y11
      have HX2 := Lib.hid (And.intro X2 (And.intro X11 (And.intro Y2 Y11)))
      clear hX hY hB1 X2 X11 Y2 Y11
      go_wp2_with fail
      refine HAL.out.mono ?_
      rintro e W2 ⟨rfl, hB2⟩
      have HW := Lib.hid hB2
      clear hB2 x0 x1 x2 x3 x4 x5 x6 x7 x8 x9 x10 x11 x12 y0 y1 y2 y3 y4 y5 y6 y7 y8 y9 y10 y11 y12
      obtain ⟨X2, X11, Y2, Y11⟩ := HX2.out
      have g2 := Below.old HW.out X2; have g11 := Below.old HW.out X11; have i2 := Below.old HW.out Y2; have i11 := Below.old HW.out Y11
      by_cases q1 : alikeP x y
      · rw [show decide (alikeP x y) = true from decide_eq_true q1]
        have HQ1 := Lib.hid q1
        clear q1
        by_cases q2 : x.kids.length = y.kids.length
        · have u2 : ((x.kids.length : Int) != (y.kids.length : Int)) = false := by simp [q2]
          have HQ2 := Lib.hid q2
          clear q2
          by_cases q3 : x.contents = 0 ↔ y.contents = 0
          · have u3 : ((x.contents == 0) != (y.contents == 0)) = false := by
              by_cases z : x.contents = 0
              · simp [z, q3.1 z]
              · rw [beq_eq_false_iff_ne.2 z, beq_eq_false_iff_ne.2 (fun y => z (q3.2 y))]; rfl
            have u3' : (!((x.contents == 0) == (y.contents == 0))) = false := u3
            have HQ3 := Lib.hid q3
            clear q3
            by_cases z1 : x.contents = 0
            · have v1 : (x.contents != 0) = false := by simp [z1]
              have HCON : Hid (x.contents ≠ 0 → AlkP A B x.contents y.contents) := Lib.hid (fun hc => absurd z1 hc)
              clear z1
              go_wp2
              go_loopw [11] (fun i wr => ∃ k' : Nat, k' ≤ x.kids.length ∧ i = .int .i64 k' ∧ Hid (∀ (j : Nat) (u v : Int), j < k' → x.kids[j]? = some u → y.kids[j]? = some v → AlkP A B u v) ∧ Hid (Below W1.heap.size W1 wr)) (fun i _ => x.kids.length - (intOf i).toNat)
              case atStart => exact ⟨0, Nat.zero_le _, rfl, fun j u v hj => by omega, HW.out⟩
              case round =>
                obtain ⟨k', hk', rfl, hT, hW⟩ := hrel
                have r2 := Below.old hW.out X2
                have s2 := Below.old hW.out Y2
                by_cases hlt : k' < x.kids.length
                · have hlt2 : k' < y.kids.length := by have := HQ2.out; omega
                  obtain ⟨kb1, ko1, rfl, -, hcs1⟩ := (RInts.below (RInts.below HR1.out HB1.out) hW.out).cells (by omega)
                  obtain ⟨kb2, ko2, rfl, -, hcs2⟩ := (RInts.below (RInts.below HR2.out HB1.out) hW.out).cells (by omega)
                  obtain ⟨u, hu⟩ : ∃ u, x.kids[k']? = some u := ⟨_, List.getElem?_eq_getElem hlt⟩
                  obtain ⟨v, hv⟩ : ∃ v, y.kids[k']? = some v := ⟨_, List.getElem?_eq_getElem hlt2⟩
                  have t1 := hcs1 k' u hu
                  have t2 := hcs2 k' v hv
                  have HX := Lib.hid (And.intro hu hv)
                  have HS := Lib.hid (HIK.out u (List.mem_of_getElem? hu) v wr.drew (Below.drew (HB1.out.trans (hW.out.mono HB1.out.size))))
                  have HWD : Hid (Below W1.heap.size W1 wr.drew) := Lib.hid (Below.drew hW.out)
                  clear hcs1 hcs2 hu hv X2 Y2
                  go_wp2_with fail
                  go_still_tail 12, (by kernel_rfl)
                  change wpList _ _ _ _ _ wr.drew
                  clear r2 s2 t1 t2
                  generalize wr.drew = wd at *
                  go_wp2_with fail
                  refine HS.out.mono ?_
                  rintro e w2 ⟨rfl, hB2⟩
                  have HB2 : Hid (Below W1.heap.size W1 w2) := Lib.hid (HWD.out.trans (hB2.mono HWD.out.size))
                  clear hB2 HS
                  all_goals
                    by_cases q5 : AlkP A B u v
                    · have hd5 : decide (AlkP A B u v) = true := decide_eq_true q5
                      rw [hd5]
                      have HQ5 := Lib.hid q5
                      clear q5 hd5
                      go_wp2
                      go_roundw
                      case rel => exact ⟨k' + 1, hlt, by go_num, fun j u' v' hj hu' hv' => by
                        by_cases hjk : j < k'
                        · exact hT.out j u' v' hjk hu' hv'
                        · have : j = k' := by omega
                          subst this
                          rw [HX.out.1] at hu'; rw [HX.out.2] at hv'
                          injection hu' with hu'; injection hv' with hv'
                          rw [← hu', ← hv']; exact HQ5.out, HB2.out⟩
                      case measure => simp [intOf]; omega
                    · have hd5 : decide (AlkP A B u v) = false := decide_eq_false q5
                      rw [hd5]
                      have HQ5 := Lib.hid q5
                      clear q5 hd5
                      go_wp2
                      go_ret
                      exact ⟨ret_bool (decide_eq_false (fun h => HQ5.out ((HG.out h).2.2.2.2 k' u v HX.out.1 HX.out.2))).symm, HB1.out.trans (HB2.out.mono HB1.out.size)⟩
                · have HT := Lib.hid (fun (j : Nat) (u v : Int) (hx : x.kids[j]? = some u) (hy : y.kids[j]? = some v) => hT.out j u v (by have := (List.getElem?_eq_some_iff.1 hx).1; omega) hx hy)
                  clear hT
                  go_wp2
                  go_ret
                  exact ⟨ret_bool (decide_eq_true (HMK.out HQ1.out HQ2.out HQ3.out HCON.out HT.out)).symm, HB1.out.trans (hW.out.mono HB1.out.size)⟩
            · have v1 : (x.contents != 0) = true := by simp [z1]
              have HS := Lib.hid (HIC.out z1 W2 (HB1.out.trans (HW.out.mono HB1.out.size)))
              have HZ1 := Lib.hid z1
              clear z1
              go_wp2_with fail
              refine HS.out.mono ?_
              rintro e W3 ⟨rfl, hB3⟩
              have HW : Hid (Below W1.heap.size W1 W3) := Lib.hid (HW.out.trans (hB3.mono HW.out.size))
              clear hB3 HS g2 g11 i2 i11
              have g2 := Below.old HW.out X2; have g11 := Below.old HW.out X11; have i2 := Below.old HW.out Y2; have i11 := Below.old HW.out Y11
              by_cases z3 : AlkP A B x.contents y.contents
              · rw [show decide (AlkP A B x.contents y.contents) = true from decide_eq_true z3]
                have HCON : Hid (x.contents ≠ 0 → AlkP A B x.contents y.contents) := Lib.hid (fun _ => z3)
                clear z3
                go_wp2
                go_loopw [11] (fun i wr => ∃ k' : Nat, k' ≤ x.kids.length ∧ i = .int .i64 k' ∧ Hid (∀ (j : Nat) (u v : Int), j < k' → x.kids[j]? = some u → y.kids[j]? = some v → AlkP A B u v) ∧ Hid (Below W1.heap.size W1 wr)) (fun i _ => x.kids.length - (intOf i).toNat)
                case atStart => exact ⟨0, Nat.zero_le _, rfl, fun j u v hj => by omega, HW.out⟩
                case round =>
                  obtain ⟨k', hk', rfl, hT, hW⟩ := hrel
                  have r2 := Below.old hW.out X2
                  have s2 := Below.old hW.out Y2
                  by_cases hlt : k' < x.kids.length
                  · have hlt2 : k' < y.kids.length := by have := HQ2.out; omega
                    obtain ⟨kb1, ko1, rfl, -, hcs1⟩ := (RInts.below (RInts.below HR1.out HB1.out) hW.out).cells (by omega)
                    obtain ⟨kb2, ko2, rfl, -, hcs2⟩ := (RInts.below (RInts.below HR2.out HB1.out) hW.out).cells (by omega)
                    obtain ⟨u, hu⟩ : ∃ u, x.kids[k']? = some u := ⟨_, List.getElem?_eq_getElem hlt⟩
                    obtain ⟨v, hv⟩ : ∃ v, y.kids[k']? = some v := ⟨_, List.getElem?_eq_getElem hlt2⟩
                    have t1 := hcs1 k' u hu
                    have t2 := hcs2 k' v hv
                    have HX := Lib.hid (And.intro hu hv)
                    have HS := Lib.hid (HIK.out u (List.mem_of_getElem? hu) v wr.drew (Below.drew (HB1.out.trans (hW.out.mono HB1.out.size))))
                    have HWD : Hid (Below W1.heap.size W1 wr.drew) := Lib.hid (Below.drew hW.out)
                    clear hcs1 hcs2 hu hv X2 Y2
                    go_wp2_with fail
                    go_still_tail 12, (by kernel_rfl)
                    change wpList _ _ _ _ _ wr.drew
                    clear r2 s2 t1 t2
                    generalize wr.drew = wd at *
                    go_wp2_with fail
                    refine HS.out.mono ?_
                    rintro e w2 ⟨rfl, hB2⟩
                    have HB2 : Hid (Below W1.heap.size W1 w2) := Lib.hid (HWD.out.trans (hB2.mono HWD.out.size))
                    clear hB2 HS
                    all_goals
                      by_cases q5 : AlkP A B u v
                      · have hd5 : decide (AlkP A B u v) = true := decide_eq_true q5
                        rw [hd5]
                        have HQ5 := Lib.hid q5
                        clear q5 hd5
                        go_wp2
                        go_roundw
                        case rel => exact ⟨k' + 1, hlt, by go_num, fun j u' v' hj hu' hv' => by
                          by_cases hjk : j < k'
                          · exact hT.out j u' v' hjk hu' hv'
                          · have : j = k' := by omega
                            subst this
                            rw [HX.out.1] at hu'; rw [HX.out.2] at hv'
                            injection hu' with hu'; injection hv' with hv'
                            rw [← hu', ← hv']; exact HQ5.out, HB2.out⟩
                        case measure => simp [intOf]; omega
                      · have hd5 : decide (AlkP A B u v) = false := decide_eq_false q5
                        rw [hd5]
                        have HQ5 := Lib.hid q5
                        clear q5 hd5
                        go_wp2
                        go_ret
                        exact ⟨ret_bool (decide_eq_false (fun h => HQ5.out ((HG.out h).2.2.2.2 k' u v HX.out.1 HX.out.2))).symm, HB1.out.trans (HB2.out.mono HB1.out.size)⟩
                  · have HT := Lib.hid (fun (j : Nat) (u v : Int) (hx : x.kids[j]? = some u) (hy : y.kids[j]? = some v) => hT.out j u v (by have := (List.getElem?_eq_some_iff.1 hx).1; omega) hx hy)
                    clear hT
                    go_wp2
                    go_ret
                    exact ⟨ret_bool (decide_eq_true (HMK.out HQ1.out HQ2.out HQ3.out HCON.out HT.out)).symm, HB1.out.trans (hW.out.mono HB1.out.size)⟩
              · rw [show decide (AlkP A B x.contents y.contents) = false from decide_eq_false z3]
                have HZ3 := Lib.hid z3
                clear z3
                go_wp2
                go_ret
                exact ⟨ret_bool (decide_eq_false (fun h => HZ3.out ((HG.out h).2.2.2.1 HZ1.out))).symm, HB1.out.trans (HW.out.mono HB1.out.size)⟩
          · have u3 : ((x.contents == 0) != (y.contents == 0)) = true := by
              by_cases z : x.contents = 0
              · by_cases yz : y.contents = 0
                · exact absurd (by simp [z, yz]) q3
                · simp [z, yz]
              · by_cases yz : y.contents = 0
                · simp [z, yz]
                · exact absurd (by simp [z, yz]) q3
            have u3' : (!((x.contents == 0) == (y.contents == 0))) = true := u3
            have HQ3 := Lib.hid q3
            clear q3
            go_wp2
            go_ret
            exact ⟨ret_bool (decide_eq_false (fun h => HQ3.out (HG.out h).2.2.1)).symm, HB1.out.trans (HW.out.mono HB1.out.size)⟩
        · have u2 : ((x.kids.length : Int) != (y.kids.length : Int)) = true := by simp; omega
          have HQ2 := Lib.hid q2
          clear q2
          go_wp2
          go_ret
          exact ⟨ret_bool (decide_eq_false (fun h => HQ2.out (HG.out h).2.1)).symm, HB1.out.trans (HW.out.mono HB1.out.size)⟩
      · rw [show decide (alikeP x y) = false from decide_eq_false q1]
        have HQ1 := Lib.hid q1
        clear q1
        go_wp2
        go_ret
        exact ⟨ret_bool (decide_eq_false (fun h => HQ1.out (HG.out h).1)).symm, HB1.out.trans (HW.out.mono HB1.out.size)⟩
  · have hd' : decide (B.has k) = false := by simp [hk]
    have HH1 := Lib.hid (HH0 h w h0)
    have HH2 := Lib.hid (HH0' k w h0')
    have HK := Lib.hid hk
    clear hN hN' HH0 HH0' hfn hfn' hk hA hB ihc ihk hh
    go_enter Try.func56, Try.ntmps56
    go_wp2_with fail
    refine HH1.out.mono ?_
    rintro e w' ⟨rfl, rfl⟩
    rw [hd]
    go_wp2_with fail
    refine HH2.out.mono ?_
    rintro e w' ⟨rfl, rfl⟩
    rw [hd']
    go_wp2
    go_ret
    exact ⟨ret_bool (decide_eq_false (fun h => HK.out h.inv.2.1)).symm, Below.refl _ _⟩

theorem RSame_any (A B : Ar) (ρ σ : Nat → Nat) (b c : Nat) (hI : A.Inv) (hJ : B.Inv) (h k : Int) (w : World) (hA : RMem w ρ b A) (hB : RMem w σ c B) :
    Calls Try.prog 56 #[.pointer (some ⟨b, 0, none⟩), .int .i64 h, .pointer (some ⟨c, 0, none⟩), .int .i64 k] w fun e w' => e = .returned (.bool (decide (AlkP A B h k))) ∧ Below w.heap.size w w' := by
  by_cases hh : A.has h
  · exact RSame_has A B ρ σ b c hI hJ h hh k w hA hB
  · obtain ⟨nb, c1, h0, hm, hc, hfn, hnb, HH0, hN⟩ := hA.look
    have hd : decide (A.has h) = false := by simp [hh]
    have HH1 := Lib.hid (HH0 h w h0)
    have HK := Lib.hid hh
    clear hN HH0 hfn hA hB hh
    go_enter Try.func56, Try.ntmps56
    go_wp2_with fail
    refine HH1.out.mono ?_
    rintro e w' ⟨rfl, rfl⟩
    rw [hd]
    go_wp2
    go_ret
    exact ⟨ret_bool (decide_eq_false (fun h => HK.out h.inv.1)).symm, Below.refl _ _⟩

end Go.Proofs.Ytnfdcfagdidmhaa
