/-
  Parts: EQ.
-/
import Derived.BigRegion
import Derived.Deep.CutRange
import Derived.Test.YtpicinjcmjaogaaGreatK22
import Derived.Test.YtpicinjcmjaogaaGreatK42

/- The arena's Equal. -/
namespace Go.Proofs.YtpicinjcmjaogaaGreat
open Go.RowKit Classical
set_option linter.unusedVariables false

set_option maxHeartbeats 400000 in
theorem EqualInts_any (v1 v2 : Value) (l1 l2 : List Int) (w : World) (h1 : RInts w v1 l1) (h2 : RInts w v2 l2) :
    Calls Tryz.prog 156 #[v1, v2] w fun e w' => e = .returned (.bool (decide (l1 = l2))) ∧ ∃ m, w' = w.drewN m := by
  obtain ⟨a1, c1, rfl, p1, p2, p3⟩ := h1.form
  obtain ⟨a2, c2, rfl, q1, q2, q3⟩ := h2.form
  have H1 := Lib.hid h1
  have H2 := Lib.hid h2
  clear h1 h2 p3 q3
  by_cases hl : l1.length = l2.length
  · have hl1 : ((l1.length : Int) != l2.length) = false := by simp [hl]
    have HL := Lib.hid hl
    go_enter Tryz.func156, Tryz.ntmps156
    go_wp2
    go_loopw [13] (fun i wr => ∃ k : Nat, k ≤ l1.length ∧ i = .int .i64 k ∧ Hid (∀ j : Nat, j < k → l1[j]? = l2[j]?) ∧ ∃ m, wr = w.drewN m) (fun i _ => l1.length - (intOf i).toNat)
    case atStart => exact ⟨0, Nat.zero_le _, rfl, fun j hj => by omega, 0, rfl⟩
    case round =>
      obtain ⟨k, hk, rfl, hT, m0, rfl⟩ := hrel
      by_cases hlt : k < l1.length
      · have hlt2 : k < l2.length := by have := HL.out; omega
        obtain ⟨b1, o1, rfl, -, hcs1⟩ := H1.out.cells (by omega)
        obtain ⟨b2, o2, rfl, -, hcs2⟩ := H2.out.cells (by omega)
        obtain ⟨x, hx⟩ : ∃ x, l1[k]? = some x := ⟨_, List.getElem?_eq_getElem hlt⟩
        obtain ⟨y, hy⟩ : ∃ y, l2[k]? = some y := ⟨_, List.getElem?_eq_getElem hlt2⟩
        have d1 := hcs1 k x hx
        have e1 := hcs2 k y hy
        have HX := Lib.hid (And.intro hx hy)
        clear hcs1 hcs2 hx hy
        by_cases t1 : x = y
        · have u1 : (x != y) = false := by simp [t1]
          have HT := Lib.hid t1
          clear t1
          go_wp2_with (go_quiet (fail))
          go_wp2
          go_roundw
          case rel => exact ⟨k + 1, hlt, by go_num, fun j hj => by
            by_cases hjk : j < k
            · exact hT.out j hjk
            · have : j = k := by omega
              rw [this, HX.out.1, HX.out.2, HT.out], (m0 + nq), by first | rfl | rw [World.drewN_drewN]⟩
          case measure => simp [intOf]; omega
        · have u1 : (x != y) = true := by simp [t1]
          have HT := Lib.hid t1
          clear t1
          go_wp2_with (go_quiet (fail))
          go_wp2
          go_ret
          exact ⟨ret_bool (decide_eq_false (fun h => HT.out (by have a := HX.out.1; have b := HX.out.2; rw [h, b] at a; simp at a; exact a.symm))).symm, (m0 + nq), by first | rfl | rw [World.drewN_drewN]⟩
      · have hfin : l1 = l2 := by
          apply List.ext_getElem?
          intro j
          by_cases hj : j < k
          · exact hT.out j hj
          · have := HL.out
            rw [List.getElem?_eq_none (by omega), List.getElem?_eq_none (by omega)]
        have HF := Lib.hid hfin
        clear hfin
        go_wp2
        go_ret
        exact ⟨ret_bool (decide_eq_true HF.out).symm, m0, rfl⟩
  · have hl1 : ((l1.length : Int) != l2.length) = true := by simp; omega
    have HL := Lib.hid hl
    clear hl
    go_enter Tryz.func156, Tryz.ntmps156
    go_wp2
    go_ret
    exact ⟨ret_bool (decide_eq_false (fun h => HL.out (by rw [h]))).symm, 0, rfl⟩

/-- Two boxes, each with a node. -/
theorem boxes2' (w : World) (x y : Nd) (kv av kv' av' : Value) (t : TypeId) : NodeF (((w.alloc (.cells (x.cells kv av).toArray t)).alloc (.cells (y.cells kv' av').toArray t)).drew) w.heap.size 0 x kv av ∧
    NodeF (((w.alloc (.cells (x.cells kv av).toArray t)).alloc (.cells (y.cells kv' av').toArray t)).drew) (w.heap.size + 1) 0 y kv' av' ∧ Below w.heap.size w (((w.alloc (.cells (x.cells kv av).toArray t)).alloc (.cells (y.cells kv' av').toArray t)).drew) := by
  refine ⟨((boxF w x kv av t).below (below_alloc _ _)).below (Below.drew (Below.refl _ _)), ?_, Below.drew (((Below.refl _ w).alloc (Nat.le_refl _) _).alloc (by simp) _)⟩
  have := (boxF (w.alloc (.cells (x.cells kv av).toArray t)) y kv' av' t).below (Below.drew (Below.refl _ _))
  simpa using this
theorem boxes2s' (w : World) (x y : Nd) (kv av kv' av' : Value) (t : TypeId) : NodeF (((w.alloc (.cells (x.cells kv av).toArray t)).alloc (.cells (y.cells kv' av').toArray t)).drew) (w.heap.size + 1) 0 y kv' av' ∧
    NodeF (((w.alloc (.cells (x.cells kv av).toArray t)).alloc (.cells (y.cells kv' av').toArray t)).drew) w.heap.size 0 x kv av ∧ Below w.heap.size w (((w.alloc (.cells (x.cells kv av).toArray t)).alloc (.cells (y.cells kv' av').toArray t)).drew) :=
  ⟨(boxes2' w x y kv av kv' av' t).2.1, (boxes2' w x y kv av kv' av' t).1, (boxes2' w x y kv av kv' av' t).2.2⟩

theorem Ar.Inv.inertBound {A : Ar} (hI : A.Inv) (hs : A.ns.length ≤ 1000000) : ∀ i : Nat, 0 ≤ A.inert[i]?.getD 0 ∧ A.inert[i]?.getD 0 ≤ 1000000 := by
  intro i
  have h := hI.inert i
  unfold Ar.inertAt at h
  rw [Int.toNat_natCast] at h
  by_cases hz : A.inert[i]?.getD 0 = 0
  · rw [hz]; omega
  · have := (h hz).2.1
    unfold Ar.has Ar.n at this
    omega

set_option maxRecDepth 100000 in
set_option maxHeartbeats 10000000 in
theorem Equal_any (A B : Ar) (ρ σ : Nat → Nat) (b c : Nat) (hI : A.Inv) (hJ : B.Inv) (hs : A.ns.length ≤ 100000) (hs' : B.ns.length ≤ 100000) (w : World) (hA : AMem w ρ b A) (hB : AMem w σ c B) :
    Calls Tryz.prog 78 #[.pointer (some ⟨b, 0, none⟩), .pointer (some ⟨c, 0, none⟩)] w fun e w' => e = .returned (.bool (decide (A = B))) ∧ Below w.heap.size w w' := by
  obtain ⟨a1, c1, m1, h0, h1, -, hb1, hm1, hN1⟩ := hA.head
  obtain ⟨a2, c2, m2, h0', h1', -, hb2, hm2, hN2⟩ := hB.head
  have HL1 := Lib.hid (len_any A b a1 c1 w h0)
  have HL2 := Lib.hid (len_any B c a2 c2 w h0')
  by_cases hn : A.ns.length = B.ns.length
  · have un : (A.n != B.n) = false := by unfold Ar.n; simp [hn]
    have HN := Lib.hid hn
    have HN1 := Lib.hid hN1
    have HN2 := Lib.hid hN2
    obtain ⟨-, -, il, nv, mv, hh, -, hM1⟩ := id hA
    obtain ⟨-, -, jl, nv', mv', hh', -, hM2⟩ := id hB
    have e1 : mv = m1 := by
      have : w.cell? ⟨b, 1, none⟩ = some mv := by rw [cell_of_row w b _ _ _ _ hh]; rfl
      rw [h1] at this; injection this with this; exact this.symm
    have e2 : mv' = m2 := by
      have : w.cell? ⟨c, 1, none⟩ = some mv' := by rw [cell_of_row w c _ _ _ _ hh']; rfl
      rw [h1'] at this; injection this with this; exact this.symm
    subst e1; subst e2
    have HM := Lib.hid (fun W (hW : Below w.heap.size w W) => MEqual_any mv mv' A.inert B.inert ρ σ W (hM1.upd (Upd.below (F := fun _ => False) hW) (fun _ _ h => h)) (hM2.upd (Upd.below (F := fun _ => False) hW) (fun _ _ h => h)) (hI.inertBound (by omega)) (hJ.inertBound (by omega)) (by omega) (by omega) hI.inert0 hJ.inert0)
    obtain ⟨p1, hp1⟩ : ∃ p, mv = .map p := by
      obtain ⟨L, -, -, h | ⟨q, h, -⟩⟩ := hM1
      · exact ⟨_, h.1⟩
      · exact ⟨_, h⟩
    obtain ⟨p2, hp2⟩ : ∃ p, mv' = .map p := by
      obtain ⟨L, -, -, h | ⟨q, h, -⟩⟩ := hM2
      · exact ⟨_, h.1⟩
      · exact ⟨_, h⟩
    subst hp1; subst hp2
    have HAB := Lib.hid (show A.ns = B.ns → (A.inert = B.inert ↔ A = B) from fun e => ⟨fun e' => by cases A; cases B; simp_all, fun e' => by rw [e']⟩)
    have HNEs := Lib.hid (show A = B → A.ns = B.ns from fun e => by rw [e])
    clear hM1 hM2 hh hh' hA hB hN1 hN2 il jl hn hI hJ
    go_enter Tryz.func78, Tryz.ntmps78
    go_wp2_with fail
    refine HL1.out.mono ?_
    rintro e w' ⟨rfl, rfl⟩
    go_wp2_with fail
    refine HL2.out.mono ?_
    rintro e w' ⟨rfl, rfl⟩
    go_wp2
    go_loopw [24] (fun i wr => ∃ k' : Nat, k' ≤ A.ns.length ∧ i = .int .i64 k' ∧ Hid (∀ j : Nat, j < k' → A.ns[j]? = B.ns[j]?) ∧ Hid (Below w.heap.size w wr)) (fun i _ => A.ns.length - (intOf i).toNat)
    case atStart => exact ⟨0, Nat.zero_le _, rfl, fun j hj => by omega, Below.refl _ _⟩
    case round =>
      obtain ⟨k', hk', rfl, hT, HB⟩ := hrel
      have r0 := Below.old HB.out h0; have r1 := Below.old HB.out h1; have r0' := Below.old HB.out h0'; have r1' := Below.old HB.out h1'
      by_cases hlt : k' < A.ns.length
      · have hlt2 : k' < B.ns.length := by have := HN.out; omega
        obtain ⟨n1, rfl, -, -, -, hX1⟩ := HN1.out (by omega)
        obtain ⟨n2, rfl, -, -, -, hX2⟩ := HN2.out (by omega)
        have hh1 : A.has ((k' : Int) + 1) := ⟨by omega, by unfold Ar.n; omega⟩
        have hh2 : B.has ((k' : Int) + 1) := ⟨by omega, by unfold Ar.n; omega⟩
        obtain ⟨kv, av, F, hK, hAt⟩ := hX1 _ hh1
        obtain ⟨kv', av', F', hK', hAt'⟩ := hX2 _ hh2
        have hgn := Ar.get_some hh1
        have hgn' := Ar.get_some hh2
        rw [show ((k' : Int) + 1).toNat - 1 = k' by omega] at F F' hgn hgn'
        have F := F.below HB.out
        have F' := F'.below HB.out
        have HR1 := Lib.hid (RInts.below hK.reads HB.out)
        have HR2 := Lib.hid (RInts.below hK'.reads HB.out)
        have HT1 := Lib.hid (RAttrs.below hAt.reads HB.out)
        have HT2 := Lib.hid (RAttrs.below hAt'.reads HB.out)
        clear hX1 hX2 hK hK' hAt hAt' hh1 hh2
        generalize A.get ((k' : Int) + 1) = x at *
        generalize B.get ((k' : Int) + 1) = y at *
        obtain ⟨ka, kc, rfl, kl1, kl2, -⟩ := HR1.out.form
        obtain ⟨ka', kc', rfl, kl3, kl4, -⟩ := HR2.out.form
        obtain ⟨aa, ac, rfl, -⟩ := HT1.out.form
        obtain ⟨aa', ac', rfl, -⟩ := HT2.out.form
        have k0 := F.c0; have k1 := F.c1; have k2 := F.c2; have k3 := F.c3; have k4 := F.c4; have k5 := F.c5; have k6 := F.c6; have k7 := F.c7; have k8 := F.c8; have k9 := F.c9; have k10 := F.c10; have k11 := F.c11; have k12 := F.c12
        have m0 := F'.c0; have m1 := F'.c1; have m2 := F'.c2; have m3 := F'.c3; have m4 := F'.c4; have m5 := F'.c5; have m6 := F'.c6; have m7 := F'.c7; have m8 := F'.c8; have m9 := F'.c9; have m10 := F'.c10; have m11 := F'.c11; have m12 := F'.c12
        have lb := World.block_lt_of_cell? wr _ r0; have lb' := World.block_lt_of_cell? wr _ r0'; have ln := World.block_lt_of_cell? wr _ k0; have ln' := World.block_lt_of_cell? wr _ m0
        dsimp only at lb lb' ln ln'
        have HX := Lib.hid (And.intro hgn hgn')
        have HNE := Lib.hid (show ¬ x = y → ¬ A = B from fun hne e => hne (by rw [e] at hgn; rw [hgn] at hgn'; injection hgn'))
        clear F F' hgn hgn'
        go_wp2
        go_upto_region 8 with fail
        go_cut [24, 6, 7] from 24 to 81 (fun ii p q wx => ii = .int .i64 k' ∧ ∃ xb yb : Nat, p = .pointer (some ⟨xb, 0, none⟩) ∧ q = .pointer (some ⟨yb, 0, none⟩) ∧ Hid (NodeF wx xb 0 x (.slice ka x.kids.length kc) (.slice aa x.attrs.length ac) ∧ NodeF wx yb 0 y (.slice ka' y.kids.length kc') (.slice aa' y.attrs.length ac') ∧ Below wr.heap.size wr wx))
        case first =>
          go_region
          all_goals
            clear k0 k1 k2 k3 k4 k5 k6 k7 k8 k9 k10 k11 k12 m0 m1 m2 m3 m4 m5 m6 m7 m8 m9 m10 m11 m12 r1 r1'
            go_wp2_with fail
            go_meet
            first
              | exact ⟨rfl, _, _, rfl, rfl, boxes2' wr x y (.slice ka x.kids.length kc) (.slice aa x.attrs.length ac) (.slice ka' y.kids.length kc') (.slice aa' y.attrs.length ac') 46⟩
              | exact ⟨rfl, _, _, rfl, rfl, boxes2s' wr y x (.slice ka' y.kids.length kc') (.slice aa' y.attrs.length ac') (.slice ka x.kids.length kc) (.slice aa x.attrs.length ac) 46⟩
        case rest =>
          obtain ⟨rfl, xb, yb, rfl, rfl, hc3⟩ := hcut
          obtain ⟨hX, hY, hB1⟩ := hc3.out
          clear k0 k1 k2 k3 k4 k5 k6 k7 k8 k9 k10 k11 k12 m0 m1 m2 m3 m4 m5 m6 m7 m8 m9 m10 m11 m12 r1 r1' hc3
          obtain ⟨W1, hW1⟩ : ∃ W1, W1 = wc := ⟨_, rfl⟩
          subst hW1
          have HB1 := Lib.hid hB1
          have HK := Lib.hid (fun W (hW : Below wr.heap.size wr W) => EqualInts_any _ _ x.kids y.kids W (HR1.out.below hW) (HR2.out.below hW))
          have HL := Lib.hid (fun W (hW : Below W1.heap.size W1 W) => arenaAlike_any x y _ _ _ _ _ _ _ _ W (hX.below hW) (hY.below hW) (HT1.out.below (hB1.trans (hW.mono hB1.size))) (HT2.out.below (hB1.trans (hW.mono hB1.size))))
          have x0 := hX.c0; have x1 := hX.c1; have x2 := hX.c2; have x3 := hX.c3; have x4 := hX.c4; have x5 := hX.c5; have x6 := hX.c6; have x7 := hX.c7; have x8 := hX.c8; have x9 := hX.c9; have x10 := hX.c10; have x11 := hX.c11; have x12 := hX.c12
          have y0 := hY.c0; have y1 := hY.c1; have y2 := hY.c2; have y3 := hY.c3; have y4 := hY.c4; have y5 := hY.c5; have y6 := hY.c6; have y7 := hY.c7; have y8 := hY.c8; have y9 := hY.c9; have y10 := hY.c10; have y11 := hY.c11; have y12 := hY.c12
          simp only [Nat.zero_add] at x0 x1 x2 x3 x4 x5 x6 x7 x8 x9 x10 x11 x12 y0 y1 y2 y3 y4 y5 y6 y7 y8 y9 y10 y11 y12
          clear hX hY hB1
          by_cases q0 : x.kids = y.kids
          · have HQ0 := Lib.hid q0
            clear q0
            by_cases q1 : alikeP x y
            · have HQ1 := Lib.hid q1
              clear q1
              by_cases q2 : x.parent = y.parent
              · have u2 : (x.parent != y.parent) = false := by simp [q2]
                have HQ2 := Lib.hid q2
                clear q2
                by_cases q3 : x.doc = y.doc
                · have u3 : (x.doc != y.doc) = false := by simp [q3]
                  have HQ3 := Lib.hid q3
                  clear q3
                  by_cases q4 : x.contents = y.contents
                  · have u4 : (x.contents != y.contents) = false := by simp [q4]
                    have HQ4 := Lib.hid q4
                    clear q4
                    by_cases q5 : x.host = y.host
                    · have u5 : (x.host != y.host) = false := by simp [q5]
                      have HQ5 := Lib.hid q5
                      clear q5
                      go_wp2_with fail
                      refine (HK.out W1 HB1.out).mono ?_
                      rintro e W2 ⟨rfl, m2, hm2⟩
                      have HW2 : Hid (Below W1.heap.size W1 W2) := Lib.hid (by rw [hm2]; exact Below.drewN (Below.refl _ _) _)
                      have HD2 := Lib.hid hm2
                      clear hm2
                      rw [show decide (x.kids = y.kids) = true from decide_eq_true HQ0.out]
                      have z0 := Below.old HW2.out x0; have z4 := Below.old HW2.out x4
                      go_wp2_with fail
                      refine (HL.out W2 HW2.out).mono ?_
                      rintro e W3 ⟨rfl, m3, hm3⟩
                      have HW3 : Hid (Below W1.heap.size W1 W3) := Lib.hid (by rw [hm3]; exact Below.drewN HW2.out _)
                      clear hm3 z0 z4
                      rw [show decide (alikeP x y) = true from decide_eq_true HQ1.out]
                      have g1 := Below.old HW3.out x1; have g3 := Below.old HW3.out x3; have g11 := Below.old HW3.out x11; have g12 := Below.old HW3.out x12
                      have i1 := Below.old HW3.out y1; have i3 := Below.old HW3.out y3; have i11 := Below.old HW3.out y11; have i12 := Below.old HW3.out y12
                      clear x0 x1 x2 x3 x4 x5 x6 x7 x8 x9 x10 x11 x12 y0 y1 y2 y3 y4 y5 y6 y7 y8 y9 y10 y11 y12
                      have HE : Hid (x = y) := Lib.hid ((same_iff x y).1 ⟨HQ1.out, HQ0.out, HQ2.out, HQ3.out, HQ4.out, HQ5.out⟩)
                      have HF := Lib.hid (HB.out.trans ((HB1.out.trans (HW3.out.mono HB1.out.size)).mono HB.out.size))
                      go_wp2
                      go_roundw
                      case rel => exact ⟨k' + 1, hlt, by go_num, fun j hj => by
                        by_cases hjk : j < k'
                        · exact hT.out j hjk
                        · have : j = k' := by omega
                          rw [this, HX.out.1, HX.out.2, HE.out], HF.out⟩
                      case measure => simp [intOf]; omega
                    · have u5 : (x.host != y.host) = true := by simp [q5]
                      have HQ5 := Lib.hid q5
                      clear q5
                      go_wp2_with fail
                      refine (HK.out W1 HB1.out).mono ?_
                      rintro e W2 ⟨rfl, m2, hm2⟩
                      have HW2 : Hid (Below W1.heap.size W1 W2) := Lib.hid (by rw [hm2]; exact Below.drewN (Below.refl _ _) _)
                      have HD2 := Lib.hid hm2
                      clear hm2
                      rw [show decide (x.kids = y.kids) = true from decide_eq_true HQ0.out]
                      have z0 := Below.old HW2.out x0; have z4 := Below.old HW2.out x4
                      go_wp2_with fail
                      refine (HL.out W2 HW2.out).mono ?_
                      rintro e W3 ⟨rfl, m3, hm3⟩
                      have HW3 : Hid (Below W1.heap.size W1 W3) := Lib.hid (by rw [hm3]; exact Below.drewN HW2.out _)
                      clear hm3 z0 z4
                      rw [show decide (alikeP x y) = true from decide_eq_true HQ1.out]
                      have g1 := Below.old HW3.out x1; have g3 := Below.old HW3.out x3; have g11 := Below.old HW3.out x11; have g12 := Below.old HW3.out x12
                      have i1 := Below.old HW3.out y1; have i3 := Below.old HW3.out y3; have i11 := Below.old HW3.out y11; have i12 := Below.old HW3.out y12
                      clear x0 x1 x2 x3 x4 x5 x6 x7 x8 x9 x10 x11 x12 y0 y1 y2 y3 y4 y5 y6 y7 y8 y9 y10 y11 y12
                      go_wp2
                      go_ret
                      exact ⟨ret_bool (decide_eq_false (fun h => HNE.out (fun e => HQ5.out (by rw [e])) h)).symm, HB.out.trans ((HB1.out.trans (HW3.out.mono HB1.out.size)).mono HB.out.size)⟩
                  · have u4 : (x.contents != y.contents) = true := by simp [q4]
                    have HQ4 := Lib.hid q4
                    clear q4
                    go_wp2_with fail
                    refine (HK.out W1 HB1.out).mono ?_
                    rintro e W2 ⟨rfl, m2, hm2⟩
                    have HW2 : Hid (Below W1.heap.size W1 W2) := Lib.hid (by rw [hm2]; exact Below.drewN (Below.refl _ _) _)
                    have HD2 := Lib.hid hm2
                    clear hm2
                    rw [show decide (x.kids = y.kids) = true from decide_eq_true HQ0.out]
                    have z0 := Below.old HW2.out x0; have z4 := Below.old HW2.out x4
                    go_wp2_with fail
                    refine (HL.out W2 HW2.out).mono ?_
                    rintro e W3 ⟨rfl, m3, hm3⟩
                    have HW3 : Hid (Below W1.heap.size W1 W3) := Lib.hid (by rw [hm3]; exact Below.drewN HW2.out _)
                    clear hm3 z0 z4
                    rw [show decide (alikeP x y) = true from decide_eq_true HQ1.out]
                    have g1 := Below.old HW3.out x1; have g3 := Below.old HW3.out x3; have g11 := Below.old HW3.out x11; have g12 := Below.old HW3.out x12
                    have i1 := Below.old HW3.out y1; have i3 := Below.old HW3.out y3; have i11 := Below.old HW3.out y11; have i12 := Below.old HW3.out y12
                    clear x0 x1 x2 x3 x4 x5 x6 x7 x8 x9 x10 x11 x12 y0 y1 y2 y3 y4 y5 y6 y7 y8 y9 y10 y11 y12
                    go_wp2
                    go_ret
                    exact ⟨ret_bool (decide_eq_false (fun h => HNE.out (fun e => HQ4.out (by rw [e])) h)).symm, HB.out.trans ((HB1.out.trans (HW3.out.mono HB1.out.size)).mono HB.out.size)⟩
                · have u3 : (x.doc != y.doc) = true := by simp [q3]
                  have HQ3 := Lib.hid q3
                  clear q3
                  go_wp2_with fail
                  refine (HK.out W1 HB1.out).mono ?_
                  rintro e W2 ⟨rfl, m2, hm2⟩
                  have HW2 : Hid (Below W1.heap.size W1 W2) := Lib.hid (by rw [hm2]; exact Below.drewN (Below.refl _ _) _)
                  have HD2 := Lib.hid hm2
                  clear hm2
                  rw [show decide (x.kids = y.kids) = true from decide_eq_true HQ0.out]
                  have z0 := Below.old HW2.out x0; have z4 := Below.old HW2.out x4
                  go_wp2_with fail
                  refine (HL.out W2 HW2.out).mono ?_
                  rintro e W3 ⟨rfl, m3, hm3⟩
                  have HW3 : Hid (Below W1.heap.size W1 W3) := Lib.hid (by rw [hm3]; exact Below.drewN HW2.out _)
                  clear hm3 z0 z4
                  rw [show decide (alikeP x y) = true from decide_eq_true HQ1.out]
                  have g1 := Below.old HW3.out x1; have g3 := Below.old HW3.out x3; have g11 := Below.old HW3.out x11; have g12 := Below.old HW3.out x12
                  have i1 := Below.old HW3.out y1; have i3 := Below.old HW3.out y3; have i11 := Below.old HW3.out y11; have i12 := Below.old HW3.out y12
                  clear x0 x1 x2 x3 x4 x5 x6 x7 x8 x9 x10 x11 x12 y0 y1 y2 y3 y4 y5 y6 y7 y8 y9 y10 y11 y12
                  go_wp2
                  go_ret
                  exact ⟨ret_bool (decide_eq_false (fun h => HNE.out (fun e => HQ3.out (by rw [e])) h)).symm, HB.out.trans ((HB1.out.trans (HW3.out.mono HB1.out.size)).mono HB.out.size)⟩
              · have u2 : (x.parent != y.parent) = true := by simp [q2]
                have HQ2 := Lib.hid q2
                clear q2
                go_wp2_with fail
                refine (HK.out W1 HB1.out).mono ?_
                rintro e W2 ⟨rfl, m2, hm2⟩
                have HW2 : Hid (Below W1.heap.size W1 W2) := Lib.hid (by rw [hm2]; exact Below.drewN (Below.refl _ _) _)
                have HD2 := Lib.hid hm2
                clear hm2
                rw [show decide (x.kids = y.kids) = true from decide_eq_true HQ0.out]
                have z0 := Below.old HW2.out x0; have z4 := Below.old HW2.out x4
                go_wp2_with fail
                refine (HL.out W2 HW2.out).mono ?_
                rintro e W3 ⟨rfl, m3, hm3⟩
                have HW3 : Hid (Below W1.heap.size W1 W3) := Lib.hid (by rw [hm3]; exact Below.drewN HW2.out _)
                clear hm3 z0 z4
                rw [show decide (alikeP x y) = true from decide_eq_true HQ1.out]
                have g1 := Below.old HW3.out x1; have g3 := Below.old HW3.out x3; have g11 := Below.old HW3.out x11; have g12 := Below.old HW3.out x12
                have i1 := Below.old HW3.out y1; have i3 := Below.old HW3.out y3; have i11 := Below.old HW3.out y11; have i12 := Below.old HW3.out y12
                clear x0 x1 x2 x3 x4 x5 x6 x7 x8 x9 x10 x11 x12 y0 y1 y2 y3 y4 y5 y6 y7 y8 y9 y10 y11 y12
                go_wp2
                go_ret
                exact ⟨ret_bool (decide_eq_false (fun h => HNE.out (fun e => HQ2.out (by rw [e])) h)).symm, HB.out.trans ((HB1.out.trans (HW3.out.mono HB1.out.size)).mono HB.out.size)⟩
            · have HQ1 := Lib.hid q1
              clear q1
              go_wp2_with fail
              refine (HK.out W1 HB1.out).mono ?_
              rintro e W2 ⟨rfl, m2, hm2⟩
              have HW2 : Hid (Below W1.heap.size W1 W2) := Lib.hid (by rw [hm2]; exact Below.drewN (Below.refl _ _) _)
              have HD2 := Lib.hid hm2
              clear hm2
              rw [show decide (x.kids = y.kids) = true from decide_eq_true HQ0.out]
              have z0 := Below.old HW2.out x0; have z4 := Below.old HW2.out x4
              go_wp2_with fail
              refine (HL.out W2 HW2.out).mono ?_
              rintro e W3 ⟨rfl, m3, hm3⟩
              have HW3 : Hid (Below W1.heap.size W1 W3) := Lib.hid (by rw [hm3]; exact Below.drewN HW2.out _)
              clear hm3 z0 z4
              rw [show decide (alikeP x y) = false from decide_eq_false HQ1.out]
              go_wp2
              go_ret
              exact ⟨ret_bool (decide_eq_false (fun h => HNE.out (fun e => HQ1.out (by rw [e]; exact ⟨rfl, rfl, rfl, rfl, rfl, rfl, rfl, rfl⟩)) h)).symm, HB.out.trans ((HB1.out.trans (HW3.out.mono HB1.out.size)).mono HB.out.size)⟩
          · have HQ0 := Lib.hid q0
            clear q0
            go_wp2_with fail
            refine (HK.out W1 HB1.out).mono ?_
            rintro e W2 ⟨rfl, m2, hm2⟩
            have HW2 : Hid (Below W1.heap.size W1 W2) := Lib.hid (by rw [hm2]; exact Below.drewN (Below.refl _ _) _)
            have HD2 := Lib.hid hm2
            clear hm2
            rw [show decide (x.kids = y.kids) = false from decide_eq_false HQ0.out]
            go_wp2
            go_ret
            exact ⟨ret_bool (decide_eq_false (fun h => HNE.out (fun e => HQ0.out (by rw [e])) h)).symm, HB.out.trans ((HB1.out.trans (HW2.out.mono HB1.out.size)).mono HB.out.size)⟩
      · have HE : Hid (A.ns = B.ns) := Lib.hid (by
          apply List.ext_getElem?
          intro j
          by_cases hj : j < k'
          · exact hT.out j hj
          · have := HN.out
            rw [List.getElem?_eq_none (by omega), List.getElem?_eq_none (by omega)])
        clear hT
        go_wp2
        go_region_with (refine (HM.out _ (Below.drewN HB.out _)).mono ?_; rintro e w2 ⟨rfl, hB2⟩)
        all_goals
          have HF := Lib.hid (HB.out.trans (((Below.drewN (Below.refl wr.heap.size wr) _).trans (hB2.mono (by simp))).mono HB.out.size))
          clear hB2
          go_wp2
          go_ret
          exact ⟨ret_bool (by rw [decide_eq_decide]; exact HAB.out HE.out), HF.out⟩
  · have un : (A.n != B.n) = true := by unfold Ar.n; simp; omega
    have HN := Lib.hid hn
    clear hA hB hN1 hN2 hn
    go_enter Tryz.func78, Tryz.ntmps78
    go_wp2_with fail
    refine HL1.out.mono ?_
    rintro e w' ⟨rfl, rfl⟩
    go_wp2_with fail
    refine HL2.out.mono ?_
    rintro e w' ⟨rfl, rfl⟩
    go_wp2
    go_ret
    exact ⟨ret_bool (decide_eq_false (fun h => HN.out (by rw [h]))).symm, Below.refl _ _⟩

end Go.Proofs.YtpicinjcmjaogaaGreat
