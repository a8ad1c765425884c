/-
  The arena's alike: attributes compared (slices.Equal), two nodes compared through pointers.
-/
import Derived.Test.YtnfdcfagdidmhaaAS0
import Derived.BigQuiet
namespace Go.Proofs.Ytnfdcfagdidmhaa
open Go.RowKit
set_option linter.unusedVariables false

set_option maxHeartbeats 400000 in
theorem EqualAttrs_any (v1 v2 : Value) (l1 l2 : List AttrD) (w : World) (h1 : RAttrs w v1 l1) (h2 : RAttrs w v2 l2) :
    Calls Try.prog 131 #[v1, v2] w fun e w' => e = .returned (.bool (decide (l1 = l2))) ∧ ∃ m, w' = w.drewN m := by
  obtain ⟨a1, c1, rfl, p1, p2, p3⟩ := h1.form
  obtain ⟨a2, c2, rfl, q1, q2, q3⟩ := h2.form
  have H1 := Lib.hid h1
  have H2 := Lib.hid h2
  clear h1 h2 p3 q3
  by_cases hl : l1.length = l2.length
  · have hl1 : ((l1.length : Int) != l2.length) = false := by simp [hl]
    have HL := Lib.hid hl
    go_enter Try.func131, Try.ntmps131
    go_wp2
    go_loopw [13] (fun i wr => ∃ k : Nat, k ≤ l1.length ∧ i = .int .i64 k ∧ Hid (∀ j : Nat, j < k → l1[j]? = l2[j]?) ∧ ∃ m, wr = w.drewN m) (fun i _ => l1.length - (intOf i).toNat)
    case atStart => exact ⟨0, Nat.zero_le _, rfl, fun j hj => by omega, 0, rfl⟩
    case round =>
      obtain ⟨k, hk, rfl, hT, m0, rfl⟩ := hrel
      by_cases hlt : k < l1.length
      · have hlt2 : k < l2.length := by have := HL.out; omega
        obtain ⟨b1, o1, rfl, -, hcs1⟩ := H1.out.cells (by omega)
        obtain ⟨b2, o2, rfl, -, hcs2⟩ := H2.out.cells (by omega)
        obtain ⟨x, hx⟩ : ∃ x, l1[k]? = some x := ⟨_, List.getElem?_eq_getElem hlt⟩
        obtain ⟨y, hy⟩ : ∃ y, l2[k]? = some y := ⟨_, List.getElem?_eq_getElem hlt2⟩
        obtain ⟨d1, d2, d3⟩ := hcs1 k x hx
        obtain ⟨e1, e2, e3⟩ := hcs2 k y hy
        have HX := Lib.hid (And.intro hx hy)
        clear hcs1 hcs2 hx hy
        obtain ⟨xs, xn, xv⟩ := x
        obtain ⟨ys, yn, yv⟩ := y
        dsimp only at d1 d2 d3 e1 e2 e3
        by_cases t1 : xs = ys
        · have u1 : (xs == ys) = true := by simp [t1]
          by_cases t2 : xn = yn
          · have u2 : (xn.toList == yn.toList) = true := by simp [t2]
            by_cases t3 : xv = yv
            · have u3 : (xv.toList == yv.toList) = true := by simp [t3]
              have HT := Lib.hid (And.intro t1 (And.intro t2 t3))
              clear t1 t2 t3
              go_wp2_with (go_quiet (fail))
              go_wp2
              go_roundw
              case rel => exact ⟨k + 1, hlt, by go_num, fun j hj => by
                by_cases hjk : j < k
                · exact hT.out j hjk
                · have : j = k := by omega
                  rw [this, HX.out.1, HX.out.2, HT.out.1, HT.out.2.1, HT.out.2.2], (m0 + nq), by first | rfl | rw [World.drewN_drewN]⟩
              case measure => simp [intOf]; omega
            · have u3 : (xv.toList == yv.toList) = false := by rw [str_beq]; simp [t3]
              have HT := Lib.hid t3
              clear t1 t2 t3
              go_wp2_with (go_quiet (fail))
              go_wp2
              go_ret
              exact ⟨ret_bool (decide_eq_false (fun h => HT.out (by have a := HX.out.1; have b := HX.out.2; rw [h, b] at a; simp at a; exact a.2.2.symm))).symm, (m0 + nq), by first | rfl | rw [World.drewN_drewN]⟩
          · have u2 : (xn.toList == yn.toList) = false := by rw [str_beq]; simp [t2]
            have HT := Lib.hid t2
            clear t1 t2
            go_wp2_with (go_quiet (fail))
            go_wp2
            go_ret
            exact ⟨ret_bool (decide_eq_false (fun h => HT.out (by have a := HX.out.1; have b := HX.out.2; rw [h, b] at a; simp at a; exact a.2.1.symm))).symm, (m0 + nq), by first | rfl | rw [World.drewN_drewN]⟩
        · have u1 : (xs == ys) = false := by simp [t1]
          have HT := Lib.hid t1
          clear t1
          go_wp2_with (go_quiet (fail))
          go_wp2
          go_ret
          exact ⟨ret_bool (decide_eq_false (fun h => HT.out (by have a := HX.out.1; have b := HX.out.2; rw [h, b] at a; simp at a; exact a.1.symm))).symm, (m0 + nq), by first | rfl | rw [World.drewN_drewN]⟩
      · have hfin : l1 = l2 := by
          apply List.ext_getElem?
          intro j
          by_cases hj : j < k
          · exact hT.out j hj
          · have := HL.out
            rw [List.getElem?_eq_none (by omega), List.getElem?_eq_none (by omega)]
        have HF := Lib.hid hfin
        clear hfin
        go_wp2
        go_ret
        exact ⟨ret_bool (decide_eq_true HF.out).symm, m0, rfl⟩
  · have hl1 : ((l1.length : Int) != l2.length) = true := by simp; omega
    have HL := Lib.hid hl
    clear hl
    go_enter Try.func131, Try.ntmps131
    go_wp2
    go_ret
    exact ⟨ret_bool (decide_eq_false (fun h => HL.out (by rw [h]))).symm, 0, rfl⟩

set_option maxRecDepth 100000 in
set_option maxHeartbeats 4000000 in
theorem arenaAlike_any (x y : Nd) (kv av kv' av' : Value) (nb1 o1 nb2 o2 : Nat) (w : World) (F1 : NodeF w nb1 o1 x kv av) (F2 : NodeF w nb2 o2 y kv' av') (hx : RAttrs w av x.attrs) (hy : RAttrs w av' y.attrs) :
    Calls Try.prog 106 #[.pointer (some ⟨nb1, o1, none⟩), .pointer (some ⟨nb2, o2, none⟩)] w fun e w' => e = .returned (.bool (decide (alikeP x y))) ∧ ∃ m, w' = w.drewN m := by
  obtain ⟨x0, x1, x2, x3, x4, x5, x6, x7, x8, x9, x10, x11, x12⟩ := x
  obtain ⟨y0, y1, y2, y3, y4, y5, y6, y7, y8, y9, y10, y11, y12⟩ := y
  dsimp only at hx hy
  have HX := Lib.hid (And.intro hx hy)
  have g10 := F1.c0; have g14 := F1.c4; have g15 := F1.c5; have g16 := F1.c6; have g17 := F1.c7; have g18 := F1.c8; have g19 := F1.c9; have g1a := F1.c10
  have g20 := F2.c0; have g24 := F2.c4; have g25 := F2.c5; have g26 := F2.c6; have g27 := F2.c7; have g28 := F2.c8; have g29 := F2.c9; have g2a := F2.c10
  dsimp only at g10 g14 g15 g16 g17 g18 g19 g1a g20 g24 g25 g26 g27 g28 g29 g2a
  clear hx hy F1 F2
  obtain ⟨aa, ac, rfl, -⟩ := HX.out.1.form
  obtain ⟨ba, bc, rfl, -⟩ := HX.out.2.form
  have HE := Lib.hid (fun n => EqualAttrs_any _ _ _ _ (w.drewN n) (RAttrs.below HX.out.1 (Below.drewN (Below.refl _ _) n)) (RAttrs.below HX.out.2 (Below.drewN (Below.refl _ _) n)))
  clear HX
  have HE0 := HE
  clear HE
  go_enter Try.func106, Try.ntmps106
  go_wp2_with fail
  simp only [List.append_eq, List.cons_append, List.nil_append]
  refine wp_region_quiet_lit (by kernel_rfl) (by kernel_rfl) ?_
  by_cases b0 : x0 = y0
  · have u0 : (x0 == y0) = true := by simp [b0]
    have HB0 := Lib.hid b0
    clear b0
    by_cases b1 : x4 = y4
    · have u1 : (x4 == y4) = true := by simp [b1]
      have HB1 := Lib.hid b1
      clear b1
      by_cases b2 : x5 = y5
      · have u2 : (x5.toList == y5.toList) = true := by simp [b2]
        have HB2 := Lib.hid b2
        clear b2
        by_cases b3 : x6 = y6
        · have HE := Lib.hid (fun n => (HE0.out n).mono (fun e w' hh => show e = .returned (.bool true) ∧ _ from ⟨by rw [hh.1, decide_eq_true b3], hh.2⟩))
          have HB3 := Lib.hid b3
          clear b3
          by_cases b4 : x7 = y7
          · have u4 : (x7.toList == y7.toList) = true := by simp [b4]
            have HB4 := Lib.hid b4
            clear b4
            by_cases b5 : x8 = y8
            · have u5 : (x8.toList == y8.toList) = true := by simp [b5]
              have HB5 := Lib.hid b5
              clear b5
              by_cases b6 : x9 = y9
              · have u6 : (x9.toList == y9.toList) = true := by simp [b6]
                have HB6 := Lib.hid b6
                clear b6
                by_cases b7 : x10 = y10
                · have u7 : (x10 == y10) = true := by simp [b7]
                  have HB7 := Lib.hid b7
                  clear b7
                  (repeat (go_big_quiet_step ((first | (go_at_call 131; exact Calls.quiet_of (HE.out _))))))
                  refine wpQuiet_nil ?_
                  intro _ hw'
                  obtain ⟨nq, hw''⟩ := hw'
                  subst hw''
                  go_wp2
                  go_ret
                  exact ⟨ret_bool (decide_eq_true ⟨HB0.out, HB1.out, HB2.out, HB3.out, HB4.out, HB5.out, HB6.out, HB7.out⟩).symm, _, rfl⟩
                · have u7 : (x10 == y10) = false := by simp [b7]
                  have HB7 := Lib.hid b7
                  clear b7
                  (repeat (go_big_quiet_step ((first | (go_at_call 131; exact Calls.quiet_of (HE.out _))))))
                  refine wpQuiet_nil ?_
                  intro _ hw'
                  obtain ⟨nq, hw''⟩ := hw'
                  subst hw''
                  go_wp2
                  go_ret
                  exact ⟨ret_bool (decide_eq_false (fun h => HB7.out h.2.2.2.2.2.2.2)).symm, _, rfl⟩
              · have u6 : (x9.toList == y9.toList) = false := by rw [str_beq]; simp [b6]
                have HB6 := Lib.hid b6
                clear b6
                (repeat (go_big_quiet_step ((first | (go_at_call 131; exact Calls.quiet_of (HE.out _))))))
                refine wpQuiet_nil ?_
                intro _ hw'
                obtain ⟨nq, hw''⟩ := hw'
                subst hw''
                go_wp2
                go_ret
                exact ⟨ret_bool (decide_eq_false (fun h => HB6.out h.2.2.2.2.2.2.1)).symm, _, rfl⟩
            · have u5 : (x8.toList == y8.toList) = false := by rw [str_beq]; simp [b5]
              have HB5 := Lib.hid b5
              clear b5
              (repeat (go_big_quiet_step ((first | (go_at_call 131; exact Calls.quiet_of (HE.out _))))))
              refine wpQuiet_nil ?_
              intro _ hw'
              obtain ⟨nq, hw''⟩ := hw'
              subst hw''
              go_wp2
              go_ret
              exact ⟨ret_bool (decide_eq_false (fun h => HB5.out h.2.2.2.2.2.1)).symm, _, rfl⟩
          · have u4 : (x7.toList == y7.toList) = false := by rw [str_beq]; simp [b4]
            have HB4 := Lib.hid b4
            clear b4
            (repeat (go_big_quiet_step ((first | (go_at_call 131; exact Calls.quiet_of (HE.out _))))))
            refine wpQuiet_nil ?_
            intro _ hw'
            obtain ⟨nq, hw''⟩ := hw'
            subst hw''
            go_wp2
            go_ret
            exact ⟨ret_bool (decide_eq_false (fun h => HB4.out h.2.2.2.2.1)).symm, _, rfl⟩
        · have HE := Lib.hid (fun n => (HE0.out n).mono (fun e w' hh => show e = .returned (.bool false) ∧ _ from ⟨by rw [hh.1, decide_eq_false b3], hh.2⟩))
          have HB3 := Lib.hid b3
          clear b3
          (repeat (go_big_quiet_step ((first | (go_at_call 131; exact Calls.quiet_of (HE.out _))))))
          refine wpQuiet_nil ?_
          intro _ hw'
          obtain ⟨nq, hw''⟩ := hw'
          subst hw''
          go_wp2
          go_ret
          exact ⟨ret_bool (decide_eq_false (fun h => HB3.out h.2.2.2.1)).symm, _, rfl⟩
      · have u2 : (x5.toList == y5.toList) = false := by rw [str_beq]; simp [b2]
        have HB2 := Lib.hid b2
        clear b2
        (repeat (go_big_quiet_step ((fail))))
        refine wpQuiet_nil ?_
        intro _ hw'
        obtain ⟨nq, hw''⟩ := hw'
        subst hw''
        go_wp2
        go_ret
        exact ⟨ret_bool (decide_eq_false (fun h => HB2.out h.2.2.1)).symm, _, rfl⟩
    · have u1 : (x4 == y4) = false := by simp [b1]
      have HB1 := Lib.hid b1
      clear b1
      (repeat (go_big_quiet_step ((fail))))
      refine wpQuiet_nil ?_
      intro _ hw'
      obtain ⟨nq, hw''⟩ := hw'
      subst hw''
      go_wp2
      go_ret
      exact ⟨ret_bool (decide_eq_false (fun h => HB1.out h.2.1)).symm, _, rfl⟩
  · have u0 : (x0 == y0) = false := by simp [b0]
    have HB0 := Lib.hid b0
    clear b0
    (repeat (go_big_quiet_step ((fail))))
    refine wpQuiet_nil ?_
    intro _ hw'
    obtain ⟨nq, hw''⟩ := hw'
    subst hw''
    go_wp2
    go_ret
    exact ⟨ret_bool (decide_eq_false (fun h => HB0.out h.1)).symm, _, rfl⟩

end Go.Proofs.Ytnfdcfagdidmhaa
