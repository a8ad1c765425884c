/-
  The arena's Same: whether two nodes have equal trees.
-/
import Derived.Test.YtpicinjcmjaogaaGreatK22
namespace Go.Proofs.YtpicinjcmjaogaaGreat
open Go.RowKit Classical
set_option linter.unusedVariables false

theorem AMem.drewN {w : World} {ρ : Nat → Nat} {b : Nat} {A : Ar} (h : AMem w ρ b A) (n : Nat) : AMem (w.drewN n) ρ b A := h.below (Below.drewN (Below.refl _ _) n)
/-- Only the tape has been drawn from. -/
def DrewOf (w w' : World) : Prop := ∃ m, w' = w.drewN m
theorem DrewOf.refl (w : World) : DrewOf w w := ⟨0, rfl⟩
theorem DrewOf.step {w W : World} (h : DrewOf w W) (n : Nat) : DrewOf w (W.drewN n) := by
  obtain ⟨m, rfl⟩ := h
  exact ⟨m + n, by simp⟩
theorem DrewOf.below {w W : World} (h : DrewOf w W) : Below w.heap.size w W := by
  obtain ⟨m, rfl⟩ := h
  exact Below.drewN (Below.refl _ _) m
theorem DrewOf.cell {w W : World} (h : DrewOf w W) {p : Addr} {v : Value} (hv : w.cell? p = some v) : W.cell? p = some v := Below.old h.below hv

set_option maxRecDepth 100000 in
set_option maxHeartbeats 10000000 in
theorem Same_has (A B : Ar) (ρ σ : Nat → Nat) (b c : Nat) (hI : A.Inv) (hJ : B.Inv) : ∀ h, A.has h → ∀ k w, AMem w ρ b A → AMem w σ c B →
    Calls Tryz.prog 72 #[.pointer (some ⟨b, 0, none⟩), .int .i64 h, .pointer (some ⟨c, 0, none⟩), .int .i64 k] w fun e w' => e = .returned (.bool (decide (AlkP A B h k))) ∧ ∃ m, w' = w.drewN m := by
  refine walk_ind hI (fun h hh ihc ihk k w hA hB => ?_)
  obtain ⟨a1, c1, m1, g1, -, -, hb1, hm1, hN1⟩ := hA.head
  obtain ⟨a2, c2, m2, g2, -, -, hb2, hm2, hN2⟩ := hB.head
  have hd1 : decide (A.has h) = true := by simp [hh]
  by_cases hk : B.has k
  · have hd2 : decide (B.has k) = true := by simp [hk]
    obtain ⟨n1, rfl, -, -, -, hX1⟩ := hN1 (by have := hh.1; have := hh.2; unfold Ar.n at this; omega)
    obtain ⟨n2, rfl, -, -, -, hX2⟩ := hN2 (by have := hk.1; have := hk.2; unfold Ar.n at this; omega)
    obtain ⟨kv, av, F1, hK1, hA1⟩ := hX1 h hh
    obtain ⟨kv', av', F2, hK2, hA2⟩ := hX2 k hk
    have HE := Lib.hid (fun n => arenaAlike_any (A.get h) (B.get k) kv av kv' av' n1 _ n2 _ (w.drewN n) (F1.below (Below.drewN (Below.refl _ _) n)) (F2.below (Below.drewN (Below.refl _ _) n)) (RAttrs.below hA1.reads (Below.drewN (Below.refl _ _) n)) (RAttrs.below hA2.reads (Below.drewN (Below.refl _ _) n)))
    have HIC := Lib.hid (fun hc W (hW : DrewOf w W) => ihc hc (B.get k).contents W (hA.below hW.below) (hB.below hW.below))
    have HIK := Lib.hid (fun x hx y W (hW : DrewOf w W) => ihk x hx y W (hA.below hW.below) (hB.below hW.below))
    have f2 := F1.c2; have f11 := F1.c11
    have e2 := F2.c2; have e11 := F2.c11
    have HR1 := Lib.hid (show RInts w kv (A.get h).kids from hK1.reads)
    have HR2 := Lib.hid (show RInts w kv' (B.get k).kids from hK2.reads)
    obtain ⟨ka, kc, rfl, kl1, kl2, -⟩ := HR1.out.form
    obtain ⟨ka', kc', rfl, kl3, kl4, -⟩ := HR2.out.form
    have h1 := hh.1; have h2 := hh.2; have h3 := hk.1; have h4 := hk.2
    unfold Ar.n at h2 h4
    have HH := Lib.hid (And.intro hh hk)
    have HA1 := Lib.hid (has_any A b _ c1 h w g1)
    have HA2 := Lib.hid (has_any B c _ c2 k w g2)
    have HAT1 := Lib.hid (at_any b n1 A.ns.length c1 h w g1 h1 h2 hm1)
    have HAT2 := Lib.hid (at_any c n2 B.ns.length c2 k w g2 h3 h4 hm2)
    clear hA hB hX1 hX2 hK1 hK2 hA1 hA2 F1 F2 ihc ihk hN1 hN2 hh hk
    by_cases q1 : alikeP (A.get h) (B.get k)
    · have HE1 := Lib.hid (fun n => (HE.out n).mono (fun e w' hh => show e = .returned (.bool true) ∧ _ from ⟨by rw [hh.1, decide_eq_true q1], hh.2⟩))
      have HQ1 := Lib.hid q1
      clear q1 HE
      by_cases q2 : (A.get h).kids.length = (B.get k).kids.length
      · have u2 : ((((A.get h).kids.length : Int)) != ((B.get k).kids.length : Int)) = false := by simp [q2]
        have HQ2 := Lib.hid q2
        clear q2
        by_cases q3 : (A.get h).contents = 0 ↔ (B.get k).contents = 0
        · have u3 : (((A.get h).contents == 0) != ((B.get k).contents == 0)) = false := by
            by_cases z : (A.get h).contents = 0
            · simp [z, q3.1 z]
            · rw [beq_eq_false_iff_ne.2 z, beq_eq_false_iff_ne.2 (fun y => z (q3.2 y))]; rfl
          have u3' : (!(((A.get h).contents == 0) == ((B.get k).contents == 0))) = false := u3
          have HQ3 := Lib.hid q3
          clear q3
          by_cases z1 : (A.get h).contents = 0
          · have z2 : (B.get k).contents = 0 := HQ3.out.1 z1
            have v1 : ((A.get h).contents != 0) = false := by simp [z1]
            have HCON : Hid ((A.get h).contents ≠ 0 → AlkP A B (A.get h).contents (B.get k).contents) := Lib.hid (fun hc => absurd z1 hc)
            clear z1 z2
            go_enter Tryz.func72, Tryz.ntmps72
            go_wp2_with fail
            refine HA1.out.mono ?_
            rintro e w' ⟨rfl, rfl⟩
            rw [hd1]
            go_wp2_with fail
            refine HA2.out.mono ?_
            rintro e w' ⟨rfl, rfl⟩
            rw [hd2]
            go_wp2_with fail
            refine HAT1.out.mono ?_
            rintro e w' ⟨rfl, rfl⟩
            go_wp2_with fail
            refine HAT2.out.mono ?_
            rintro e w' ⟨rfl, rfl⟩
            go_wp2_with fail
            go_quiet (first | (go_at_call 146; exact Calls.quiet_of (HE1.out _)))
            generalize hW1 : w.drewN nq = W1 at *
            have HW1 : Hid (DrewOf w W1) := Lib.hid ⟨_, hW1.symm⟩
            clear hW1
            have f2' := HW1.out.cell f2; have f11' := HW1.out.cell f11; have e2' := HW1.out.cell e2; have e11' := HW1.out.cell e11
            go_wp2_with fail
            go_quiet (fail)
            generalize hW2 : W1.drewN _ = W2 at *
            have HW2 : Hid (DrewOf w W2) := Lib.hid (by rw [← hW2]; exact HW1.out.step _)
            clear hW2 f2' f11' e2' e11'
            have f2' := HW2.out.cell f2; have f11' := HW2.out.cell f11; have e2' := HW2.out.cell e2; have e11' := HW2.out.cell e11
            go_wp2
            go_loopw [94] (fun i wr => ∃ k' : Nat, k' ≤ (A.get h).kids.length ∧ i = .int .i64 k' ∧ Hid (∀ (j : Nat) (x y : Int), j < k' → (A.get h).kids[j]? = some x → (B.get k).kids[j]? = some y → AlkP A B x y) ∧ Hid (DrewOf w wr)) (fun i _ => (A.get h).kids.length - (intOf i).toNat)
            case atStart => exact ⟨0, Nat.zero_le _, rfl, fun j x y hj => by omega, HW2.out⟩
            case round =>
              obtain ⟨k', hk', rfl, hT, hW⟩ := hrel
              have r2 := hW.out.cell f2
              have s2 := hW.out.cell e2
              clear f2 e2
              by_cases hlt : k' < (A.get h).kids.length
              · have hlt2 : k' < (B.get k).kids.length := by have := HQ2.out; omega
                obtain ⟨kb1, ko1, rfl, -, hcs1⟩ := (RInts.below HR1.out hW.out.below).cells (by omega)
                obtain ⟨kb2, ko2, rfl, -, hcs2⟩ := (RInts.below HR2.out hW.out.below).cells (by omega)
                obtain ⟨x, hx⟩ : ∃ x, (A.get h).kids[k']? = some x := ⟨_, List.getElem?_eq_getElem hlt⟩
                obtain ⟨y, hy⟩ : ∃ y, (B.get k).kids[k']? = some y := ⟨_, List.getElem?_eq_getElem hlt2⟩
                have t1 := hcs1 k' x hx
                have t2 := hcs2 k' y hy
                have HX := Lib.hid (And.intro hx hy)
                have HS := Lib.hid (fun n => HIK.out x (List.mem_of_getElem? hx) y (wr.drewN n) (hW.out.step n))
                clear hcs1 hcs2 hx hy HIK HIC HR1 HR2
                by_cases q5 : AlkP A B x y
                · have HS1 := Lib.hid (fun n => (HS.out n).mono (fun e w' hh => show e = .returned (.bool true) ∧ _ from ⟨by rw [hh.1, decide_eq_true q5], hh.2⟩))
                  have HQ5 := Lib.hid q5
                  clear q5 HS
                  go_wp2_with fail
                  go_quiet (first | (go_at_call 72; exact Calls.quiet_of (HS1.out _)))
                  go_wp2
                  go_roundw
                  case rel => exact ⟨k' + 1, hlt, by go_num, fun j x' y' hj hx' hy' => by
                    by_cases hjk : j < k'
                    · exact hT.out j x' y' hjk hx' hy'
                    · have : j = k' := by omega
                      subst this
                      rw [HX.out.1] at hx'; rw [HX.out.2] at hy'
                      injection hx' with hx'; injection hy' with hy'
                      rw [← hx', ← hy']; exact HQ5.out, hW.out.step _⟩
                  case measure => simp [intOf]; omega
                · have HS1 := Lib.hid (fun n => (HS.out n).mono (fun e w' hh => show e = .returned (.bool false) ∧ _ from ⟨by rw [hh.1, decide_eq_false q5], hh.2⟩))
                  have HQ5 := Lib.hid q5
                  clear q5 HS
                  go_wp2_with fail
                  go_quiet (first | (go_at_call 72; exact Calls.quiet_of (HS1.out _)))
                  go_wp2
                  go_ret
                  exact ⟨ret_bool (decide_eq_false (fun h => HQ5.out (h.inv.2.2.2.2.2.2 k' x y HX.out.1 HX.out.2))).symm, hW.out.step _⟩
              · have HT := Lib.hid (fun (j : Nat) (x y : Int) (hx : (A.get h).kids[j]? = some x) (hy : (B.get k).kids[j]? = some y) => hT.out j x y (by have := (List.getElem?_eq_some_iff.1 hx).1; omega) hx hy)
                clear hT
                go_wp2
                go_ret
                exact ⟨ret_bool (decide_eq_true (AlkP.mk HH.out.1 HH.out.2 HQ1.out HQ2.out HQ3.out HCON.out HT.out)).symm, hW.out⟩
          · by_cases z3 : AlkP A B (A.get h).contents (B.get k).contents
            · have v1 : ((A.get h).contents != 0) = true := by simp [z1]
              have HIC1 := Lib.hid (fun W (hW : DrewOf w W) => (HIC.out z1 W hW).mono (fun e w' hh => show e = .returned (.bool true) ∧ _ from ⟨by rw [hh.1, decide_eq_true z3], hh.2⟩))
              have HZ1 := Lib.hid z1
              have HZ3 := Lib.hid z3
              clear z1 z3
              go_enter Tryz.func72, Tryz.ntmps72
              go_wp2_with fail
              refine HA1.out.mono ?_
              rintro e w' ⟨rfl, rfl⟩
              rw [hd1]
              go_wp2_with fail
              refine HA2.out.mono ?_
              rintro e w' ⟨rfl, rfl⟩
              rw [hd2]
              go_wp2_with fail
              refine HAT1.out.mono ?_
              rintro e w' ⟨rfl, rfl⟩
              go_wp2_with fail
              refine HAT2.out.mono ?_
              rintro e w' ⟨rfl, rfl⟩
              go_wp2_with fail
              go_quiet (first | (go_at_call 146; exact Calls.quiet_of (HE1.out _)))
              generalize hW1 : w.drewN nq = W1 at *
              have HW1 : Hid (DrewOf w W1) := Lib.hid ⟨_, hW1.symm⟩
              clear hW1
              have f2' := HW1.out.cell f2; have f11' := HW1.out.cell f11; have e2' := HW1.out.cell e2; have e11' := HW1.out.cell e11
              go_wp2_with fail
              go_quiet (first | (go_at_call 72; exact Calls.quiet_of (HIC1.out _ (HW1.out.step _))))
              generalize hW2 : W1.drewN _ = W2 at *
              have HW2 : Hid (DrewOf w W2) := Lib.hid (by rw [← hW2]; exact HW1.out.step _)
              clear hW2 f2' f11' e2' e11'
              have f2' := HW2.out.cell f2; have f11' := HW2.out.cell f11; have e2' := HW2.out.cell e2; have e11' := HW2.out.cell e11
              have HCON : Hid ((A.get h).contents ≠ 0 → AlkP A B (A.get h).contents (B.get k).contents) := Lib.hid (fun _ => HZ3.out)
              go_wp2
              go_loopw [94] (fun i wr => ∃ k' : Nat, k' ≤ (A.get h).kids.length ∧ i = .int .i64 k' ∧ Hid (∀ (j : Nat) (x y : Int), j < k' → (A.get h).kids[j]? = some x → (B.get k).kids[j]? = some y → AlkP A B x y) ∧ Hid (DrewOf w wr)) (fun i _ => (A.get h).kids.length - (intOf i).toNat)
              case atStart => exact ⟨0, Nat.zero_le _, rfl, fun j x y hj => by omega, HW2.out⟩
              case round =>
                obtain ⟨k', hk', rfl, hT, hW⟩ := hrel
                have r2 := hW.out.cell f2
                have s2 := hW.out.cell e2
                clear f2 e2
                by_cases hlt : k' < (A.get h).kids.length
                · have hlt2 : k' < (B.get k).kids.length := by have := HQ2.out; omega
                  obtain ⟨kb1, ko1, rfl, -, hcs1⟩ := (RInts.below HR1.out hW.out.below).cells (by omega)
                  obtain ⟨kb2, ko2, rfl, -, hcs2⟩ := (RInts.below HR2.out hW.out.below).cells (by omega)
                  obtain ⟨x, hx⟩ : ∃ x, (A.get h).kids[k']? = some x := ⟨_, List.getElem?_eq_getElem hlt⟩
                  obtain ⟨y, hy⟩ : ∃ y, (B.get k).kids[k']? = some y := ⟨_, List.getElem?_eq_getElem hlt2⟩
                  have t1 := hcs1 k' x hx
                  have t2 := hcs2 k' y hy
                  have HX := Lib.hid (And.intro hx hy)
                  have HS := Lib.hid (fun n => HIK.out x (List.mem_of_getElem? hx) y (wr.drewN n) (hW.out.step n))
                  clear hcs1 hcs2 hx hy HIK HIC HR1 HR2
                  by_cases q5 : AlkP A B x y
                  · have HS1 := Lib.hid (fun n => (HS.out n).mono (fun e w' hh => show e = .returned (.bool true) ∧ _ from ⟨by rw [hh.1, decide_eq_true q5], hh.2⟩))
                    have HQ5 := Lib.hid q5
                    clear q5 HS
                    go_wp2_with fail
                    go_quiet (first | (go_at_call 72; exact Calls.quiet_of (HS1.out _)))
                    go_wp2
                    go_roundw
                    case rel => exact ⟨k' + 1, hlt, by go_num, fun j x' y' hj hx' hy' => by
                      by_cases hjk : j < k'
                      · exact hT.out j x' y' hjk hx' hy'
                      · have : j = k' := by omega
                        subst this
                        rw [HX.out.1] at hx'; rw [HX.out.2] at hy'
                        injection hx' with hx'; injection hy' with hy'
                        rw [← hx', ← hy']; exact HQ5.out, hW.out.step _⟩
                    case measure => simp [intOf]; omega
                  · have HS1 := Lib.hid (fun n => (HS.out n).mono (fun e w' hh => show e = .returned (.bool false) ∧ _ from ⟨by rw [hh.1, decide_eq_false q5], hh.2⟩))
                    have HQ5 := Lib.hid q5
                    clear q5 HS
                    go_wp2_with fail
                    go_quiet (first | (go_at_call 72; exact Calls.quiet_of (HS1.out _)))
                    go_wp2
                    go_ret
                    exact ⟨ret_bool (decide_eq_false (fun h => HQ5.out (h.inv.2.2.2.2.2.2 k' x y HX.out.1 HX.out.2))).symm, hW.out.step _⟩
                · have HT := Lib.hid (fun (j : Nat) (x y : Int) (hx : (A.get h).kids[j]? = some x) (hy : (B.get k).kids[j]? = some y) => hT.out j x y (by have := (List.getElem?_eq_some_iff.1 hx).1; omega) hx hy)
                  clear hT
                  go_wp2
                  go_ret
                  exact ⟨ret_bool (decide_eq_true (AlkP.mk HH.out.1 HH.out.2 HQ1.out HQ2.out HQ3.out HCON.out HT.out)).symm, hW.out⟩
            · have v1 : ((A.get h).contents != 0) = true := by simp [z1]
              have HIC1 := Lib.hid (fun W (hW : DrewOf w W) => (HIC.out z1 W hW).mono (fun e w' hh => show e = .returned (.bool false) ∧ _ from ⟨by rw [hh.1, decide_eq_false z3], hh.2⟩))
              have HZ1 := Lib.hid z1
              have HZ3 := Lib.hid z3
              clear z1 z3
              go_enter Tryz.func72, Tryz.ntmps72
              go_wp2_with fail
              refine HA1.out.mono ?_
              rintro e w' ⟨rfl, rfl⟩
              rw [hd1]
              go_wp2_with fail
              refine HA2.out.mono ?_
              rintro e w' ⟨rfl, rfl⟩
              rw [hd2]
              go_wp2_with fail
              refine HAT1.out.mono ?_
              rintro e w' ⟨rfl, rfl⟩
              go_wp2_with fail
              refine HAT2.out.mono ?_
              rintro e w' ⟨rfl, rfl⟩
              go_wp2_with fail
              go_quiet (first | (go_at_call 146; exact Calls.quiet_of (HE1.out _)))
              generalize hW1 : w.drewN nq = W1 at *
              have HW1 : Hid (DrewOf w W1) := Lib.hid ⟨_, hW1.symm⟩
              clear hW1
              have f2' := HW1.out.cell f2; have f11' := HW1.out.cell f11; have e2' := HW1.out.cell e2; have e11' := HW1.out.cell e11
              go_wp2_with fail
              go_quiet (first | (go_at_call 72; exact Calls.quiet_of (HIC1.out _ (HW1.out.step _))))
              go_wp2
              go_ret
              exact ⟨ret_bool (decide_eq_false (fun h => HZ3.out (h.inv.2.2.2.2.2.1 HZ1.out))).symm, HW1.out.step _⟩
        · have u3 : (((A.get h).contents == 0) != ((B.get k).contents == 0)) = true := by
            by_cases z : (A.get h).contents = 0
            · by_cases y : (B.get k).contents = 0
              · exact absurd (by simp [z, y]) q3
              · simp [z, y]
            · by_cases y : (B.get k).contents = 0
              · simp [z, y]
              · exact absurd (by simp [z, y]) q3
          have u3' : (!(((A.get h).contents == 0) == ((B.get k).contents == 0))) = true := u3
          have HQ3 := Lib.hid q3
          clear q3
          go_enter Tryz.func72, Tryz.ntmps72
          go_wp2_with fail
          refine HA1.out.mono ?_
          rintro e w' ⟨rfl, rfl⟩
          rw [hd1]
          go_wp2_with fail
          refine HA2.out.mono ?_
          rintro e w' ⟨rfl, rfl⟩
          rw [hd2]
          go_wp2_with fail
          refine HAT1.out.mono ?_
          rintro e w' ⟨rfl, rfl⟩
          go_wp2_with fail
          refine HAT2.out.mono ?_
          rintro e w' ⟨rfl, rfl⟩
          go_wp2_with fail
          go_quiet (first | (go_at_call 146; exact Calls.quiet_of (HE1.out _)))
          go_wp2
          go_ret
          exact ⟨ret_bool (decide_eq_false (fun h => HQ3.out h.inv.2.2.2.2.1)).symm, _, rfl⟩
      · have u2 : ((((A.get h).kids.length : Int)) != ((B.get k).kids.length : Int)) = true := by simp; omega
        have HQ2 := Lib.hid q2
        clear q2
        go_enter Tryz.func72, Tryz.ntmps72
        go_wp2_with fail
        refine HA1.out.mono ?_
        rintro e w' ⟨rfl, rfl⟩
        rw [hd1]
        go_wp2_with fail
        refine HA2.out.mono ?_
        rintro e w' ⟨rfl, rfl⟩
        rw [hd2]
        go_wp2_with fail
        refine HAT1.out.mono ?_
        rintro e w' ⟨rfl, rfl⟩
        go_wp2_with fail
        refine HAT2.out.mono ?_
        rintro e w' ⟨rfl, rfl⟩
        go_wp2_with fail
        go_quiet (first | (go_at_call 146; exact Calls.quiet_of (HE1.out _)))
        go_wp2
        go_ret
        exact ⟨ret_bool (decide_eq_false (fun h => HQ2.out h.inv.2.2.2.1)).symm, _, rfl⟩
    · have HE1 := Lib.hid (fun n => (HE.out n).mono (fun e w' hh => show e = .returned (.bool false) ∧ _ from ⟨by rw [hh.1, decide_eq_false q1], hh.2⟩))
      have HQ1 := Lib.hid q1
      clear q1 HE
      go_enter Tryz.func72, Tryz.ntmps72
      go_wp2_with fail
      refine HA1.out.mono ?_
      rintro e w' ⟨rfl, rfl⟩
      rw [hd1]
      go_wp2_with fail
      refine HA2.out.mono ?_
      rintro e w' ⟨rfl, rfl⟩
      rw [hd2]
      go_wp2_with fail
      refine HAT1.out.mono ?_
      rintro e w' ⟨rfl, rfl⟩
      go_wp2_with fail
      refine HAT2.out.mono ?_
      rintro e w' ⟨rfl, rfl⟩
      go_wp2_with fail
      go_quiet (first | (go_at_call 146; exact Calls.quiet_of (HE1.out _)))
      go_wp2
      go_ret
      exact ⟨ret_bool (decide_eq_false (fun h => HQ1.out h.inv.2.2.1)).symm, _, rfl⟩
  · have hd2 : decide (B.has k) = false := by simp [hk]
    have HK := Lib.hid hk
    clear hk hN1 hN2
    have HA2 := Lib.hid (has_any B c _ c2 k w g2)
    have HA1 := Lib.hid (has_any A b _ c1 h w g1)
    go_enter Tryz.func72, Tryz.ntmps72
    go_wp2_with fail
    refine HA1.out.mono ?_
    rintro e w' ⟨rfl, rfl⟩
    rw [hd1]
    go_wp2_with fail
    refine HA2.out.mono ?_
    rintro e w' ⟨rfl, rfl⟩
    rw [hd2]
    go_wp2
    go_ret
    exact ⟨ret_bool (decide_eq_false (fun h => HK.out h.inv.2.1)).symm, 0, rfl⟩

theorem Same_any (A B : Ar) (ρ σ : Nat → Nat) (b c : Nat) (hI : A.Inv) (hJ : B.Inv) (h k : Int) (w : World) (hA : AMem w ρ b A) (hB : AMem w σ c B) :
    Calls Tryz.prog 72 #[.pointer (some ⟨b, 0, none⟩), .int .i64 h, .pointer (some ⟨c, 0, none⟩), .int .i64 k] w fun e w' => e = .returned (.bool (decide (AlkP A B h k))) ∧ ∃ m, w' = w.drewN m := by
  by_cases hh : A.has h
  · exact Same_has A B ρ σ b c hI hJ h hh k w hA hB
  · obtain ⟨a1, c1, m1, g1, -⟩ := hA.head
    have hd1 : decide (A.has h) = false := by simp [hh]
    have HK := Lib.hid hh
    have HA1 := Lib.hid (has_any A b _ c1 h w g1)
    clear hh hA hB
    go_enter Tryz.func72, Tryz.ntmps72
    go_wp2_with fail
    refine HA1.out.mono ?_
    rintro e w' ⟨rfl, rfl⟩
    rw [hd1]
    go_wp2
    go_ret
    exact ⟨ret_bool (decide_eq_false (fun h => HK.out h.inv.1)).symm, 0, rfl⟩

end Go.Proofs.YtpicinjcmjaogaaGreat
