/-
  Contracts of the document's arena: SetAttrs, Cut.
-/
import Derived.Test.YtnfdcfagdidmhaaGreatDoorR7
namespace Go.Proofs.YtnfdcfagdidmhaaGreatDoor
open Go.RowKit
set_option linter.unusedVariables false

/-- A new list of attributes is stored. -/
theorem RMem.setAttrsRow {w w2 : World} {ρ : Nat → Nat} {b : Nat} {A : Ar} {x : Int} {nb c : Nat} {v : Value} {l : List AttrD} (hA : RMem w ρ b A) (hx : A.has x)
    (hc0 : w.cell? ⟨b, 0, none⟩ = some (.slice (some ⟨nb, 0, none⟩) (A.ns.length + 1) c)) (hB : Below w.heap.size w w2) (ho : w2.ownsRow w.heap.size 123 3 v l.length (l.flatMap attrCells)) :
    ∃ ρ', RMem (w2.setCell ⟨nb, x.toNat * 13 + 6, none⟩ v) ρ' b (A.mod x (fun n => { n with attrs := l })) ∧ Turn ρ ρ' w (w2.setCell ⟨nb, x.toNat * 13 + 6, none⟩ v) := by
  have hnew := owns_block ho
  have hr : ∀ k, k < w.heap.size → (fun k => if v.ownBlock = some k then 2 * x.toNat + 5 else ρ k) k = ρ k := fun k hk => by
    dsimp only; rw [if_neg (fun e => by have := (hnew k e).1; omega)]
  refine ⟨_, RMem.store (f := fun n => { n with attrs := l }) (j := 6) (v := v) (ρ' := fun k => if v.ownBlock = some k then 2 * x.toNat + 5 else ρ k) hA hx hc0 (Upd.below hB) hr (fun k hk => ?_) (by omega) (fun kv av h1 h2 _ _ => ?_)⟩
  · try dsimp only at hk
    split at hk
    · rename_i e; exact (hnew k e).2
    · exact Nat.lt_of_lt_of_le (hA.1 k hk) hB.size
  · refine ⟨kv, v, rfl, (h1.role hr).upd (F := fun _ => False) (Upd.below hB) (fun _ _ => id), ⟨owns_base ho (Nat.zero_le _), fun g hg => ?_⟩⟩
    try dsimp only
    rw [if_pos hg]
/-- A new list of children is stored. -/
theorem RMem.setKidsRow {w w2 : World} {ρ : Nat → Nat} {b : Nat} {A : Ar} {x : Int} {nb c : Nat} {v : Value} {l : List Int} (hA : RMem w ρ b A) (hx : A.has x)
    (hc0 : w.cell? ⟨b, 0, none⟩ = some (.slice (some ⟨nb, 0, none⟩) (A.ns.length + 1) c)) (hB : Below w.heap.size w w2) (ho : w2.ownsRow w.heap.size 3 1 v l.length (l.map intv)) :
    ∃ ρ', RMem (w2.setCell ⟨nb, x.toNat * 13 + 2, none⟩ v) ρ' b (A.mod x (fun n => { n with kids := l })) ∧ Turn ρ ρ' w (w2.setCell ⟨nb, x.toNat * 13 + 2, none⟩ v) := by
  have hnew := owns_block ho
  have hr : ∀ k, k < w.heap.size → (fun k => if v.ownBlock = some k then 2 * x.toNat + 4 else ρ k) k = ρ k := fun k hk => by
    dsimp only; rw [if_neg (fun e => by have := (hnew k e).1; omega)]
  refine ⟨_, RMem.store (f := fun n => { n with kids := l }) (j := 2) (v := v) (ρ' := fun k => if v.ownBlock = some k then 2 * x.toNat + 4 else ρ k) hA hx hc0 (Upd.below hB) hr (fun k hk => ?_) (by omega) (fun kv av h1 h2 _ _ => ?_)⟩
  · try dsimp only at hk
    split at hk
    · rename_i e; exact (hnew k e).2
    · exact Nat.lt_of_lt_of_le (hA.1 k hk) hB.size
  · refine ⟨v, av, rfl, ⟨owns_base ho (Nat.zero_le _), fun g hg => ?_⟩, (h2.role hr).upd (F := fun _ => False) (Upd.below hB) (fun _ _ => id)⟩
    try dsimp only
    rw [if_pos hg]

set_option maxRecDepth 100000 in
set_option maxHeartbeats 2000000 in
theorem RSetAttrs_any (A : Ar) (ρ : Nat → Nat) (b : Nat) (h : Int) (v : Value) (l : List AttrD) (w : World) (hA : RMem w ρ b A) (hv : RAttrs w v l) (hl : l.length ≤ 1000000) :
    Calls Tryz.prog 80 #[.pointer (some ⟨b, 0, none⟩), .int .i64 h, v] w (RAddR (A.setAttrs h l).2 ρ b w (.int .i64 (A.setAttrs h l).1)) := by
  obtain ⟨nb, c, h0, hm, hc, hfn, hnb, HH0, hN⟩ := hA.look
  have HH := Lib.hid HH0
  clear HH0
  have HS := Lib.hid (AttrSpaces_any v l w hv)
  have HO := Lib.hid (fun W (hW : Below w.heap.size w W) => ROnce_any v l W (hv.below hW) hl)
  have hnbl : nb < w.heap.size := hA.1 nb (by omega)
  have hbn : nb ≠ b := fun e => by have := hA.2.1; rw [← e] at this; omega
  obtain ⟨va, vc, rfl, -⟩ := hv.form
  clear hv
  by_cases hh : A.has h
  · have hd : decide (A.has h) = true := by simp [hh]
    obtain ⟨hp, hq, kv, av, F, -, -⟩ := hN h hh
    have c0 := F.c0
    have c6 := F.c6
    have f6 := hfn (h.toNat * 13 + 6)
    by_cases hk : (A.get h).kind = 4
    · rw [hk] at c0
      by_cases hs : attrSpaces l
      · have hd2 : decide (attrSpaces l) = true := by simp [hs]
        have e : A.setAttrs h l = (0, A.mod h (fun x => { x with attrs := onceL l })) := by unfold Ar.setAttrs; rw [if_neg (by simp [hh]), if_neg (by simp [hk]), if_neg (by simp [hs])]
        rw [e]
        have HST := Lib.hid (fun (w2 : World) (v : Value) (hB : Below w.heap.size w w2) ho => hA.setAttrsRow (l := onceL l) (w2 := w2) (v := v) hh h0 hB ho)
        clear e F hN hh hfn hA hk hs
        go_enter Tryz.func80, Tryz.ntmps80
        go_wp2_with fail
        refine (HH.out _ _ h0).mono ?_
        rintro e w' ⟨rfl, rfl⟩
        rw [hd]
        go_wp2_with fail
        refine HS.out.mono ?_
        rintro e w' ⟨rfl, rfl⟩
        rw [hd2]
        go_wp2
        have hx0 : (0 : Int) ≤ h := by omega
        have hx1 : h < ((A.ns.length + 1 : Nat) : Int) := by omega
        have hx2 : h < (A.ns.length : Int) + 1 := by omega
        go_region_held3 (fun w' => w'.cell? ⟨b, 0, none⟩ = some (.slice (some ⟨nb, 0, none⟩) (A.ns.length + 1) c)) (first | exact h0 | exact g0 | exact gs0)
          (first
          | (go_at_call 105; refine (HO.out _ (Below.drew (Below.refl _ _))).mono ?_
             rintro e w2 ⟨hB2, v', rfl, ho⟩
             have hB3 : Below w.heap.size w w2 := (Below.drew (Below.refl w.heap.size w)).trans (hB2.mono (by simp))
             obtain ⟨va', vc', rfl⟩ := ownsForm ho
             have g0 := Below.old hB3 h0
             have g6 := Below.old hB3 c6
             have gf6 := (Below.frozen hB3 (p := ⟨nb, h.toNat * 13 + 6, none⟩) hnbl).trans f6
             have gs0 : (w2.setCell ⟨nb, h.toNat * 13 + 6, none⟩ (.slice va' (onceL l).length vc')).cell? ⟨b, 0, none⟩ = some (.slice (some ⟨nb, 0, none⟩) (A.ns.length + 1) c) := (World.cell?_setCell_other _ _ _ _ (fun e => hbn (congrArg Addr.block e))).trans g0))
        all_goals
          obtain ⟨ρ', hR, hT⟩ := HST.out w2 _ hB3 ho
          have HF := Lib.hid (And.intro hR hT)
          clear hR hT ho
          go_wp2
          go_ret
          exact ⟨rfl, ρ', HF.out.1, HF.out.2⟩
      · have hd2 : decide (attrSpaces l) = false := by simp [hs]
        have e : A.setAttrs h l = (2, A) := by unfold Ar.setAttrs; rw [if_neg (by simp [hh]), if_neg (by simp [hk]), if_pos hs]
        rw [e]
        have HA := Lib.hid hA
        clear e F hN hh hfn hA hk hs
        go_enter Tryz.func80, Tryz.ntmps80
        go_wp2_with fail
        refine (HH.out _ _ h0).mono ?_
        rintro e w' ⟨rfl, rfl⟩
        rw [hd]
        go_wp2_with fail
        refine HS.out.mono ?_
        rintro e w' ⟨rfl, rfl⟩
        rw [hd2]
        go_wp2
        go_ret
        exact raddr_same HA.out
    · have hk1 : ((A.get h).kind != 4) = true := by simpa using hk
      have e : A.setAttrs h l = (9, A) := by unfold Ar.setAttrs; rw [if_neg (by simp [hh]), if_pos hk]
      rw [e]
      have HA := Lib.hid hA
      clear e F hN hh hfn hA hk
      go_enter Tryz.func80, Tryz.ntmps80
      go_wp2_with fail
      refine (HH.out _ _ h0).mono ?_
      rintro e w' ⟨rfl, rfl⟩
      rw [hd]
      go_wp2
      go_ret
      exact raddr_same HA.out
  · have hd : decide (A.has h) = false := by simp [hh]
    have e : A.setAttrs h l = (3, A) := by unfold Ar.setAttrs; rw [if_pos hh]
    rw [e]
    have HA := Lib.hid hA
    clear e hN hh hfn hA
    go_enter Tryz.func80, Tryz.ntmps80
    go_wp2_with fail
    refine (HH.out _ _ h0).mono ?_
    rintro e w' ⟨rfl, rfl⟩
    rw [hd]
    go_wp2
    go_ret
    exact raddr_same HA.out

set_option maxRecDepth 100000 in
set_option maxHeartbeats 2000000 in
theorem RCut_any (A : Ar) (ρ : Nat → Nat) (b : Nat) (h : Int) (w : World) (hA : RMem w ρ b A) (hW : A.WF) (hsm : A.ns.length ≤ 1000000) :
    Calls Tryz.prog 78 #[.pointer (some ⟨b, 0, none⟩), .int .i64 h] w (RAddR (A.cutCall h).2 ρ b w (.int .i64 (A.cutCall h).1)) := by
  obtain ⟨nb, c, h0, hm, hc, hfn, hnb, HH0, hN⟩ := hA.look
  have HH := Lib.hid HH0
  have hnbl : nb < w.heap.size := hA.1 nb (by omega)
  have hbn : nb ≠ b := fun e => by have := hA.2.1; rw [← e] at this; omega
  clear HH0
  by_cases hh : A.has h
  · have hd : decide (A.has h) = true := by simp [hh]
    obtain ⟨hp, hq, kv, av, F, -, -⟩ := hN h hh
    have c1 := F.c1
    by_cases hz : (A.get h).parent = 0
    · have e : A.cutCall h = (0, A) := by unfold Ar.cutCall Ar.cut; rw [if_pos hh, if_pos hz]
      rw [e]
      rw [hz] at c1
      have HA := Lib.hid hA
      clear e F hN hh hfn hA hz
      go_enter Tryz.func78, Tryz.ntmps78
      go_wp2_with fail
      refine (HH.out _ _ h0).mono ?_
      rintro e w' ⟨rfl, rfl⟩
      rw [hd]
      go_wp2
      go_ret
      exact raddr_same HA.out
    · have e : A.cutCall h = (0, (A.mod (A.get h).parent (fun x => { x with kids := without x.kids h })).mod h (fun x => { x with parent := 0 })) := by unfold Ar.cutCall Ar.cut; rw [if_pos hh, if_neg hz]
      have hhp := (hW.link h hh hz).1
      obtain ⟨hpp, hpq, kvp, avp, Fp, hKp, -⟩ := hN _ hhp
      have hkl : (A.get (A.get h).parent).kids.length ≤ 1000000 := Nat.le_trans (Ar.kids_len hW hhp) hsm
      have e2 : A.mod (A.get h).parent (fun x => { x with kids := without x.kids h }) = A.mod (A.get h).parent (fun x => { x with kids := without (A.get (A.get h).parent).kids h }) := by
        unfold Ar.mod
        congr 1
        have hg := Ar.get_some hhp
        apply List.ext_getElem?
        intro j
        rw [List.getElem?_modify, List.getElem?_modify]
        by_cases hj : (A.get h).parent.toNat - 1 = j
        · subst hj; rw [hg]; simp
        · simp [hj]
      rw [e, e2]
      have hzz : ((A.get h).parent != 0) = true := by simpa using hz
      have k2 := Fp.c2
      have HWO := Lib.hid (fun W (hB : Below w.heap.size w W) => Without_any kvp (A.get (A.get h).parent).kids h W (RInts.below hKp.reads hB) hkl)
      have HST := Lib.hid (fun (w2 : World) (v : Value) (hB : Below w.heap.size w w2) ho => hA.setKidsRow (l := without (A.get (A.get h).parent).kids h) (w2 := w2) (v := v) hhp h0 hB ho)
      obtain ⟨pka, pkc, hpk, -⟩ := (show RInts w kvp (A.get (A.get h).parent).kids from hKp.reads).form
      subst hpk
      have fp2 := hfn ((A.get h).parent.toNat * 13 + 2)
      have HHH := Lib.hid (And.intro hh hhp)
      have HA1 : Hid (∀ f w3 ρ1, RMem w3 ρ1 b (A.mod (A.get h).parent f) → ∃ nb c, w3.cell? ⟨b, 0, none⟩ = some (.slice (some ⟨nb, 0, none⟩) (A.ns.length + 1) c) ∧ A.ns.length + 1 ≤ c ∧ (∃ x, w3.cell? ⟨nb, h.toNat * 13 + 1, none⟩ = some x) ∧ w3.frozen? ⟨nb, h.toNat * 13 + 1, none⟩ = false ∧ ∃ ρ2, RMem (w3.setCell ⟨nb, h.toNat * 13 + 1, none⟩ (.int .i64 0)) ρ2 b ((A.mod (A.get h).parent f).mod h (fun x => { x with parent := 0 })) ∧ Turn ρ1 ρ2 w3 (w3.setCell ⟨nb, h.toNat * 13 + 1, none⟩ (.int .i64 0))) := Lib.hid (by
        intro f w3 ρ1 hR
        have hlen : (A.mod (A.get h).parent f).ns.length = A.ns.length := by simp [Ar.mod]
        obtain ⟨nb3, c3, g0, -, gc, gfn, -, -, gN⟩ := hR.look
        have hhas : (A.mod (A.get h).parent f).has h := (Ar.mod_has _ _ _ _).2 hh
        obtain ⟨-, -, kv3, av3, F3, -, -⟩ := gN h hhas
        have hst := hR.field (x := h) (f := fun x => { x with parent := 0 }) (j := 1) (v := .int .i64 0) hhas g0 (by omega) (fun _ _ => rfl) rfl rfl
        rw [hlen] at g0 gc
        exact ⟨nb3, c3, g0, gc, ⟨_, F3.c1⟩, gfn _, ρ1, hst.1, hst.2⟩)
      clear e e2 F Fp hN hh hfn hA hz hKp hhp hW
      generalize hpar : (A.get h).parent = p at *
      clear hpar
      generalize (A.get p).kids = ks at *
      have hx0 : (0 : Int) ≤ p := by omega
      have hx1 : p < ((A.ns.length + 1 : Nat) : Int) := by omega
      have hx2 : p < (A.ns.length : Int) + 1 := by omega
      go_enter Tryz.func78, Tryz.ntmps78
      go_wp2_with fail
      refine (HH.out _ _ h0).mono ?_
      rintro e w' ⟨rfl, rfl⟩
      rw [hd]
      go_wp2
      go_region_with (refine (HWO.out _ (Below.drewN (Below.refl _ _) _)).mono ?_; rintro e w2 ⟨hB2, v', rfl, ho⟩; have hB3 : Below w.heap.size w w2 := (Below.drewN (Below.refl w.heap.size w) _).trans (hB2.mono (by simp)); obtain ⟨va', vc', rfl⟩ := ownsForm ho; have g0 := Below.old hB3 h0; have g2 := Below.old hB3 k2; have gf2 := (Below.frozen hB3 (p := ⟨nb, p.toNat * 13 + 2, none⟩) hnbl).trans fp2)
      all_goals
        obtain ⟨ρ1, hR1, hT1⟩ := HST.out w2 _ hB3 ho
        generalize hw3 : World.setCell w2 _ _ = w3 at hR1 hT1 ⊢
        obtain ⟨nb3, c3, m0, mc, ⟨mx, m1⟩, mf, ρ2, hR2, hT2⟩ := HA1.out _ w3 ρ1 hR1
        have HF := Lib.hid (And.intro hR2 (hT1.trans hT2))
        clear hR1 hT1 hR2 hT2 ho hw3 g0 g2 gf2 h0 k2 c1 fp2 hB3 hB2
        go_wp2
        go_ret
        exact ⟨rfl, ρ2, HF.out.1, HF.out.2⟩
  · have hd : decide (A.has h) = false := by simp [hh]
    have e : A.cutCall h = (3, A) := by unfold Ar.cutCall; rw [if_neg hh]
    rw [e]
    have HA := Lib.hid hA
    clear e hN hh hfn hA
    go_enter Tryz.func78, Tryz.ntmps78
    go_wp2_with fail
    refine (HH.out _ _ h0).mono ?_
    rintro e w' ⟨rfl, rfl⟩
    rw [hd]
    go_wp2
    go_ret
    exact raddr_same HA.out

end Go.Proofs.YtnfdcfagdidmhaaGreatDoor
