/-
  Contracts of the program's arena: cut, Cut.
-/
import Derived.Test.YtnfdcfagdidmhaaS2
import Derived.Test.YtnfdcfagdidmhaaArW
namespace Go.Proofs.Ytnfdcfagdidmhaa
open Go.RowKit

theorem findI_mem {l : List Int} {h : Int} (hm : h ∈ l) : ∃ i : Nat, findI (fun y => decide (y = h)) l = i ∧ i < l.length ∧ l[i]? = some h ∧ ∀ j, j < i → l[j]? ≠ some h := by
  cases hf : l.findIdx? (fun y => decide (y = h)) with
  | none => rw [List.findIdx?_eq_none_iff] at hf; have := hf h hm; simp at this
  | some i =>
    refine ⟨i, by simp [findI, hf], ?_⟩
    rw [List.findIdx?_eq_some_iff_getElem] at hf
    obtain ⟨hi, hp, hno⟩ := hf
    refine ⟨hi, by simp at hp; simp [hi, hp], fun j hj e => ?_⟩
    have := hno j hj
    have hj' : j < l.length := by omega
    rw [List.getElem?_eq_getElem hj'] at e
    simp at e this
    exact this e

theorem erase_without {l : List Int} {h : Int} {i : Nat} (hn : l.Nodup) (hi : l[i]? = some h) : l.eraseIdx i = without l h := by
  induction l generalizing i with
  | nil => simp at hi
  | cons a l ih =>
    rw [List.nodup_cons] at hn
    cases i with
    | zero =>
      simp at hi
      subst hi
      simp [without]
      rw [List.filter_eq_self.2]
      intro x hx
      simp
      intro e; subst e; exact hn.1 hx
    | succ i =>
      simp at hi
      have ha : a ≠ h := by intro e; subst e; exact hn.1 (List.mem_of_getElem? hi)
      rw [List.eraseIdx_cons_succ, ih hn.2 hi]
      simp [without, ha]

set_option maxRecDepth 100000 in
set_option maxHeartbeats 400000 in
theorem cut_any (A : Ar) (ρ : Nat → Nat) (b : Nat) (h : Int) (w : World) (hA : AMem w ρ b A) (hh : A.has h) (hL : A.LinkOK h) :
    Calls Try.prog 102 #[.pointer (some ⟨b, 0, none⟩), .int .i64 h] w (fun e w' => AddR (A.cut h) ρ b w (.tuple #[]) e w' ∧ w'.cell? ⟨b, 0, none⟩ = w.cell? ⟨b, 0, none⟩) := by
  obtain ⟨a, c, mv, h0, h1, hf, hlt, hm, hN⟩ := hA.head
  have hp := hh.1; have hq := hh.2; unfold Ar.n at hq
  obtain ⟨nb, rfl, hr, hnb, hfn, hNx⟩ := hN (by omega)
  obtain ⟨kv, av, F, -, -⟩ := hNx h hh
  have c1 := F.c1
  have f1 := hfn ((h.toNat - 1) * 13 + 1)
  by_cases hp0 : (A.get h).parent = 0
  · have hfin : A.cut h = A := by unfold Ar.cut; rw [if_pos hp0]
    rw [hfin]
    rw [hp0] at c1
    clear hfin hp0 F hNx hN hfn hL
    go_enter Try.func102, Try.ntmps102
    go_wp2_with fail
    refine (at_any b nb _ c h _ h0 hp hq hm).mono ?_
    rintro e w2 ⟨rfl, rfl⟩
    go_wp2
    refine bodyPost_ret (results_none rfl _ _ _) rfl ?_
    exact ⟨⟨rfl, ρ, hA, Turn.refl _ _⟩, rfl⟩
  · obtain ⟨hhp, hmem, hnd⟩ := hL hp0
    have hk1 : ((A.get h).parent == 0) = false := by simp [hp0]
    have hpp := hhp.1; have hpq := hhp.2; unfold Ar.n at hpq
    obtain ⟨kvp, avp, Fp, hKp, hAp⟩ := hNx _ hhp
    obtain ⟨i, hi1, hi2, hi3, hi4⟩ := findI_mem hmem
    have hfin : A.cut h = (A.mod (A.get h).parent (fun x => { x with kids := without x.kids h })).mod h (fun x => { x with parent := 0 }) := by unfold Ar.cut; rw [if_neg hp0]
    have herase := erase_without hnd hi3
    rw [hfin]
    have e2 := Fp.c2
    have fp2 := hfn (((A.get h).parent.toNat - 1) * 13 + 2)
    generalize hpar : (A.get h).parent = p at *
    have hdel := Delete_own ρ (2 * (p.toNat - 1) + 4) kvp (A.get p).kids i w hKp hi2
    have hidx := Index_any kvp (A.get p).kids h w hKp.reads
    rw [hi1] at hidx
    generalize hoh : (h.toNat - 1) * 13 = oh at *
    generalize hop : (p.toNat - 1) * 13 = op at *
    have HDEL := Lib.hid hdel
    have HIDX := Lib.hid hidx
    have HOH := Lib.hid hoh
    have HOP := Lib.hid hop
    have HPAR := Lib.hid hpar
    have HER := Lib.hid herase
    have hi64 : (i : Int) < 9223372036854775807 := by
      have hlen := hKp.reads.2
      obtain ⟨_, _, _, q1, q2, _⟩ := hlen
      unfold maxLen at q2; omega
    clear hdel hidx hoh hop hpar hfin hi1 hi3 hi4 hmem hnd herase hp0 F Fp hNx hN hL
    go_enter Try.func102, Try.ntmps102
    go_wp2_with fail
    refine (at_any b nb _ c h _ h0 hp hq hm).mono ?_
    rintro e w2 ⟨rfl, rfl⟩
    rw [HOH.out]
    go_wp2_with fail
    refine (at_any b nb _ c p _ h0 hpp hpq hm).mono ?_
    rintro e w2 ⟨rfl, rfl⟩
    rw [HOP.out]
    go_wp2_with fail
    refine HIDX.out.mono ?_
    rintro e w2 ⟨rfl, rfl⟩
    go_wp2_with fail
    refine HDEL.out.mono ?_
    rintro e w2 ⟨g, cc, hkv, rfl, hU, hown⟩
    have g1 : w2.cell? ⟨nb, oh + 1, none⟩ = some (.int .i64 p) := hU.cell c1 (by dsimp only; omega)
    have g2 : w2.cell? ⟨nb, op + 2, none⟩ = some kvp := hU.cell e2 (by dsimp only; omega)
    have gf1 : w2.frozen? ⟨nb, oh + 1, none⟩ = false := hU.free hnb f1 (by dsimp only; omega)
    have gf2 : w2.frozen? ⟨nb, op + 2, none⟩ = false := hU.free hnb fp2 (by dsimp only; omega)
    have hlen : ((A.get p).kids.eraseIdx i).length = (A.get p).kids.length - 1 := by simp [List.length_eraseIdx, hi2]
    have HE1 : AMem (w2.setCell ⟨nb, (p.toNat - 1) * 13 + 2, none⟩ (.slice (some ⟨g, 0, none⟩) ((A.get p).kids.length - 1) cc)) ρ b (A.mod p (fun x => { x with kids := without x.kids h })) := by
      refine hA.store hhp h0 (hU.mono (fun k _ hk => .inl hk)) (fun _ _ => rfl) (fun k hk => Nat.lt_of_lt_of_le (hA.1 k hk) hU.size) (j := 2) (by omega) (fun kv av hk ha _ _ => ⟨_, av, rfl, ?_, ?_⟩)
      · dsimp only
        rw [← HER.out]
        rw [← hlen] at hown ⊢
        exact hown
      · exact ha.upd hU (fun k hk => by omega)
    have hT1 : Turn ρ ρ w (w2.setCell ⟨nb, (p.toNat - 1) * 13 + 2, none⟩ (.slice (some ⟨g, 0, none⟩) ((A.get p).kids.length - 1) cc)) := by
      have t1 : Turn ρ ρ w w2 := ⟨hU.mono (fun k _ hk => by omega), fun _ _ => rfl⟩
      exact t1.trans (Turn.set (by dsimp only; omega) _)
    have hh1 : (A.mod p (fun x => { x with kids := without x.kids h })).has h := by
      unfold Ar.has Ar.n Ar.mod at *; simpa using hh
    obtain ⟨a3, c3, mv3, h03, -, -, -, -, hN3⟩ := HE1.head
    obtain ⟨nb3, rfl, hr3, -, -, -⟩ := hN3 (by unfold Ar.mod; simp; omega)
    have hc3 : (w2.setCell ⟨nb, (p.toNat - 1) * 13 + 2, none⟩ (.slice (some ⟨g, 0, none⟩) ((A.get p).kids.length - 1) cc)).cell? ⟨b, 0, none⟩ = some (.slice (some ⟨nb, 0, none⟩) A.ns.length c) := by
      have hbn : b ≠ nb := by intro e; subst e; have := hA.2.1; omega
      rw [World.cell?_setCell_other w2 ⟨nb, (p.toNat - 1) * 13 + 2, none⟩ ⟨b, 0, none⟩ _ (fun e => hbn (congrArg Addr.block e).symm)]
      exact hU.cell h0 (by have := hA.2.1; dsimp only; omega)
    rw [hc3] at h03
    simp at h03
    obtain ⟨rfl, hl3, rfl⟩ := h03
    have HE2 := HE1.field (x := h) (f := fun x => { x with parent := 0 }) (j := 1) (v := .int .i64 0) (nb := nb) (c := c) hh1 (by rw [hc3]; simp [Ar.mod]) HOH.out.symm (by omega) (fun _ _ => rfl) rfl rfl
    have hT2 := hT1.trans (Turn.set (ρ := ρ) (a := ⟨nb, oh + 1, none⟩) (by dsimp only; omega) (.int .i64 0))
    rw [HOP.out] at HE2 hT2
    have HE := Lib.hid (And.intro HE2 hT2)
    have hhead : ((w2.setCell ⟨nb, op + 2, none⟩ (.slice (some ⟨g, 0, none⟩) ((A.get p).kids.length - 1) cc)).setCell ⟨nb, oh + 1, none⟩ (.int .i64 0)).cell? ⟨b, 0, none⟩ = w.cell? ⟨b, 0, none⟩ := by
      have hbn : b ≠ nb := by intro e; subst e; have := hA.2.1; omega
      rw [World.cell?_setCell_other _ ⟨nb, oh + 1, none⟩ ⟨b, 0, none⟩ _ (fun e => hbn (congrArg Addr.block e).symm), ← HOP.out, hc3, h0]
    have HHEAD := Lib.hid hhead
    clear hhead
    clear HE1 HE2 hT1 hT2 hown hc3 hl3 hlen hkv
    have hne : op + 2 ≠ oh + 1 := by have := HOH.out; have := HOP.out; omega
    have q1 : (w2.setCell ⟨nb, op + 2, none⟩ (.slice (some ⟨g, 0, none⟩) ((A.get p).kids.length - 1) cc)).cell? ⟨nb, oh + 1, none⟩ = some (.int .i64 p) := by
      rw [World.cell?_setCell_other w2 ⟨nb, op + 2, none⟩ ⟨nb, oh + 1, none⟩ _ (fun e => hne (congrArg Addr.off e))]
      exact g1
    clear hne
    go_wp2
    go_end0
    exact ⟨⟨rfl, ρ, HE.out.1, HE.out.2⟩, HHEAD.out⟩

end Go.Proofs.Ytnfdcfagdidmhaa
