/-
  Contracts of the program's arena: Put before a child; Put; Cut.
-/
import Derived.Test.YtnfdcfagdidmhaaP13
namespace Go.Proofs.Ytnfdcfagdidmhaa
open Go.RowKit

set_option maxRecDepth 100000 in
set_option maxHeartbeats 4000000 in
/-- 'Put' puts a node before a child. -/
theorem Put_before (A : Ar) (ρ : Nat → Nat) (b : Nat) (parent node before : Int) (w : World) (hA : AMem w ρ b A) (hW : A.WF) (h : A.has parent ∧ A.has node ∧ (before ≠ 0 → A.has before)) (hk : (A.get parent).kind = 1 ∨ (A.get parent).kind = 2 ∨ (A.get parent).kind = 4) (hsmall : A.ns.length ≤ 1000000) (hkn : ¬ ((A.get node).kind = 1 ∨ (A.get node).kind = 2)) (path : List Int) (hpath : A.Way (upStep A true) parent path) (hc0 : node ∉ path) (hb0 : before ≠ 0) (hbn : before ≠ node) (hbp : (A.get before).parent = parent) :
    Calls Try.prog 49 #[.pointer (some ⟨b, 0, none⟩), .int .i64 parent, .int .i64 node, .int .i64 before] w (AddR (A.place parent node before) ρ b w (.int .i64 0)) := by
  have hc : decide (node ∈ path) = false := by simp [hc0]
  obtain ⟨pf1, pf2, pf3, -⟩ := Ar.put_facts (before := before) hW h.1 h.2.1 (fun e => ⟨h.2.2 e, hbn, hbp⟩)
  obtain ⟨i, hi1, hi2, hi3, -⟩ := findI_mem (pf2 hb0)
  have PF4 := Lib.hid (pf3 i hb0 hi3)
  clear pf2 pf3 hi3
  obtain ⟨a, c, mv, h0, h1, hf, hlt, hm, hN⟩ := hA.head
  obtain ⟨hp, hn, hb⟩ := h
  have hp1 := hp.1; have hp2 := hp.2; have hn1 := hn.1; have hn2 := hn.2; unfold Ar.n at hp2 hn2
  obtain ⟨nb, rfl, hr, hnb, hfn, hNx⟩ := hN (by omega)
  obtain ⟨kvp, avp, Fp, hKp, -⟩ := hNx parent hp
  obtain ⟨kvn, avn, Fn, -, -⟩ := hNx node hn
  have hB0 := below_alloc w (.cells #[.int .i64 parent, .int .i64 node] 3)
  have hA0 := hA.below hB0
  have h0' := Below.old hB0 h0
  have cp0 := Below.old hB0 Fp.c0
  have cn0 := Below.old hB0 Fn.c0
  have hck : checkL A [parent, node] = 0 := by simp [checkL, hp, hn]
  have hs0 : (w.alloc (.cells #[.int .i64 parent, .int .i64 node] 3)).heap.size = w.heap.size + 1 := by simp
  generalize hw0 : w.alloc _ = w0 at *
  generalize hop : (parent.toNat - 1) * 13 = op at *
  generalize hon : (node.toNat - 1) * 13 = on at *
  have HW0 := Lib.hid hw0
  have HOP := Lib.hid hop
  have HON := Lib.hid hon
  have HS0 := Lib.hid hs0
  clear hw0 hop hon hs0
  have n1 : ((A.get node).kind == 1) = false := by simp; exact fun e => hkn (.inl e)
  have n2 : ((A.get node).kind == 2) = false := by simp; exact fun e => hkn (.inr e)
  have hbh' := hb hb0
  have hq1 := hbh'.1; have hq2 := hbh'.2; unfold Ar.n at hq2
  obtain ⟨kvb, avb, Fb, -, -⟩ := hNx before hbh'
  have cb1 := Below.old hB0 Fb.c1
  rw [hbp] at cb1
  have e1 : (before != 0) = true := by simp [hb0]
  have e2 : (before == node) = false := by simp [hbn]
  have hbh : decide (A.has before) = true := by simp [hbh']
  have HI1 := Lib.hid hi1
  clear Fp Fn Fb hNx hN hfn hkn hc0 hb hb0 hKp hbn hbp hbh' hi1
  rcases hk with hk | hk | hk
  all_goals
    rw [hk] at cp0
    clear hk
    go_enter Try.func49, Try.ntmps49
    go_wp2_with fail
    rw [HW0.out]
    refine (check_any A b _ c _ [parent, node] _ h0' (by rw [← HW0.out]; exact RInts_new2 _ _ _ _)).mono ?_
    rintro e w' ⟨rfl, rfl⟩
    rw [hck]
    go_wp2_with fail
    refine (has_any A b _ c before _ h0').mono ?_
    rintro e w' ⟨rfl, rfl⟩
    rw [hbh]
    go_wp2_with fail
    refine (at_any b nb _ c parent _ h0' hp1 hp2 hm).mono ?_
    rintro e w2 ⟨rfl, rfl⟩
    go_wp2_with fail
    refine (at_any b nb _ c node _ h0' hn1 hn2 hm).mono ?_
    rintro e w2 ⟨rfl, rfl⟩
    rw [HOP.out, HON.out]
    go_wp2_with fail
    refine (Contains_any A ρ b node parent path _ hA0 hn hp hpath).mono ?_
    rintro e w1 ⟨rfl, hB1⟩
    rw [hc]
    have hA1 := hA0.below hB1
    have g0 := Below.old hB1 h0'
    go_wp2_with fail
    have gb1 := Below.old hB1 cb1
    refine (at_any b nb _ c before _ g0 hq1 hq2 hm).mono ?_
    rintro e w2 ⟨rfl, rfl⟩
    go_wp2_with fail
    refine (cut_any A ρ b node _ hA1 hn (hW.link node hn)).mono ?_
    rintro e w2 ⟨⟨rfl, ρ2, hA2, hT2⟩, hhd⟩
    rw [g0] at hhd
    have hp' : (A.cut node).has parent := (Ar.cut_has _ _ _).2 hp
    have hn' : (A.cut node).has node := (Ar.cut_has _ _ _).2 hn
    obtain ⟨-, hr2, hnb2, hfn2, kv2, av2, F2, hK2, -⟩ := hA2.at hhd hp'
    obtain ⟨-, -, -, -, kv3, av3, F3, -, -⟩ := hA2.at hhd hn'
    have c2 := F2.c2
    have c31 := F3.c1
    rw [HOP.out] at c2
    rw [HON.out] at c31
    have fp2 := hfn2 (op + 2)
    have fn1 := hfn2 (on + 1)
    have hform := hK2.reads
    obtain ⟨ka, kc, rfl, hkl1, hkl2, -⟩ := RInts.form hform
    have hlen0 := Ar.cut_ns A node
    rw [← hlen0] at hhd
    generalize hKK : ((A.cut node).get parent).kids = K at *
    have HKK := Lib.hid hKK
    have HLEN0 := Lib.hid hlen0
    clear hKK F2 F3 hfn2 hlen0
    have HIDX := Lib.hid (Index_any (.slice ka K.length kc) K before w2 (ROwn.reads hK2))
    have hbK : K.length ≤ 1000000 := by omega
    go_wp2_with fail
    refine HIDX.out.mono ?_
    rintro e w2' ⟨rfl, rfl⟩
    rw [HI1.out]
    have hvb : (w2.alloc (.cells #[.int .i64 node] 3)).heap[w2.heap.size]? = some (.cells #[.int .i64 node] 3 (0, 0)) := heap_alloc_new w2 _
    have hBa := below_alloc w2 (.cells #[.int .i64 node] 3)
    have hvr : ρ2 w2.heap.size ≠ 2 * (parent.toNat - 1) + 4 := fun e => by have := hA2.1 w2.heap.size (by omega); omega
    have hins := Insert_own ρ2 (2 * (parent.toNat - 1) + 4) (.slice ka K.length kc) K i node w2.heap.size (w2.alloc (.cells #[.int .i64 node] 3)) (fun k hk => Nat.lt_of_lt_of_le (hA2.1 k hk) hBa.size) (hK2.upd (F := fun _ => False) (Upd.below hBa) (fun _ _ => id)) (Nat.le_of_lt hi2) hvb hvr (by omega)
    have HINS := Lib.hid hins
    clear hins
    go_wp2_with fail
    refine HINS.out.mono ?_
    rintro e w3 ⟨g, cc, ρ3, rfl, hU3, hro3, hbd3, hown3⟩
    have d2 : w3.cell? ⟨nb, op + 2, none⟩ = some (.slice ka K.length kc) := hU3.cell (Below.old hBa c2) (by dsimp only; omega)
    have df2 : w3.frozen? ⟨nb, op + 2, none⟩ = false := hU3.free (Nat.lt_of_lt_of_le hnb2 hBa.size) ((Below.frozen hBa hnb2).trans fp2) (by dsimp only; omega)
    obtain ⟨pv, d31⟩ : ∃ pv, w3.cell? ⟨nb, on + 1, none⟩ = some pv := ⟨_, hU3.cell (Below.old hBa c31) (by dsimp only; omega)⟩
    have df31 : w3.frozen? ⟨nb, on + 1, none⟩ = false := hU3.free (Nat.lt_of_lt_of_le hnb2 hBa.size) ((Below.frozen hBa hnb2).trans fn1) (by dsimp only; omega)
    have hend := put_end (hA2.below hBa) hp' hn' (Below.old hBa hhd) hU3 hro3 hbd3 hown3
    rw [HOP.out, HON.out] at hend
    have hpl := place_eq (before := before) hp' HKK.out (ins := K.take i ++ node :: K.drop i) (by exact PF4.out)
    rw [hpl] at hend
    have hT3 := (((Turn.below (Below.from0 hB0 hB1)).trans hT2).trans (Turn.below hBa)).trans hend.2
    have HEND := Lib.hid (And.intro hend.1 hT3)
    have hne : op + 2 ≠ on + 1 := by have := HOP.out; have := HON.out; omega
    have q1 : (w3.setCell ⟨nb, op + 2, none⟩ (.slice (some ⟨g, 0, none⟩) (K.take i ++ node :: K.drop i).length cc)).cell? ⟨nb, on + 1, none⟩ = some pv := by
      rw [World.cell?_setCell_other w3 ⟨nb, op + 2, none⟩ ⟨nb, on + 1, none⟩ _ (fun e => hne (congrArg Addr.off e))]; exact d31
    clear hend hT3 hne hown3 hpl HKK
    generalize (K.take i ++ node :: K.drop i).length = ll at *
    go_wp2
    go_ret
    exact ⟨rfl, ρ3, HEND.out.1, HEND.out.2⟩

/-- **Put.** -/
theorem Put_any (A : Ar) (ρ : Nat → Nat) (b : Nat) (parent node before : Int) (w : World) (hA : AMem w ρ b A) (hW : A.WF) (hsmall : A.ns.length ≤ 1000000) :
    Calls Try.prog 49 #[.pointer (some ⟨b, 0, none⟩), .int .i64 parent, .int .i64 node, .int .i64 before] w (AddR (A.put parent node before).2 ρ b w (.int .i64 (A.put parent node before).1)) := by
  by_cases h : A.has parent ∧ A.has node ∧ (before ≠ 0 → A.has before)
  · have hal := allowed_ok (A.contains node parent) h
    have hway := hW.wayOf h.1
    have hcont : A.contains node parent = decide (node ∈ A.waySt true parent) := by simp [Ar.contains, h.1, h.2.1]
    by_cases hk : (A.get parent).kind = 1 ∨ (A.get parent).kind = 2 ∨ (A.get parent).kind = 4
    · rw [if_neg (fun e => e hk)] at hal
      by_cases hkn : (A.get node).kind = 1 ∨ (A.get node).kind = 2
      · rw [if_pos (by rcases hkn with e | e; exact .inl e; exact .inr (.inl e))] at hal
        have : A.put parent node before = (4, A) := by unfold Ar.put; rw [hal]; rfl
        rw [this]; exact Put_node A ρ b parent node before w hA h hk hkn
      · by_cases hc : node ∈ A.waySt true parent
        · rw [if_pos (.inr (.inr (by rw [hcont]; simpa using hc)))] at hal
          have : A.put parent node before = (4, A) := by unfold Ar.put; rw [hal]; rfl
          rw [this]; exact Put_circle A ρ b parent node before w hA h hk hkn _ hway hc
        · rw [if_neg (by rintro (e | e | e); exact hkn (.inl e); exact hkn (.inr e); rw [hcont] at e; exact hc (by simpa using e))] at hal
          by_cases hb0 : before = 0
          · rw [if_neg (fun e => e.1 hb0)] at hal
            have : A.put parent node before = (0, A.place parent node before) := by unfold Ar.put; rw [hal]; rfl
            rw [this]; exact Put_last A ρ b parent node before w hA hW h hk hsmall hkn _ hway hc hb0
          · by_cases hnf : before = node ∨ (A.get before).parent ≠ parent
            · rw [if_pos ⟨hb0, hnf⟩] at hal
              have : A.put parent node before = (5, A) := by unfold Ar.put; rw [hal]; rfl
              rw [this]; exact Put_notfound A ρ b parent node before w hA h hk hkn _ hway hc hb0 hnf
            · rw [if_neg (fun e => hnf e.2)] at hal
              have : A.put parent node before = (0, A.place parent node before) := by unfold Ar.put; rw [hal]; rfl
              rw [this]
              exact Put_before A ρ b parent node before w hA hW h hk hsmall hkn _ hway hc hb0 (fun e => hnf (.inl e)) (Classical.not_not.1 (fun e => hnf (.inr e)))
    · rw [if_pos hk] at hal
      have : A.put parent node before = (4, A) := by unfold Ar.put; rw [hal]; rfl
      rw [this]; exact Put_kind A ρ b parent node before w hA h hk
  · have hal := allowed_handles (A.contains node parent) h
    have : A.put parent node before = (3, A) := by unfold Ar.put; rw [hal]; rfl
    rw [this]; exact Put_handles A ρ b parent node before w hA h

theorem Cut_any (A : Ar) (ρ : Nat → Nat) (b : Nat) (h : Int) (w : World) (hA : AMem w ρ b A) (hW : A.WF) :
    Calls Try.prog 81 #[.pointer (some ⟨b, 0, none⟩), .int .i64 h] w (AddR (A.cutCall h).2 ρ b w (.int .i64 (A.cutCall h).1)) := by
  obtain ⟨a, c, mv, h0, -, -, -, -, -⟩ := hA.head
  have hB0 := below_alloc w (.cells #[.int .i64 h] 3)
  have hA0 := hA.below hB0
  have h0' := Below.old hB0 h0
  by_cases hh : A.has h
  · have hfin : A.cutCall h = (0, A.cut h) := by simp [Ar.cutCall, hh]
    have hck : checkL A [h] = 0 := by simp [checkL, hh]
    rw [hfin]
    have HC := Lib.hid (cut_any A ρ b h _ hA0 hh (hW.link h hh))
    clear hfin
    go_enter Try.func81, Try.ntmps81
    go_wp2_with fail
    refine (check_any A b _ c _ [h] _ h0' (RInts_new1 _ _ _)).mono ?_
    rintro e w' ⟨rfl, rfl⟩
    rw [hck]
    go_wp2_with fail
    refine HC.out.mono ?_
    rintro e w2 ⟨⟨rfl, ρ2, hA2, hT2⟩, -⟩
    go_wp2
    go_ret
    exact ⟨rfl, ρ2, hA2, (Turn.below hB0).trans hT2⟩
  · have hfin : A.cutCall h = (3, A) := by simp [Ar.cutCall, hh]
    have hck : checkL A [h] = 3 := by simp [checkL, hh]
    rw [hfin]
    clear hfin
    go_enter Try.func81, Try.ntmps81
    go_wp2_with fail
    refine (check_any A b _ c _ [h] _ h0' (RInts_new1 _ _ _)).mono ?_
    rintro e w' ⟨rfl, rfl⟩
    rw [hck]
    go_wp2
    go_ret
    exact ⟨rfl, ρ, hA0, Turn.below hB0⟩

end Go.Proofs.Ytnfdcfagdidmhaa
