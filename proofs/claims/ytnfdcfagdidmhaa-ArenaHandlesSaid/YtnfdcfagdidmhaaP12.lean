/-
  Contracts of the program's arena: Put, its other errors.
-/
import Derived.Test.YtnfdcfagdidmhaaP11
namespace Go.Proofs.Ytnfdcfagdidmhaa
open Go.RowKit

set_option maxRecDepth 100000 in
set_option maxHeartbeats 2000000 in
/-- 'Put' refuses the node, by its kind. -/
theorem Put_node (A : Ar) (ρ : Nat → Nat) (b : Nat) (parent node before : Int) (w : World) (hA : AMem w ρ b A) (h : A.has parent ∧ A.has node ∧ (before ≠ 0 → A.has before)) (hk : (A.get parent).kind = 1 ∨ (A.get parent).kind = 2 ∨ (A.get parent).kind = 4) (hkn : (A.get node).kind = 1 ∨ (A.get node).kind = 2) :
    Calls Try.prog 49 #[.pointer (some ⟨b, 0, none⟩), .int .i64 parent, .int .i64 node, .int .i64 before] w (AddR A ρ b w (.int .i64 4)) := by
  obtain ⟨a, c, mv, h0, h1, hf, hlt, hm, hN⟩ := hA.head
  obtain ⟨hp, hn, hb⟩ := h
  have hp1 := hp.1; have hp2 := hp.2; have hn1 := hn.1; have hn2 := hn.2; unfold Ar.n at hp2 hn2
  obtain ⟨nb, rfl, hr, hnb, hfn, hNx⟩ := hN (by omega)
  obtain ⟨kvp, avp, Fp, hKp, -⟩ := hNx parent hp
  obtain ⟨kvn, avn, Fn, -, -⟩ := hNx node hn
  have hB0 := below_alloc w (.cells #[.int .i64 parent, .int .i64 node] 3)
  have hA0 := hA.below hB0
  have h0' := Below.old hB0 h0
  have cp0 := Below.old hB0 Fp.c0
  have cn0 := Below.old hB0 Fn.c0
  have hck : checkL A [parent, node] = 0 := by simp [checkL, hp, hn]
  have hs0 : (w.alloc (.cells #[.int .i64 parent, .int .i64 node] 3)).heap.size = w.heap.size + 1 := by simp
  generalize hw0 : w.alloc _ = w0 at *
  generalize hop : (parent.toNat - 1) * 13 = op at *
  generalize hon : (node.toNat - 1) * 13 = on at *
  have HW0 := Lib.hid hw0
  have HOP := Lib.hid hop
  have HON := Lib.hid hon
  have HS0 := Lib.hid hs0
  clear hw0 hop hon hs0
  clear Fp Fn hNx hN hfn
  rcases hk with hk | hk | hk <;> rcases hkn with hkn | hkn
  all_goals
    rw [hk] at cp0
    rw [hkn] at cn0
    clear hk hkn
    by_cases hb0 : before = 0
    · have e1 : (before != 0) = false := by simp [hb0]
      have HB0 := Lib.hid hb0
      clear hb0 hb
      go_enter Try.func49, Try.ntmps49
      go_wp2_with fail
      rw [HW0.out]
      refine (check_any A b _ c _ [parent, node] _ h0' (by rw [← HW0.out]; exact RInts_new2 _ _ _ _)).mono ?_
      rintro e w' ⟨rfl, rfl⟩
      rw [hck]
      go_wp2_with fail
      refine (at_any b nb _ c parent _ h0' hp1 hp2 hm).mono ?_
      rintro e w2 ⟨rfl, rfl⟩
      go_wp2_with fail
      refine (at_any b nb _ c node _ h0' hn1 hn2 hm).mono ?_
      rintro e w2 ⟨rfl, rfl⟩
      rw [HOP.out, HON.out]
      go_wp2
      go_ret
      exact ⟨rfl, ρ, hA0, Turn.below hB0⟩
    · have e1 : (before != 0) = true := by simp [hb0]
      have hbh : decide (A.has before) = true := by simp [hb hb0]
      have HB0 := Lib.hid hb0
      clear hb0
      go_enter Try.func49, Try.ntmps49
      go_wp2_with fail
      rw [HW0.out]
      refine (check_any A b _ c _ [parent, node] _ h0' (by rw [← HW0.out]; exact RInts_new2 _ _ _ _)).mono ?_
      rintro e w' ⟨rfl, rfl⟩
      rw [hck]
      go_wp2_with fail
      refine (has_any A b _ c before _ h0').mono ?_
      rintro e w' ⟨rfl, rfl⟩
      rw [hbh]
      go_wp2_with fail
      refine (at_any b nb _ c parent _ h0' hp1 hp2 hm).mono ?_
      rintro e w2 ⟨rfl, rfl⟩
      go_wp2_with fail
      refine (at_any b nb _ c node _ h0' hn1 hn2 hm).mono ?_
      rintro e w2 ⟨rfl, rfl⟩
      rw [HOP.out, HON.out]
      go_wp2
      go_ret
      exact ⟨rfl, ρ, hA0, Turn.below hB0⟩

set_option maxRecDepth 100000 in
set_option maxHeartbeats 2000000 in
/-- 'Put' refuses a node that contains the parent. -/
theorem Put_circle (A : Ar) (ρ : Nat → Nat) (b : Nat) (parent node before : Int) (w : World) (hA : AMem w ρ b A) (h : A.has parent ∧ A.has node ∧ (before ≠ 0 → A.has before)) (hk : (A.get parent).kind = 1 ∨ (A.get parent).kind = 2 ∨ (A.get parent).kind = 4) (hkn : ¬ ((A.get node).kind = 1 ∨ (A.get node).kind = 2)) (path : List Int) (hpath : A.Way (upStep A true) parent path) (hc0 : node ∈ path) :
    Calls Try.prog 49 #[.pointer (some ⟨b, 0, none⟩), .int .i64 parent, .int .i64 node, .int .i64 before] w (AddR A ρ b w (.int .i64 4)) := by
  have hc : decide (node ∈ path) = true := by simp [hc0]
  obtain ⟨a, c, mv, h0, h1, hf, hlt, hm, hN⟩ := hA.head
  obtain ⟨hp, hn, hb⟩ := h
  have hp1 := hp.1; have hp2 := hp.2; have hn1 := hn.1; have hn2 := hn.2; unfold Ar.n at hp2 hn2
  obtain ⟨nb, rfl, hr, hnb, hfn, hNx⟩ := hN (by omega)
  obtain ⟨kvp, avp, Fp, hKp, -⟩ := hNx parent hp
  obtain ⟨kvn, avn, Fn, -, -⟩ := hNx node hn
  have hB0 := below_alloc w (.cells #[.int .i64 parent, .int .i64 node] 3)
  have hA0 := hA.below hB0
  have h0' := Below.old hB0 h0
  have cp0 := Below.old hB0 Fp.c0
  have cn0 := Below.old hB0 Fn.c0
  have hck : checkL A [parent, node] = 0 := by simp [checkL, hp, hn]
  have hs0 : (w.alloc (.cells #[.int .i64 parent, .int .i64 node] 3)).heap.size = w.heap.size + 1 := by simp
  generalize hw0 : w.alloc _ = w0 at *
  generalize hop : (parent.toNat - 1) * 13 = op at *
  generalize hon : (node.toNat - 1) * 13 = on at *
  have HW0 := Lib.hid hw0
  have HOP := Lib.hid hop
  have HON := Lib.hid hon
  have HS0 := Lib.hid hs0
  clear hw0 hop hon hs0
  have n1 : ((A.get node).kind == 1) = false := by simp; exact fun e => hkn (.inl e)
  have n2 : ((A.get node).kind == 2) = false := by simp; exact fun e => hkn (.inr e)
  clear Fp Fn hNx hN hfn hkn hc0
  rcases hk with hk | hk | hk
  all_goals
    rw [hk] at cp0
    clear hk
    by_cases hb0 : before = 0
    · have e1 : (before != 0) = false := by simp [hb0]
      have HB0 := Lib.hid hb0
      clear hb0 hb
      go_enter Try.func49, Try.ntmps49
      go_wp2_with fail
      rw [HW0.out]
      refine (check_any A b _ c _ [parent, node] _ h0' (by rw [← HW0.out]; exact RInts_new2 _ _ _ _)).mono ?_
      rintro e w' ⟨rfl, rfl⟩
      rw [hck]
      go_wp2_with fail
      refine (at_any b nb _ c parent _ h0' hp1 hp2 hm).mono ?_
      rintro e w2 ⟨rfl, rfl⟩
      go_wp2_with fail
      refine (at_any b nb _ c node _ h0' hn1 hn2 hm).mono ?_
      rintro e w2 ⟨rfl, rfl⟩
      rw [HOP.out, HON.out]
      go_wp2_with fail
      refine (Contains_any A ρ b node parent path _ hA0 hn hp hpath).mono ?_
      rintro e w1 ⟨rfl, hB1⟩
      rw [hc]
      go_wp2
      go_ret
      exact ⟨rfl, ρ, hA0.below hB1, Turn.below (Below.from0 hB0 hB1)⟩
    · have e1 : (before != 0) = true := by simp [hb0]
      have hbh : decide (A.has before) = true := by simp [hb hb0]
      have HB0 := Lib.hid hb0
      clear hb0
      go_enter Try.func49, Try.ntmps49
      go_wp2_with fail
      rw [HW0.out]
      refine (check_any A b _ c _ [parent, node] _ h0' (by rw [← HW0.out]; exact RInts_new2 _ _ _ _)).mono ?_
      rintro e w' ⟨rfl, rfl⟩
      rw [hck]
      go_wp2_with fail
      refine (has_any A b _ c before _ h0').mono ?_
      rintro e w' ⟨rfl, rfl⟩
      rw [hbh]
      go_wp2_with fail
      refine (at_any b nb _ c parent _ h0' hp1 hp2 hm).mono ?_
      rintro e w2 ⟨rfl, rfl⟩
      go_wp2_with fail
      refine (at_any b nb _ c node _ h0' hn1 hn2 hm).mono ?_
      rintro e w2 ⟨rfl, rfl⟩
      rw [HOP.out, HON.out]
      go_wp2_with fail
      refine (Contains_any A ρ b node parent path _ hA0 hn hp hpath).mono ?_
      rintro e w1 ⟨rfl, hB1⟩
      rw [hc]
      go_wp2
      go_ret
      exact ⟨rfl, ρ, hA0.below hB1, Turn.below (Below.from0 hB0 hB1)⟩

set_option maxRecDepth 100000 in
set_option maxHeartbeats 2000000 in
/-- 'Put' does not find the child before which it should put the node. -/
theorem Put_notfound (A : Ar) (ρ : Nat → Nat) (b : Nat) (parent node before : Int) (w : World) (hA : AMem w ρ b A) (h : A.has parent ∧ A.has node ∧ (before ≠ 0 → A.has before)) (hk : (A.get parent).kind = 1 ∨ (A.get parent).kind = 2 ∨ (A.get parent).kind = 4) (hkn : ¬ ((A.get node).kind = 1 ∨ (A.get node).kind = 2)) (path : List Int) (hpath : A.Way (upStep A true) parent path) (hc0 : node ∉ path) (hb0 : before ≠ 0) (hnf : before = node ∨ (A.get before).parent ≠ parent) :
    Calls Try.prog 49 #[.pointer (some ⟨b, 0, none⟩), .int .i64 parent, .int .i64 node, .int .i64 before] w (AddR A ρ b w (.int .i64 5)) := by
  have hc : decide (node ∈ path) = false := by simp [hc0]
  obtain ⟨a, c, mv, h0, h1, hf, hlt, hm, hN⟩ := hA.head
  obtain ⟨hp, hn, hb⟩ := h
  have hp1 := hp.1; have hp2 := hp.2; have hn1 := hn.1; have hn2 := hn.2; unfold Ar.n at hp2 hn2
  obtain ⟨nb, rfl, hr, hnb, hfn, hNx⟩ := hN (by omega)
  obtain ⟨kvp, avp, Fp, hKp, -⟩ := hNx parent hp
  obtain ⟨kvn, avn, Fn, -, -⟩ := hNx node hn
  have hB0 := below_alloc w (.cells #[.int .i64 parent, .int .i64 node] 3)
  have hA0 := hA.below hB0
  have h0' := Below.old hB0 h0
  have cp0 := Below.old hB0 Fp.c0
  have cn0 := Below.old hB0 Fn.c0
  have hck : checkL A [parent, node] = 0 := by simp [checkL, hp, hn]
  have hs0 : (w.alloc (.cells #[.int .i64 parent, .int .i64 node] 3)).heap.size = w.heap.size + 1 := by simp
  generalize hw0 : w.alloc _ = w0 at *
  generalize hop : (parent.toNat - 1) * 13 = op at *
  generalize hon : (node.toNat - 1) * 13 = on at *
  have HW0 := Lib.hid hw0
  have HOP := Lib.hid hop
  have HON := Lib.hid hon
  have HS0 := Lib.hid hs0
  clear hw0 hop hon hs0
  have n1 : ((A.get node).kind == 1) = false := by simp; exact fun e => hkn (.inl e)
  have n2 : ((A.get node).kind == 2) = false := by simp; exact fun e => hkn (.inr e)
  have hbh' := hb hb0
  have hq1 := hbh'.1; have hq2 := hbh'.2; unfold Ar.n at hq2
  obtain ⟨kvb, avb, Fb, -, -⟩ := hNx before hbh'
  have cb1 := Below.old hB0 Fb.c1
  have e1 : (before != 0) = true := by simp [hb0]
  have hbh : decide (A.has before) = true := by simp [hbh']
  clear Fp Fn Fb hNx hN hfn hkn hc0 hb0 hb hbh'
  by_cases hbn : before = node
  · have e2 : (before == node) = true := by simp [hbn]
    have HBN := Lib.hid hbn
    clear hbn hnf
    rcases hk with hk | hk | hk
    all_goals
      rw [hk] at cp0
      clear hk
      go_enter Try.func49, Try.ntmps49
      go_wp2_with fail
      rw [HW0.out]
      refine (check_any A b _ c _ [parent, node] _ h0' (by rw [← HW0.out]; exact RInts_new2 _ _ _ _)).mono ?_
      rintro e w' ⟨rfl, rfl⟩
      rw [hck]
      go_wp2_with fail
      refine (has_any A b _ c before _ h0').mono ?_
      rintro e w' ⟨rfl, rfl⟩
      rw [hbh]
      go_wp2_with fail
      refine (at_any b nb _ c parent _ h0' hp1 hp2 hm).mono ?_
      rintro e w2 ⟨rfl, rfl⟩
      go_wp2_with fail
      refine (at_any b nb _ c node _ h0' hn1 hn2 hm).mono ?_
      rintro e w2 ⟨rfl, rfl⟩
      rw [HOP.out, HON.out]
      go_wp2_with fail
      refine (Contains_any A ρ b node parent path _ hA0 hn hp hpath).mono ?_
      rintro e w1 ⟨rfl, hB1⟩
      rw [hc]
      go_wp2
      go_ret
      exact ⟨rfl, ρ, hA0.below hB1, Turn.below (Below.from0 hB0 hB1)⟩
  · have e2 : (before == node) = false := by simp [hbn]
    have e3 : ((A.get before).parent != parent) = true := by simp; exact hnf.resolve_left hbn
    clear hbn hnf
    rcases hk with hk | hk | hk
    all_goals
      rw [hk] at cp0
      clear hk
      go_enter Try.func49, Try.ntmps49
      go_wp2_with fail
      rw [HW0.out]
      refine (check_any A b _ c _ [parent, node] _ h0' (by rw [← HW0.out]; exact RInts_new2 _ _ _ _)).mono ?_
      rintro e w' ⟨rfl, rfl⟩
      rw [hck]
      go_wp2_with fail
      refine (has_any A b _ c before _ h0').mono ?_
      rintro e w' ⟨rfl, rfl⟩
      rw [hbh]
      go_wp2_with fail
      refine (at_any b nb _ c parent _ h0' hp1 hp2 hm).mono ?_
      rintro e w2 ⟨rfl, rfl⟩
      go_wp2_with fail
      refine (at_any b nb _ c node _ h0' hn1 hn2 hm).mono ?_
      rintro e w2 ⟨rfl, rfl⟩
      rw [HOP.out, HON.out]
      go_wp2_with fail
      refine (Contains_any A ρ b node parent path _ hA0 hn hp hpath).mono ?_
      rintro e w1 ⟨rfl, hB1⟩
      rw [hc]
      have g0 := Below.old hB1 h0'
      have gb1 := Below.old hB1 cb1
      go_wp2_with fail
      refine (at_any b nb _ c before _ g0 hq1 hq2 hm).mono ?_
      rintro e w2 ⟨rfl, rfl⟩
      go_wp2
      go_ret
      exact ⟨rfl, ρ, hA0.below hB1, Turn.below (Below.from0 hB0 hB1)⟩

end Go.Proofs.Ytnfdcfagdidmhaa
