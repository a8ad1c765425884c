/-
  Contracts of the program's arena: Put.
-/
import Derived.Test.YtnfdcfagdidmhaaP10
namespace Go.Proofs.Ytnfdcfagdidmhaa
open Go.RowKit

theorem allowed_handles {A : Ar} {parent node before : Int} (c : Bool) (h : ¬ (A.has parent ∧ A.has node ∧ (before ≠ 0 → A.has before))) : A.allowed parent node before c = 3 := by
  unfold Ar.allowed
  rw [if_pos]
  by_cases h1 : A.has parent
  · by_cases h2 : A.has node
    · by_cases h3 : before = 0
      · exact absurd ⟨h1, h2, fun h => absurd h3 h⟩ h
      · exact .inr (.inr ⟨h3, fun h4 => h ⟨h1, h2, fun _ => h4⟩⟩)
    · exact .inr (.inl h2)
  · exact .inl h1
theorem allowed_ok {A : Ar} {parent node before : Int} (c : Bool) (h : A.has parent ∧ A.has node ∧ (before ≠ 0 → A.has before)) :
    A.allowed parent node before c = if ¬ ((A.get parent).kind = 1 ∨ (A.get parent).kind = 2 ∨ (A.get parent).kind = 4) then 4 else if (A.get node).kind = 1 ∨ (A.get node).kind = 2 ∨ c = true then 4 else if before ≠ 0 ∧ (before = node ∨ (A.get before).parent ≠ parent) then 5 else 0 := by
  unfold Ar.allowed
  rw [if_neg]
  rintro (h1 | h1 | ⟨h1, h2⟩)
  · exact h1 h.1
  · exact h1 h.2.1
  · exact h2 (h.2.2 h1)

/-- An error of 'Put' at the handles. -/
theorem Put_handles (A : Ar) (ρ : Nat → Nat) (b : Nat) (parent node before : Int) (w : World) (hA : AMem w ρ b A) (h : ¬ (A.has parent ∧ A.has node ∧ (before ≠ 0 → A.has before))) :
    Calls Try.prog 49 #[.pointer (some ⟨b, 0, none⟩), .int .i64 parent, .int .i64 node, .int .i64 before] w (AddR A ρ b w (.int .i64 3)) := by
  obtain ⟨a, c, mv, h0, h1, hf, hlt, hm, hN⟩ := hA.head
  have hB0 := below_alloc w (.cells #[.int .i64 parent, .int .i64 node] 3)
  have hA0 := hA.below hB0
  have h0' := Below.old hB0 h0
  by_cases hpn : A.has parent ∧ A.has node
  · have hck : checkL A [parent, node] = 0 := by simp [checkL, hpn.1, hpn.2]
    have hb0 : before ≠ 0 := fun e => h ⟨hpn.1, hpn.2, fun h => absurd e h⟩
    have hbn : ¬ A.has before := fun e => h ⟨hpn.1, hpn.2, fun _ => e⟩
    have e1 : (before != 0) = true := by simp [hb0]
    have e2 : decide (A.has before) = false := by simp [hbn]
    clear hpn h hN hb0 hbn
    go_enter Try.func49, Try.ntmps49
    go_wp2_with fail
    refine (check_any A b _ c _ [parent, node] _ h0' (RInts_new2 _ _ _ _)).mono ?_
    rintro e w' ⟨rfl, rfl⟩
    rw [hck]
    go_wp2_with fail
    refine (has_any A b _ c before _ h0').mono ?_
    rintro e w' ⟨rfl, rfl⟩
    rw [e2]
    go_wp2
    go_ret
    exact ⟨rfl, ρ, hA0, Turn.below hB0⟩
  · have hck : checkL A [parent, node] = 3 := by simp [checkL]; exact fun q r => hpn ⟨q, r⟩
    clear hpn h hN
    go_enter Try.func49, Try.ntmps49
    go_wp2_with fail
    refine (check_any A b _ c _ [parent, node] _ h0' (RInts_new2 _ _ _ _)).mono ?_
    rintro e w' ⟨rfl, rfl⟩
    rw [hck]
    go_wp2
    go_ret
    exact ⟨rfl, ρ, hA0, Turn.below hB0⟩

set_option maxRecDepth 100000 in
set_option maxHeartbeats 1000000 in
/-- 'Put' refuses the parent, by its kind. -/
theorem Put_kind (A : Ar) (ρ : Nat → Nat) (b : Nat) (parent node before : Int) (w : World) (hA : AMem w ρ b A) (h : A.has parent ∧ A.has node ∧ (before ≠ 0 → A.has before)) (hk : ¬ ((A.get parent).kind = 1 ∨ (A.get parent).kind = 2 ∨ (A.get parent).kind = 4)) :
    Calls Try.prog 49 #[.pointer (some ⟨b, 0, none⟩), .int .i64 parent, .int .i64 node, .int .i64 before] w (AddR A ρ b w (.int .i64 4)) := by
  obtain ⟨a, c, mv, h0, h1, hf, hlt, hm, hN⟩ := hA.head
  obtain ⟨hp, hn, hb⟩ := h
  have hp1 := hp.1; have hp2 := hp.2; have hn1 := hn.1; have hn2 := hn.2; unfold Ar.n at hp2 hn2
  obtain ⟨nb, rfl, hr, hnb, hfn, hNx⟩ := hN (by omega)
  obtain ⟨kvp, avp, Fp, hKp, -⟩ := hNx parent hp
  obtain ⟨kvn, avn, Fn, -, -⟩ := hNx node hn
  have hB0 := below_alloc w (.cells #[.int .i64 parent, .int .i64 node] 3)
  have hA0 := hA.below hB0
  have h0' := Below.old hB0 h0
  have cp0 := Below.old hB0 Fp.c0
  have cn0 := Below.old hB0 Fn.c0
  have hck : checkL A [parent, node] = 0 := by simp [checkL, hp, hn]
  have hs0 : (w.alloc (.cells #[.int .i64 parent, .int .i64 node] 3)).heap.size = w.heap.size + 1 := by simp
  generalize hw0 : w.alloc _ = w0 at *
  generalize hop : (parent.toNat - 1) * 13 = op at *
  generalize hon : (node.toNat - 1) * 13 = on at *
  have HW0 := Lib.hid hw0
  have HOP := Lib.hid hop
  have HON := Lib.hid hon
  have HS0 := Lib.hid hs0
  clear hw0 hop hon hs0
  have k1 : ((A.get parent).kind != 1) = true := by simp; exact fun e => hk (.inl e)
  have k2 : ((A.get parent).kind != 2) = true := by simp; exact fun e => hk (.inr (.inl e))
  have k4 : ((A.get parent).kind != 4) = true := by simp; exact fun e => hk (.inr (.inr e))
  clear hk Fp Fn hNx hN hfn
  by_cases hb0 : before = 0
  · have e1 : (before != 0) = false := by simp [hb0]
    clear hb0 hb
    go_enter Try.func49, Try.ntmps49
    go_wp2_with fail
    rw [HW0.out]
    refine (check_any A b _ c _ [parent, node] _ h0' (by rw [← HW0.out]; exact RInts_new2 _ _ _ _)).mono ?_
    rintro e w' ⟨rfl, rfl⟩
    rw [hck]
    go_wp2_with fail
    refine (at_any b nb _ c parent _ h0' hp1 hp2 hm).mono ?_
    rintro e w2 ⟨rfl, rfl⟩
    go_wp2_with fail
    refine (at_any b nb _ c node _ h0' hn1 hn2 hm).mono ?_
    rintro e w2 ⟨rfl, rfl⟩
    rw [HOP.out, HON.out]
    go_wp2
    go_ret
    exact ⟨rfl, ρ, hA0, Turn.below hB0⟩
  · have e1 : (before != 0) = true := by simp [hb0]
    have hbh : decide (A.has before) = true := by simp [hb hb0]
    clear hb0 hb
    go_enter Try.func49, Try.ntmps49
    go_wp2_with fail
    rw [HW0.out]
    refine (check_any A b _ c _ [parent, node] _ h0' (by rw [← HW0.out]; exact RInts_new2 _ _ _ _)).mono ?_
    rintro e w' ⟨rfl, rfl⟩
    rw [hck]
    go_wp2_with fail
    refine (has_any A b _ c before _ h0').mono ?_
    rintro e w' ⟨rfl, rfl⟩
    rw [hbh]
    go_wp2_with fail
    refine (at_any b nb _ c parent _ h0' hp1 hp2 hm).mono ?_
    rintro e w2 ⟨rfl, rfl⟩
    go_wp2_with fail
    refine (at_any b nb _ c node _ h0' hn1 hn2 hm).mono ?_
    rintro e w2 ⟨rfl, rfl⟩
    rw [HOP.out, HON.out]
    go_wp2
    go_ret
    exact ⟨rfl, ρ, hA0, Turn.below hB0⟩

end Go.Proofs.Ytnfdcfagdidmhaa
