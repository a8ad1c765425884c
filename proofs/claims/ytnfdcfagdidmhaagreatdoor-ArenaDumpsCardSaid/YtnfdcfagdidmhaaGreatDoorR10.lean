/-
  Contracts of the document's arena: Index, Allowed.
-/
import Derived.Test.YtnfdcfagdidmhaaGreatDoorR9
namespace Go.Proofs.YtnfdcfagdidmhaaGreatDoor
open Go.RowKit
set_option linter.unusedVariables false

set_option maxRecDepth 100000 in
set_option maxHeartbeats 4000000 in
theorem RAllowed_any (A : Ar) (ρ : Nat → Nat) (b : Nat) (parent node before : Int) (w : World) (hA : RMem w ρ b A) (hW : A.WF) :
    Calls Tryz.prog 107 #[.pointer (some ⟨b, 0, none⟩), .int .i64 parent, .int .i64 node, .int .i64 before] w fun e w' => e = .returned (.int .i64 (A.allowed parent node before (A.contains node parent))) ∧ Below w.heap.size w w' := by
  obtain ⟨nb, c, h0, hm, hc, hfn, hnb, HH0, hN⟩ := hA.look
  have HH := Lib.hid HH0
  have HC := Lib.hid (fun W (hB : Below w.heap.size w W) => RContains_any A ρ b node parent W (hA.below hB) hW)
  clear HH0 hfn
  by_cases h1 : A.has parent
  case neg =>
    have hd1 : decide (A.has parent) = false := by simp [h1]
    have hfin : ∀ c, A.allowed parent node before c = 3 := fun c => by unfold Ar.allowed; rw [if_pos (.inl h1)]
    rw [hfin]
    clear hfin hN h1 hA
    go_enter Tryz.func107, Tryz.ntmps107
    go_wp2_with fail
    refine (HH.out _ _ h0).mono ?_
    rintro e w' ⟨rfl, rfl⟩
    rw [hd1]
    go_wp2
    go_ret
    exact ⟨rfl, Below.refl _ _⟩
  case pos =>
  have hd1 : decide (A.has parent) = true := by simp [h1]
  by_cases h2 : A.has node
  case neg =>
    have hd2 : decide (A.has node) = false := by simp [h2]
    have hfin : ∀ c, A.allowed parent node before c = 3 := fun c => by unfold Ar.allowed; rw [if_pos (.inr (.inl h2))]
    rw [hfin]
    clear hfin hN h1 h2 hA
    go_enter Tryz.func107, Tryz.ntmps107
    go_wp2_with fail
    refine (HH.out _ _ h0).mono ?_
    rintro e w' ⟨rfl, rfl⟩
    rw [hd1]
    go_wp2_with fail
    refine (HH.out _ _ h0).mono ?_
    rintro e w' ⟨rfl, rfl⟩
    rw [hd2]
    go_wp2
    go_ret
    exact ⟨rfl, Below.refl _ _⟩
  case pos =>
  have hd2 : decide (A.has node) = true := by simp [h2]
  obtain ⟨hp, hq, kv, av, F, -, -⟩ := hN parent h1
  obtain ⟨np, nq, kvn, avn, Fn, -, -⟩ := hN node h2
  have p0 := F.c0
  have n0 := Fn.c0
  have hx0 : (0 : Int) ≤ parent := by omega
  have hx1 : parent < ((A.ns.length + 1 : Nat) : Int) := by omega
  have hx2 : parent < (A.ns.length : Int) + 1 := by omega
  have hy0 : (0 : Int) ≤ node := by omega
  have hy1 : node < ((A.ns.length + 1 : Nat) : Int) := by omega
  have hy2 : node < (A.ns.length : Int) + 1 := by omega
  by_cases hb0 : before = 0
  case pos =>
    subst hb0
    have hfin : ∀ c, A.allowed parent node 0 c = if ¬ ((A.get parent).kind = 1 ∨ (A.get parent).kind = 2 ∨ (A.get parent).kind = 4) then 4 else if (A.get node).kind = 1 ∨ (A.get node).kind = 2 ∨ c = true then 4 else 0 := fun c => by
      unfold Ar.allowed; rw [if_neg (by simp [h1, h2])]; simp
    rw [hfin]
    clear hfin F Fn hN h1 h2 hA
    generalize (A.get parent).kind = pk at *
    generalize (A.get node).kind = nk at *
    by_cases hpk : pk = 1 ∨ pk = 2 ∨ pk = 4
    case neg =>
      rw [if_pos hpk]
      have q1 : (pk != 1) = true := by simp; exact fun e => hpk (.inl e)
      have q2 : (pk != 2) = true := by simp; exact fun e => hpk (.inr (.inl e))
      have q4 : (pk != 4) = true := by simp; exact fun e => hpk (.inr (.inr e))
      clear hpk
      go_enter Tryz.func107, Tryz.ntmps107
      go_wp2_with fail
      refine (HH.out _ _ h0).mono ?_
      rintro e w' ⟨rfl, rfl⟩
      rw [hd1]
      go_wp2_with fail
      refine (HH.out _ _ h0).mono ?_
      rintro e w' ⟨rfl, rfl⟩
      rw [hd2]
      go_wp2_with (go_quiet (fail))
      go_wp2
      go_ret
      exact ⟨rfl, Below.drewN (Below.refl _ _) _⟩
    case pos =>
    rw [if_neg (fun q => q hpk)]
    by_cases hnk : nk = 1 ∨ nk = 2
    case pos =>
      rw [if_pos (hnk.elim .inl (fun q => .inr (.inl q)))]
      rcases hpk with rfl | rfl | rfl <;> rcases hnk with rfl | rfl
      all_goals
        go_enter Tryz.func107, Tryz.ntmps107
        go_wp2_with fail
        refine (HH.out _ _ h0).mono ?_
        rintro e w' ⟨rfl, rfl⟩
        rw [hd1]
        go_wp2_with fail
        refine (HH.out _ _ h0).mono ?_
        rintro e w' ⟨rfl, rfl⟩
        rw [hd2]
        go_wp2_with (go_quiet (fail))
        go_wp2
        go_ret
        exact ⟨rfl, Below.drewN (Below.refl _ _) _⟩
    case neg =>
    have n1 : (nk == 1) = false := by simp; exact fun e => hnk (.inl e)
    have n2 : (nk == 2) = false := by simp; exact fun e => hnk (.inr e)
    have hnn : ∀ cc : Bool, (nk = 1 ∨ nk = 2 ∨ cc = true) ↔ cc = true := fun cc => ⟨fun h => h.elim (fun e => absurd (.inl e) hnk) (fun h => h.elim (fun e => absurd (.inr e) hnk) id), fun h => .inr (.inr h)⟩
    simp only [hnn]
    clear hnn hnk
    generalize hcb : A.contains node parent = cb
    have HCB := Lib.hid hcb
    clear hcb
    cases cb with
    | true =>
      rw [if_pos rfl]
      rcases hpk with rfl | rfl | rfl
      all_goals
        go_enter Tryz.func107, Tryz.ntmps107
        go_wp2_with fail
        refine (HH.out _ _ h0).mono ?_
        rintro e w' ⟨rfl, rfl⟩
        rw [hd1]
        go_wp2_with fail
        refine (HH.out _ _ h0).mono ?_
        rintro e w' ⟨rfl, rfl⟩
        rw [hd2]
        go_wp2_with (go_quiet (fail))
        go_wp2_with fail
        refine (HC.out _ (Below.drewN (Below.refl _ _) _)).mono ?_
        rintro e w2 ⟨rfl, rfl⟩
        rw [HCB.out]
        go_wp2
        go_ret
        exact ⟨rfl, Below.drewN (Below.refl _ _) _⟩
    | false =>
      rw [if_neg (by simp)]
      rcases hpk with rfl | rfl | rfl
      all_goals
        go_enter Tryz.func107, Tryz.ntmps107
        go_wp2_with fail
        refine (HH.out _ _ h0).mono ?_
        rintro e w' ⟨rfl, rfl⟩
        rw [hd1]
        go_wp2_with fail
        refine (HH.out _ _ h0).mono ?_
        rintro e w' ⟨rfl, rfl⟩
        rw [hd2]
        go_wp2_with (go_quiet (fail))
        go_wp2_with fail
        refine (HC.out _ (Below.drewN (Below.refl _ _) _)).mono ?_
        rintro e w2 ⟨rfl, rfl⟩
        rw [HCB.out]
        go_wp2
        go_ret
        exact ⟨rfl, Below.drewN (Below.refl _ _) _⟩
  case neg =>
  have hb1 : (before != 0) = true := by simpa using hb0
  by_cases h3 : A.has before
  case neg =>
    have hd3 : decide (A.has before) = false := by simp [h3]
    have hfin : ∀ c, A.allowed parent node before c = 3 := fun c => by unfold Ar.allowed; rw [if_pos (.inr (.inr ⟨hb0, h3⟩))]
    rw [hfin]
    clear hfin hN h1 h2 h3 hA F Fn hb0
    go_enter Tryz.func107, Tryz.ntmps107
    go_wp2_with fail
    refine (HH.out _ _ h0).mono ?_
    rintro e w' ⟨rfl, rfl⟩
    rw [hd1]
    go_wp2_with fail
    refine (HH.out _ _ h0).mono ?_
    rintro e w' ⟨rfl, rfl⟩
    rw [hd2]
    go_wp2_with fail
    refine (HH.out _ _ h0).mono ?_
    rintro e w' ⟨rfl, rfl⟩
    rw [hd3]
    go_wp2
    go_ret
    exact ⟨rfl, Below.refl _ _⟩
  case pos =>
  have hd3 : decide (A.has before) = true := by simp [h3]
  obtain ⟨bp, bq, kvb, avb, Fb, -, -⟩ := hN before h3
  have b1 := Fb.c1
  have hfin : ∀ c, A.allowed parent node before c = if ¬ ((A.get parent).kind = 1 ∨ (A.get parent).kind = 2 ∨ (A.get parent).kind = 4) then 4 else if (A.get node).kind = 1 ∨ (A.get node).kind = 2 ∨ c = true then 4 else if before = node ∨ (A.get before).parent ≠ parent then 5 else 0 := fun c => by
    unfold Ar.allowed; rw [if_neg (by simp [h1, h2, h3])]; simp [hb0]
  rw [hfin]
  clear hfin F Fn Fb hN h1 h2 h3 hA hb0
  generalize (A.get parent).kind = pk at *
  generalize (A.get node).kind = nk at *
  generalize (A.get before).parent = bpar at *
  by_cases hpk : pk = 1 ∨ pk = 2 ∨ pk = 4
  case neg =>
    rw [if_pos hpk]
    have q1 : (pk != 1) = true := by simp; exact fun e => hpk (.inl e)
    have q2 : (pk != 2) = true := by simp; exact fun e => hpk (.inr (.inl e))
    have q4 : (pk != 4) = true := by simp; exact fun e => hpk (.inr (.inr e))
    clear hpk
    go_enter Tryz.func107, Tryz.ntmps107
    go_wp2_with fail
    refine (HH.out _ _ h0).mono ?_
    rintro e w' ⟨rfl, rfl⟩
    rw [hd1]
    go_wp2_with fail
    refine (HH.out _ _ h0).mono ?_
    rintro e w' ⟨rfl, rfl⟩
    rw [hd2]
    go_wp2_with fail
    refine (HH.out _ _ h0).mono ?_
    rintro e w' ⟨rfl, rfl⟩
    rw [hd3]
    go_wp2_with (go_quiet (fail))
    go_wp2
    go_ret
    exact ⟨rfl, Below.drewN (Below.refl _ _) _⟩
  case pos =>
  rw [if_neg (fun q => q hpk)]
  by_cases hnk : nk = 1 ∨ nk = 2
  case pos =>
    rw [if_pos (hnk.elim .inl (fun q => .inr (.inl q)))]
    rcases hpk with rfl | rfl | rfl <;> rcases hnk with rfl | rfl
    all_goals
      go_enter Tryz.func107, Tryz.ntmps107
      go_wp2_with fail
      refine (HH.out _ _ h0).mono ?_
      rintro e w' ⟨rfl, rfl⟩
      rw [hd1]
      go_wp2_with fail
      refine (HH.out _ _ h0).mono ?_
      rintro e w' ⟨rfl, rfl⟩
      rw [hd2]
      go_wp2_with fail
      refine (HH.out _ _ h0).mono ?_
      rintro e w' ⟨rfl, rfl⟩
      rw [hd3]
      go_wp2_with (go_quiet (fail))
      go_wp2
      go_ret
      exact ⟨rfl, Below.drewN (Below.refl _ _) _⟩
  case neg =>
  have n1 : (nk == 1) = false := by simp; exact fun e => hnk (.inl e)
  have n2 : (nk == 2) = false := by simp; exact fun e => hnk (.inr e)
  have hnn : ∀ cc : Bool, (nk = 1 ∨ nk = 2 ∨ cc = true) ↔ cc = true := fun cc => ⟨fun h => h.elim (fun e => absurd (.inl e) hnk) (fun h => h.elim (fun e => absurd (.inr e) hnk) id), fun h => .inr (.inr h)⟩
  simp only [hnn]
  clear hnn hnk
  generalize hcb : A.contains node parent = cb
  have HCB := Lib.hid hcb
  clear hcb
  cases cb with
  | true =>
    rw [if_pos rfl]
    rcases hpk with rfl | rfl | rfl
    all_goals
      go_enter Tryz.func107, Tryz.ntmps107
      go_wp2_with fail
      refine (HH.out _ _ h0).mono ?_
      rintro e w' ⟨rfl, rfl⟩
      rw [hd1]
      go_wp2_with fail
      refine (HH.out _ _ h0).mono ?_
      rintro e w' ⟨rfl, rfl⟩
      rw [hd2]
      go_wp2_with fail
      refine (HH.out _ _ h0).mono ?_
      rintro e w' ⟨rfl, rfl⟩
      rw [hd3]
      go_wp2_with (go_quiet (fail))
      go_wp2_with fail
      refine (HC.out _ (Below.drewN (Below.refl _ _) _)).mono ?_
      rintro e w2 ⟨rfl, rfl⟩
      rw [HCB.out]
      go_wp2
      go_ret
      exact ⟨rfl, Below.drewN (Below.refl _ _) _⟩
  | false =>
    rw [if_neg (by simp)]
    by_cases hbn : before = node
    case pos =>
      rw [if_pos (.inl hbn)]
      have z1 : (before == node) = true := by simp [hbn]
      have HZ := Lib.hid hbn
      clear hbn
      rcases hpk with rfl | rfl | rfl
      all_goals
        go_enter Tryz.func107, Tryz.ntmps107
        go_wp2_with fail
        refine (HH.out _ _ h0).mono ?_
        rintro e w' ⟨rfl, rfl⟩
        rw [hd1]
        go_wp2_with fail
        refine (HH.out _ _ h0).mono ?_
        rintro e w' ⟨rfl, rfl⟩
        rw [hd2]
        go_wp2_with fail
        refine (HH.out _ _ h0).mono ?_
        rintro e w' ⟨rfl, rfl⟩
        rw [hd3]
        go_wp2_with (go_quiet (fail))
        go_wp2_with fail
        refine (HC.out _ (Below.drewN (Below.refl _ _) _)).mono ?_
        rintro e w2 ⟨rfl, rfl⟩
        rw [HCB.out]
        go_wp2
        go_ret
        exact ⟨rfl, Below.drewN (Below.refl _ _) _⟩
    case neg =>
    have z1 : (before == node) = false := by simpa using hbn
    by_cases hbp : bpar = parent
    case neg =>
      rw [if_pos (.inr hbp)]
      have z2 : (bpar != parent) = true := by simpa using hbp
      clear hbp hbn
      rcases hpk with rfl | rfl | rfl
      all_goals
        go_enter Tryz.func107, Tryz.ntmps107
        go_wp2_with fail
        refine (HH.out _ _ h0).mono ?_
        rintro e w' ⟨rfl, rfl⟩
        rw [hd1]
        go_wp2_with fail
        refine (HH.out _ _ h0).mono ?_
        rintro e w' ⟨rfl, rfl⟩
        rw [hd2]
        go_wp2_with fail
        refine (HH.out _ _ h0).mono ?_
        rintro e w' ⟨rfl, rfl⟩
        rw [hd3]
        go_wp2_with (go_quiet (fail))
        go_wp2_with fail
        refine (HC.out _ (Below.drewN (Below.refl _ _) _)).mono ?_
        rintro e w2 ⟨rfl, rfl⟩
        rw [HCB.out]
        go_wp2
        go_ret
        exact ⟨rfl, Below.drewN (Below.refl _ _) _⟩
    case pos =>
    rw [if_neg (fun q => q.elim hbn (fun q => q hbp))]
    have z2 : (bpar != parent) = false := by simpa using hbp
    have HZ := Lib.hid (And.intro hbp hbn)
    clear hbp hbn
    rcases hpk with rfl | rfl | rfl
    all_goals
      go_enter Tryz.func107, Tryz.ntmps107
      go_wp2_with fail
      refine (HH.out _ _ h0).mono ?_
      rintro e w' ⟨rfl, rfl⟩
      rw [hd1]
      go_wp2_with fail
      refine (HH.out _ _ h0).mono ?_
      rintro e w' ⟨rfl, rfl⟩
      rw [hd2]
      go_wp2_with fail
      refine (HH.out _ _ h0).mono ?_
      rintro e w' ⟨rfl, rfl⟩
      rw [hd3]
      go_wp2_with (go_quiet (fail))
      go_wp2_with fail
      refine (HC.out _ (Below.drewN (Below.refl _ _) _)).mono ?_
      rintro e w2 ⟨rfl, rfl⟩
      rw [HCB.out]
      go_wp2
      go_ret
      exact ⟨rfl, Below.drewN (Below.refl _ _) _⟩

end Go.Proofs.YtnfdcfagdidmhaaGreatDoor
