/-
  Cut leaves the text of a tree as it was. No program here.
-/
import Derived.Test.YtnfdcfagdidmhaaGreatDoorQP
namespace Go.Proofs.YtnfdcfagdidmhaaGreatDoor
set_option linter.unusedVariables false

theorem lineD_re (n : Nd) (k : List Int) (p : Int) (d : Nat) : lineD (n.re k p) d = lineD n d := rfl
theorem flat_congr {α β : Type} {f g : α → List β} : ∀ (l : List α), (∀ x ∈ l, f x = g x) → l.flatMap f = l.flatMap g
  | [], _ => rfl
  | x :: l, h => by rw [List.flatMap_cons, List.flatMap_cons, h x (by simp), flat_congr l (fun y hy => h y (by simp [hy]))]
theorem cut_dump {A : Ar} (hI : A.Inv) {h : Int} (hh : A.has h) : ∀ x, A.has x → A.depth h ≤ A.depth x → ∀ d, (A.cut h).dump x d = A.dump x d := by
  have hJ : (A.cut h).Inv := hI.cut hh
  refine walk_ind hI (fun x hx hc hk hle d => ?_)
  rw [dump_eq hJ ((Ar.cut_has A h x).2 hx), dump_eq hI hx]
  have hne : x ≠ (A.get h).parent := by
    intro e
    have hz : (A.get h).parent ≠ 0 := by rw [← e]; have := hx.1; omega
    have hu : A.up h = x := by rw [e]; unfold Ar.up; rw [if_pos hz]
    have := depth_link hI hh hx hu
    omega
  have hg := Ar.cut_get hI hh hx
  rw [if_neg hne] at hg
  have e1 : lineD ((A.cut h).get x) d = lineD (A.get x) d := by rw [hg]; rfl
  have e2 : ((A.cut h).get x).contents = (A.get x).contents := by rw [hg]
  have e3 : ((A.cut h).get x).kids = (A.get x).kids := by rw [hg]
  rw [e1, e2, e3]
  congr 1
  congr 1
  · split
    · rename_i q
      obtain ⟨z1, z2, _⟩ := contents_up hI hx q
      exact hc q (by rw [depth_link hI z1 hx z2]; omega) _
    · rfl
  · refine flat_congr _ (fun k hkk => ?_)
    obtain ⟨z1, z2, _⟩ := kid_up hI hx hkk
    exact hk k hkk (by rw [depth_link hI z1 hx z2]; omega) _
/-- The tree of a node that is taken away keeps its text. -/
theorem cut_dump_own {A : Ar} (hI : A.Inv) {h : Int} (hh : A.has h) (d : Nat) : (A.cut h).dump h d = A.dump h d := cut_dump hI hh h hh (Nat.le_refl _) d
end Go.Proofs.YtnfdcfagdidmhaaGreatDoor

namespace Go.Proofs.YtnfdcfagdidmhaaGreatDoor
/-- The spaces in a sound arena are single digits. -/
theorem spaces_of {A : Ar} (hI : A.Inv) : ∀ x, A.has x → (0 ≤ (A.get x).space ∧ (A.get x).space < 100) ∧ ∀ a ∈ (A.get x).attrs, 0 ≤ a.1 ∧ a.1 < 100 := fun x hx =>
  ⟨⟨(hI.loc x hx).sp.1, by have := (hI.loc x hx).sp.2; omega⟩, fun a ha => ⟨((hI.loc x hx).at1 a ha).1, by have := ((hI.loc x hx).at1 a ha).2; omega⟩⟩
end Go.Proofs.YtnfdcfagdidmhaaGreatDoor

namespace Go.Proofs.YtnfdcfagdidmhaaGreatDoor
/-- How long the text of a tree is at most: far below what the Builder lets in. -/
theorem dump_bound {A : Ar} (hI : A.Inv) (hM : ∀ x, A.has x → (lineL (A.get x)).length ≤ 40000) (hn : A.ns.length ≤ 100000) (h : Int) (d : Nat) (hd : d ≤ 100000) : (A.dump h d).length ≤ 140737488355328 := by
  by_cases hh : A.has h
  · refine Nat.le_trans (dump_len hI hM h hh d) (Nat.le_trans (Nat.mul_le_mul (Nat.le_trans (walk_len hI h) hn) (show _ ≤ 1000000 from ?_)) (by decide))
    omega
  · have : A.dump h d = [] := if_neg hh
    rw [this]; exact Nat.zero_le _
end Go.Proofs.YtnfdcfagdidmhaaGreatDoor
