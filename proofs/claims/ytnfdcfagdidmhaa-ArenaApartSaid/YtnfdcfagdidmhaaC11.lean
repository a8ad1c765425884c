/-
  PROVED: thicketlaw04.ArenaApart returns true for all readable arguments, and these read behind the call as before. Conditions: none.
-/
import Derived.Test.YtnfdcfagdidmhaaRows
import Derived.Test.YtnfdcfagdidmhaaC0b
import Derived.Test.YtnfdcfagdidmhaaAP
import Derived.ProofKit
import Derived.OpenShut
namespace Go.Proofs.Ytnfdcfagdidmhaa
open Go.ChangeShapes Go.WideShapes Go.ChangeAt Go.RowKit
set_option linter.unusedVariables false

set_option maxRecDepth 100000 in
theorem arenaApart_lifted (os : Os) (started : os.Started) (H : Type) (enc : TypeId × Value → H) :
    ReturnsInHanded {} Try.checked os 15 .any (Rows.arenaApartSpec.pre6 enc Try.prog Try.f15 Rows.arenaApartRow.domain false) (Rows.arenaApartSpec.post enc Try.prog Try.f15 false true false false) := by
  refine returnsInHanded_of_change (C := Try.checked) own_knob started (by kernel_rfl) Try.func15
    (ChangeSpec.witness6 (enc := enc) (C := Try.checked) false ⟨#[], #[.slice none 0 0, .slice none 0 0], []⟩ 8 (by kernel_rfl) (by kernel_rfl) (by kernel_rfl) (by kernel_rfl)) ?_
  intro W base args ds gs before hval0 hW hcnd _
  have hval : ∀ (j : Nat) t v, Try.f15.params[j]? = some t → args[j]? = some v → Value.okWide Try.prog W .any base t v := hval0
  have hW' := hW
  obtain ⟨p, q, hA0, hV, rfl, hfz, hnd⟩ := hW
  have hA : DataW.TrodAll enc Try.prog W 0 (fun _ => true) true Try.f15.params.toList args.toList ds p := hA0
  rw [Try.params15] at hA hval
  obtain ⟨v0, vs0, d0, ds0, p0, q0, hargs, rfl, rfl, h0, r0⟩ := trodAll_cons hA
  obtain ⟨v1, vs1, d1, ds1, p1, q1, rfl, rfl, rfl, h1, r1⟩ := trodAll_cons r0
  obtain ⟨rfl, rfl, rfl⟩ := trodAll_nil r1
  obtain rfl : args = #[v0, v1] := by cases args; simp_all
  obtain ⟨rfl, rfl⟩ := trodVars_none hV
  obtain ⟨l0, hl0⟩ := arg_ops (hval 0 22 v0 rfl rfl) h0
  obtain ⟨l1, hl1⟩ := arg_ops (hval 1 22 v1 rfl rfl) h1
  clear hA0 hval0
  simp only [List.append_nil] at hW'
  have hlt : ∀ x, x.block < W.heap.size ∨ x ∉ p0 ++ p1 := fun x => by
    by_cases hx : x ∈ p0 ++ p1
    · exact .inl (by simpa using hW'.lt x (by simpa using hx))
    · exact .inr hx
  refine (ArenaApart_any v0 l0 v1 l1 W hl0 hl1).mono fun e W' ⟨he, hb⟩ => ?_
  subst he
  refine ⟨_, rfl, _, _, _, [], p0 ++ (p1 ++ ([])), [], hW', trodAll_mk1 (shut_bool Try.underlying4 _), (trodAll_cons_mk (Below.trod laid_out (by kernel_rfl) (of_decide_eq_true (by kernel_rfl)) h0 hb (fun x hx => (hlt x).resolve_right (fun hn => hn (by simp [hx])))) (trodAll_cons_mk (Below.trod laid_out (by kernel_rfl) (of_decide_eq_true (by kernel_rfl)) h1 hb (fun x hx => (hlt x).resolve_right (fun hn => hn (by simp [hx])))) trodAll_mk0)), rfl, hb.frame _, fun h => by cases h⟩

theorem arenaApart_holds : Rows.ArenaApartSaid :=
  OpenClaim.holds_of_wide 15 Try.f15 rfl rfl rfl rfl rfl rfl rfl ⟨rfl, rfl, rfl, rfl, rfl⟩ rfl rfl rfl rfl rfl (by kernel_rfl) Try.func15 (by kernel_rfl)
    (of_decide_eq_true (by kernel_rfl)) (by unfold Func.isWrapper; first | (rw [if_pos (by decide +kernel)]; kernel_rfl) | (rw [if_neg (by decide +kernel)]; exact ⟨rfl, rfl⟩))
    (fun os started H enc _ => arenaApart_lifted os started H enc)

#print axioms arenaApart_holds
end Go.Proofs.Ytnfdcfagdidmhaa
