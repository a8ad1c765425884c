/-
  PROVED: thicketlaw05.DomNormalizes returns true for all readable arguments, and these read behind the call as before. Conditions: none.
-/
import Derived.Test.YtpicinjcmjaogaaGreatRows
import Derived.Test.YtpicinjcmjaogaaGreatXE48F
import Derived.ProofKit
import Derived.OpenShut
import Derived.Test.YtpicinjcmjaogaaGreatX44
namespace Go.Proofs.YtpicinjcmjaogaaGreat
open Go.ChangeShapes Go.WideShapes Go.ChangeAt Go.RowKit
set_option linter.unusedVariables false

set_option maxRecDepth 100000 in
theorem domNormalizes_lifted (os : Os) (started : os.Started) (H : Type) (enc : TypeId × Value → H) :
    ReturnsInHanded {} Tryz.checked os 18 .any (Rows.domNormalizesSpec.pre6 enc Tryz.prog Tryz.f18 Rows.domNormalizesRow.domain false) (Rows.domNormalizesSpec.post enc Tryz.prog Tryz.f18 false true false false) := by
  refine returnsInHanded_of_change (C := Tryz.checked) own_knob started (by kernel_rfl) Tryz.func18
    (ChangeSpec.witness6 (enc := enc) (C := Tryz.checked) false ⟨#[], #[.slice none 0 0, .int .i64 0], []⟩ 8 (by kernel_rfl) (by kernel_rfl) (by kernel_rfl) (by kernel_rfl)) ?_
  intro W base args ds gs before hval0 hW hcnd _
  have hval : ∀ (j : Nat) t v, Tryz.f18.params[j]? = some t → args[j]? = some v → Value.okWide Tryz.prog W .any base t v := hval0
  have hW' := hW
  obtain ⟨p, q, hA0, hV, rfl, hfz, hnd⟩ := hW
  have hA : DataW.TrodAll enc Tryz.prog W 0 (fun _ => true) true Tryz.f18.params.toList args.toList ds p := hA0
  rw [Tryz.params18] at hA hval
  obtain ⟨v0, vs0, d0, ds0, p0, q0, hargs, rfl, rfl, h0, r0⟩ := trodAll_cons hA
  obtain ⟨v1, vs1, d1, ds1, p1, q1, rfl, rfl, rfl, h1, r1⟩ := trodAll_cons r0
  obtain ⟨rfl, rfl, rfl⟩ := trodAll_nil r1
  obtain rfl : args = #[v0, v1] := by cases args; simp_all
  obtain ⟨rfl, rfl⟩ := trodVars_none hV
  obtain ⟨l0, hl0⟩ := arg_ops (hval 0 38 v0 rfl rfl) h0
  obtain ⟨a1, rfl, rfl, rfl, w1⟩ := open_int Tryz.underlying3 (hval 1 3 v1 rfl rfl) h1
  clear hA0 hval0
  simp only [List.append_nil] at hW'
  have hlt : ∀ x, x.block < W.heap.size ∨ x ∉ p0 := fun x => by
    by_cases hx : x ∈ p0
    · exact .inl (by simpa using hW'.lt x (by simpa using hx))
    · exact .inr hx
  refine (DomNormalizes_any v0 l0 a1 W hl0).mono fun e W' ⟨he, hb⟩ => ?_
  subst he
  refine ⟨_, rfl, _, _, _, [], p0 ++ ([] ++ ([])), [], hW', trodAll_mk1 (shut_bool Tryz.underlying4 _), (trodAll_cons_mk (Below.trod laid_out (by kernel_rfl) (of_decide_eq_true (by kernel_rfl)) h0 hb (fun x hx => (hlt x).resolve_right (fun hn => hn (by simp [hx])))) (trodAll_cons_mk (shut_int Tryz.underlying3 w1) trodAll_mk0)), rfl, hb.frame _, fun h => by cases h⟩

theorem domNormalizes_holds : Rows.DomNormalizesSaid :=
  OpenClaim.holds_of_wide 18 Tryz.f18 rfl rfl rfl rfl rfl rfl rfl ⟨rfl, rfl, rfl, rfl, rfl⟩ rfl rfl rfl rfl rfl (by kernel_rfl) Tryz.func18 domNormalizes_facts
    (of_decide_eq_true (by kernel_rfl)) (by unfold Func.isWrapper; first | (rw [if_pos (by decide +kernel)]; kernel_rfl) | (rw [if_neg (by decide +kernel)]; exact ⟨rfl, rfl⟩))
    (fun os started H enc _ => domNormalizes_lifted os started H enc)

#print axioms domNormalizes_holds
end Go.Proofs.YtpicinjcmjaogaaGreat
