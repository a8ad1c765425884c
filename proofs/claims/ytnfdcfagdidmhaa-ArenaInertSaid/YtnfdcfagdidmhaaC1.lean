/-
  PROVED: thicketlaw04.ArenaInert returns true for every readable list of operations and every integer, and its arguments read behind the call as before. Conditions: none.
-/
import Derived.Test.YtnfdcfagdidmhaaRows
import Derived.Test.YtnfdcfagdidmhaaL3
import Derived.ProofKit
namespace Go.Proofs.Ytnfdcfagdidmhaa
open Go.ChangeShapes Go.WideShapes Go.ChangeAt Go.RowKit
set_option linter.unusedVariables false

theorem own_knob : ownKnob Try.prog.godebug = none := by kernel_rfl
theorem laid_out : laidOutB Try.prog = true := by kernel_rfl

set_option maxRecDepth 100000 in
/-- A list of operations that came in. -/
theorem arg_ops {H : Type} {enc : TypeId × Value → H} {W : World} {base : Nat} {spare : Nat → Bool} {held : Bool} {v : Value} {d : DataW H} {p : List MemPlace} {r : Reach} {b0 : Nat}
    (hv : Value.okWide Try.prog W r b0 22 v) (h : DataW.Trod enc Try.prog W base spare held 22 v d p) : ∃ l, ROps W v l := by
  obtain ⟨a, len, cap, rfl⟩ := okWide_slice Try.underlying22 hv
  obtain ⟨fuel, hf⟩ := h
  simp only [Value.cells] at hf
  exact open_ops (fuel := fuel) (x := (d, p)) hf

set_option maxRecDepth 100000 in
theorem arenaInert_lifted (os : Os) (started : os.Started) (H : Type) (enc : TypeId × Value → H) :
    ReturnsInHanded {} Try.checked os 3 .any (Rows.arenaInertSpec.pre6 enc Try.prog Try.f3 Rows.arenaInertRow.domain false) (Rows.arenaInertSpec.post enc Try.prog Try.f3 false true false false) := by
  refine returnsInHanded_of_change (C := Try.checked) own_knob started (by kernel_rfl) Try.func3
    (ChangeSpec.witness6 (enc := enc) (C := Try.checked) false ⟨#[], #[.slice none 0 0, .int .i64 0], []⟩ 8 (by kernel_rfl) (by kernel_rfl) (by kernel_rfl) (by kernel_rfl)) ?_
  intro W base args ds gs before hval0 hW hcnd _
  have hval : ∀ (j : Nat) t v, Try.f3.params[j]? = some t → args[j]? = some v → Value.okWide Try.prog W .any base t v := hval0
  have hW' := hW
  obtain ⟨p, q, hA0, hV, rfl, hfz, hnd⟩ := hW
  have hA : DataW.TrodAll enc Try.prog W 0 (fun _ => true) true Try.f3.params.toList args.toList ds p := hA0
  rw [Try.params3] at hA hval
  obtain ⟨v0, v1, d0, d1, p0, p1, rfl, rfl, rfl, h0, h1⟩ := trodAll_two hA
  obtain ⟨rfl, rfl⟩ := trodVars_none hV
  obtain ⟨l, hl⟩ := arg_ops (hval 0 22 v0 rfl rfl) h0
  obtain ⟨a, rfl, rfl, rfl, wa⟩ := open_int Try.underlying3 (hval 1 3 v1 rfl rfl) h1
  clear hA0 hval0
  simp only [List.append_nil] at hW'
  have hlt : ∀ x ∈ p0, x.block < W.heap.size := fun x hx => by simpa using hW'.lt x (by simpa using hx)
  refine (ArenaInert_any v0 l a W hl).mono fun e W' ⟨he, hb⟩ => ?_
  subst he
  refine ⟨_, rfl, _, _, _, [], p0 ++ [], [], hW', trodAll_mk1 (shut_bool Try.underlying4 _), trodAll_mk2 (Below.trod laid_out (by kernel_rfl) (of_decide_eq_true (by kernel_rfl)) h0 hb hlt) (shut_int Try.underlying3 wa), rfl, hb.frame _, fun h => by cases h⟩

theorem arenaInert_holds : Rows.ArenaInertSaid :=
  OpenClaim.holds_of_wide 3 Try.f3 rfl rfl rfl rfl rfl rfl rfl ⟨rfl, rfl, rfl, rfl, rfl⟩ rfl rfl rfl rfl rfl (by kernel_rfl) Try.func3 (by kernel_rfl)
    (of_decide_eq_true (by kernel_rfl)) (by unfold Func.isWrapper; first | (rw [if_pos (by decide +kernel)]; kernel_rfl) | (rw [if_neg (by decide +kernel)]; exact ⟨rfl, rfl⟩))
    (fun os started H enc _ => arenaInert_lifted os started H enc)

#print axioms arenaInert_holds
end Go.Proofs.Ytnfdcfagdidmhaa
