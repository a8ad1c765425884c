/-
  What the frames of the laws share.
-/
import Derived.Test.YtnfdcfagdidmhaaGE
import Derived.ProofKit
namespace Go.Proofs.Ytnfdcfagdidmhaa
open Go.ChangeShapes Go.WideShapes Go.ChangeAt Go.RowKit
set_option linter.unusedVariables false

theorem own_knob : ownKnob Try.prog.godebug = none := by kernel_rfl
theorem laid_out : laidOutB Try.prog = true := by kernel_rfl

set_option maxRecDepth 100000 in
/-- A list of operations that came in. -/
theorem arg_ops {H : Type} {enc : TypeId × Value → H} {W : World} {base : Nat} {spare : Nat → Bool} {held : Bool} {v : Value} {d : DataW H} {p : List MemPlace} {r : Reach} {b0 : Nat}
    (hv : Value.okWide Try.prog W r b0 22 v) (h : DataW.Trod enc Try.prog W base spare held 22 v d p) : ∃ l, ROps W v l := by
  obtain ⟨a, len, cap, rfl⟩ := okWide_slice Try.underlying22 hv
  obtain ⟨fuel, hf⟩ := h
  simp only [Value.cells] at hf
  exact open_ops (fuel := fuel) (x := (d, p)) hf

end Go.Proofs.Ytnfdcfagdidmhaa
