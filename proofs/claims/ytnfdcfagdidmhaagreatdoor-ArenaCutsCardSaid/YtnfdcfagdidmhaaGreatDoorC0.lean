/-
  What the frames of the laws share.
-/
import Derived.Test.YtnfdcfagdidmhaaGreatDoorGE
import Derived.ProofKit
namespace Go.Proofs.YtnfdcfagdidmhaaGreatDoor
open Go.ChangeShapes Go.WideShapes Go.ChangeAt Go.RowKit
set_option linter.unusedVariables false

theorem own_knob : ownKnob Tryz.prog.godebug = none := by kernel_rfl
theorem laid_out : laidOutB Tryz.prog = true := by kernel_rfl

set_option maxRecDepth 100000 in
/-- A list of operations that came in. -/
theorem arg_ops {H : Type} {enc : TypeId × Value → H} {W : World} {base : Nat} {spare : Nat → Bool} {held : Bool} {v : Value} {d : DataW H} {p : List MemPlace} {r : Reach} {b0 : Nat}
    (hv : Value.okWide Tryz.prog W r b0 22 v) (h : DataW.Trod enc Tryz.prog W base spare held 22 v d p) : ∃ l, ROps W v l := by
  obtain ⟨a, len, cap, rfl⟩ := okWide_slice Tryz.underlying22 hv
  obtain ⟨fuel, hf⟩ := h
  simp only [Value.cells] at hf
  exact open_ops (fuel := fuel) (x := (d, p)) hf

end Go.Proofs.YtnfdcfagdidmhaaGreatDoor
