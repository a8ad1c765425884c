/-
  The law ArenaInert: the walk.
-/
import Derived.Test.YtnfdcfagdidmhaaGreatDoorL1
namespace Go.Proofs.YtnfdcfagdidmhaaGreatDoor
open Go.RowKit
set_option linter.unusedVariables false

theorem beq_false_of {a b : Int} (h : a ≠ b) : (a == b) = false := by simp [h]

/-- The law's first test fails: it answers by 'known'. -/
theorem Own.back {w0 w w' : World} {B : Nat} {l : List Asrt} (h : Own w0 B l w) (hb : Below w.heap.size w w') : Below B w0 w' := h.low.trans (hb.mono h.big)

/-- 'Run' beside other things. -/
theorem Run_own {w0 w : World} {B : Nat} {l : List Asrt} (o : Own w0 B l w) (v : Value) (ops : List OpD) (hv : ROps w v ops) (hlen : ops.length ≤ 1000) (hsm : ∀ x ∈ ops, x.attrs.length ≤ 20) :
    Calls Tryz.prog 11 #[v] w fun e w' => e = .returned (.pointer (some ⟨w.heap.size, 0, none⟩)) ∧ Own w0 B (.arena w.heap.size (runL ops) :: l) w' := by
  refine (Run_any v ops w hv hlen hsm).mono ?_
  rintro e w' ⟨rfl, h⟩
  exact ⟨rfl, o.fresh h.low (h.get (by simp))⟩

theorem smallOps_get {l : List OpD} {m : Int} (h : smallOps l m) (hm : m ≤ 1000) : l.length ≤ 1000 ∧ ∀ x ∈ l, x.attrs.length ≤ 20 := ⟨by have := h.1; omega, fun x hx => (h.2 x hx).2.2.2.1⟩
theorem run_len {l : List OpD} (h : ∀ x ∈ l, x.attrs.length ≤ 20) : (runL l).Inv ∧ (runL l).ns.length ≤ 3 * l.length := by
  have := run_inv (k := l.length) h (Nat.le_refl _)
  rwa [List.take_length] at this

end Go.Proofs.YtnfdcfagdidmhaaGreatDoor
