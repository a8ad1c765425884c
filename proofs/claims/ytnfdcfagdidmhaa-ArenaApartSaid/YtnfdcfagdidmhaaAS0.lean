/-
  Two nodes with equal trees: the relation, plain.
-/
import Derived.Test.YtnfdcfagdidmhaaT4
import Derived.Test.YtnfdcfagdidmhaaW2
namespace Go.Proofs.Ytnfdcfagdidmhaa
set_option linter.unusedVariables false

/-- Two nodes, with all that hangs below them, are alike. -/
inductive AlkP (A B : Ar) : Int → Int → Prop
  | mk {h k : Int} (ha : A.has h) (hb : B.has k) (h1 : alikeP (A.get h) (B.get k)) (h2 : (A.get h).kids.length = (B.get k).kids.length) (h3 : (A.get h).contents = 0 ↔ (B.get k).contents = 0)
      (h4 : (A.get h).contents ≠ 0 → AlkP A B (A.get h).contents (B.get k).contents) (h5 : ∀ (i : Nat) (x y : Int), (A.get h).kids[i]? = some x → (B.get k).kids[i]? = some y → AlkP A B x y) : AlkP A B h k

theorem alikeP_symm {x y : Nd} (h : alikeP x y) : alikeP y x := by
  obtain ⟨a, b, c, d, e, f, g, i⟩ := h
  exact ⟨a.symm, b.symm, c.symm, d.symm, e.symm, f.symm, g.symm, i.symm⟩
theorem AlkP.symm {A B : Ar} {h k : Int} (q : AlkP A B h k) : AlkP B A k h := by
  induction q with
  | mk ha hb h1 h2 h3 h4 h5 ih4 ih5 => exact .mk hb ha (alikeP_symm h1) h2.symm h3.symm (fun hc => ih4 (fun e => hc (h3.1 e))) (fun i x y hx hy => ih5 i y x hy hx)
theorem AlkP.iff_symm {A B : Ar} {h k : Int} : AlkP A B h k ↔ AlkP B A k h := ⟨.symm, .symm⟩
theorem AlkP.refl {A : Ar} (hI : A.Inv) : ∀ h, A.has h → AlkP A A h h :=
  walk_ind hI (fun h hh ihc ihk => .mk hh hh ⟨rfl, rfl, rfl, rfl, rfl, rfl, rfl, rfl⟩ rfl Iff.rfl ihc (fun i x y hx hy => by
    rw [hx] at hy; simp at hy; subst hy; exact ihk x (List.mem_of_getElem? hx)))
theorem AlkP.inv {A B : Ar} {h k : Int} (q : AlkP A B h k) : A.has h ∧ B.has k ∧ alikeP (A.get h) (B.get k) ∧ (A.get h).kids.length = (B.get k).kids.length ∧ ((A.get h).contents = 0 ↔ (B.get k).contents = 0) ∧
    ((A.get h).contents ≠ 0 → AlkP A B (A.get h).contents (B.get k).contents) ∧ ∀ (i : Nat) (x y : Int), (A.get h).kids[i]? = some x → (B.get k).kids[i]? = some y → AlkP A B x y := by
  cases q with
  | mk ha hb h1 h2 h3 h4 h5 => exact ⟨ha, hb, h1, h2, h3, h4, h5⟩

end Go.Proofs.Ytnfdcfagdidmhaa
