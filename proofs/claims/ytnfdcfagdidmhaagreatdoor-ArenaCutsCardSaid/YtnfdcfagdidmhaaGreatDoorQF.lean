/-
  Dump as a call beside a list of things in memory.
-/
import Derived.Test.YtnfdcfagdidmhaaGreatDoorQE
import Derived.Test.YtnfdcfagdidmhaaGreatDoorQS
import Derived.Test.YtnfdcfagdidmhaaGreatDoorQU
namespace Go.Proofs.YtnfdcfagdidmhaaGreatDoor
open Go.RowKit
set_option linter.unusedVariables false

theorem Ar.SmallN.at {A : Ar} (h : A.SmallN) {x : Int} (hx : A.has x) : smallNd (A.get x) := h _ (List.mem_of_getElem? (Ar.get_some hx))
theorem line_bound {A : Ar} (hI : A.Inv) (hS : A.SmallN) : ∀ x, A.has x → (lineL (A.get x)).length ≤ 40000 := fun x hx =>
  lineL_len (hS.at hx) (by have := (hI.loc x hx).sp; exact ⟨this.1, by have := this.2; omega⟩) (fun a ha => by have := (hI.loc x hx).at1 a ha; exact ⟨this.1, by have := this.2; omega⟩)
theorem Dump_own {w0 w : World} {B b : Nat} {A : Ar} {l : List Asrt} {h : Int} (o : Own w0 B l w) (hm : Asrt.arena b A ∈ l) (hI : A.Inv) (hS : A.SmallN) (hn : A.ns.length ≤ 100000) {q : ByteArray} (hq : ⟨(A.dump h 0).toArray⟩ = q) :
    Calls Tryz.prog 9 #[.pointer (some ⟨b, 0, none⟩), .int .i64 h] w fun e w' => e = .returned (.string q) ∧ Own w0 B l w' := by
  subst hq
  obtain ⟨ρ, hA⟩ := o.arena hm
  refine (q_Dump w ρ b A hI hA (fun x hx => hS.at hx) (spaces_of hI) h (dump_bound hI (line_bound hI hS) hn h 0 (by omega))).mono ?_
  rintro e w' ⟨rfl, hB⟩
  exact ⟨rfl, o.read hB⟩
end Go.Proofs.YtnfdcfagdidmhaaGreatDoor
