/-
  Attributes in an arena that short operations have made are short.
-/
import Derived.Test.YtnfdcfagdidmhaaGreatDoorGE
namespace Go.Proofs.YtnfdcfagdidmhaaGreatDoor
set_option linter.unusedVariables false

def Ar.SmallA (A : Ar) : Prop := ∀ n ∈ A.ns, ∀ a ∈ n.attrs, attrSmall a

theorem Ar.SmallA.add {A : Ar} (h : A.SmallA) {n : Nd} (hn : ∀ a ∈ n.attrs, attrSmall a) : (A.add n).SmallA := by
  intro m hm
  rcases List.mem_append.1 (show m ∈ A.ns ++ [n] from hm) with hm | hm
  · exact h m hm
  · rw [List.mem_singleton.1 hm]; exact hn
theorem Ar.SmallA.mod {A : Ar} (h : A.SmallA) (x : Int) {f : Nd → Nd} (hf : ∀ m : Nd, (∀ a ∈ m.attrs, attrSmall a) → ∀ a ∈ (f m).attrs, attrSmall a) : (A.mod x f).SmallA := by
  intro m hm
  obtain ⟨i, hi⟩ := List.mem_iff_getElem?.1 (show m ∈ A.ns.modify (x.toNat - 1) f from hm)
  rw [List.getElem?_modify] at hi
  cases hq : A.ns[i]? with
  | none => rw [hq] at hi; simp at hi
  | some q =>
    rw [hq] at hi
    have hq' := h q (List.mem_of_getElem? hq)
    simp only [Option.map_eq_map, Option.map_some, Option.some.injEq] at hi
    split at hi
    · rw [← hi]; exact hf q hq'
    · rw [← hi]; exact hq'
theorem nil_small : ∀ a ∈ ([] : List AttrD), attrSmall a := fun a h => by cases h
theorem Ar.SmallA.document {A : Ar} (h : A.SmallA) (q : Bool) : (A.document q).SmallA := h.add nil_small
theorem Ar.SmallA.make {A : Ar} (h : A.SmallA) (d : Int) {n : Nd} (hn : n.attrs = []) : (A.make d n).2.SmallA := by
  unfold Ar.make
  split
  · exact h
  · exact h.add (by dsimp only; rw [hn]; exact nil_small)
theorem Ar.SmallA.inertOf {A : Ar} (h : A.SmallA) (d : Int) : (A.inertOf d).2.SmallA := by
  unfold Ar.inertOf
  split
  · exact h
  · exact h.document false
theorem Ar.SmallA.element {A : Ar} (h : A.SmallA) (d s : Int) (name : ByteArray) (l : List AttrD) (hl : ∀ a ∈ l, attrSmall a) : (A.element d s name l).2.SmallA := by
  have ho : ∀ a ∈ onceL l, attrSmall a := fun a ha => hl a (onceL_mem ha)
  unfold Ar.element
  split
  · exact h
  · split
    · exact h
    · dsimp only
      split
      · exact (((h.add (n := { zeroNd with kind := 4, doc := d, space := s, name := name, attrs := onceL l }) ho).inertOf d).add (n := { zeroNd with kind := 2, host := A.n + 1, doc := ((A.add { zeroNd with kind := 4, doc := d, space := s, name := name, attrs := onceL l }).inertOf d).1 }) nil_small).mod _ (fun m hm => hm)
      · exact h.add ho
theorem Ar.SmallA.cut {A : Ar} (h : A.SmallA) (x : Int) : (A.cut x).SmallA := by
  unfold Ar.cut
  split
  · exact h
  · exact (h.mod (A.get x).parent (f := fun m => { m with kids := without m.kids x }) (fun m hm => hm)).mod x (f := fun m => { m with parent := 0 }) (fun m hm => hm)
theorem Ar.SmallA.step {A : Ar} (h : A.SmallA) (x : OpD) (hx : ∀ a ∈ x.attrs, attrSmall a) : (A.step x).2.SmallA := by
  refine step_rec (P := fun R => R.2.SmallA) (fun _ => h.document _) (fun _ => h.make _ rfl) (fun _ => h.element _ _ _ _ hx) (fun _ => h.make _ rfl) (fun _ => h.make _ rfl) (fun _ => h.make _ rfl) (fun _ => ?_) (fun _ => ?_) (fun _ => ?_) (fun _ => ?_) (fun _ => ?_) (fun _ => ?_) (fun _ => ?_) (fun _ => h)
  · unfold Ar.inertCall
    split
    · exact h
    · exact h.inertOf _
  · dsimp only
    unfold Ar.put
    split
    · exact h
    · exact ((h.cut x.b).mod x.a (f := fun m => { m with kids := putIn m.kids x.b x.c }) (fun m hm => hm)).mod x.b (f := fun m => { m with parent := x.a }) (fun m hm => hm)
  · dsimp only
    unfold Ar.cutCall
    split
    · exact h.cut _
    · exact h
  · dsimp only
    unfold Ar.setData
    split
    · exact h
    · split
      · exact h
      · exact h.mod _ (fun m hm => hm)
  · dsimp only
    unfold Ar.setAttrs
    split
    · exact h
    · split
      · exact h
      · split
        · exact h
        · exact h.mod _ (fun m hm a ha => hx a (onceL_mem ha))
  · dsimp only
    unfold Ar.setQuirks
    split
    · exact h
    · split
      · exact h
      · exact h.mod _ (fun m hm => hm)
  · dsimp only
    unfold Ar.setDoc
    split
    · exact h
    · split
      · exact h
      · exact h.mod _ (fun m hm => hm)
theorem fold_small : ∀ (l : List OpD) (A : Ar), A.SmallA → (∀ x ∈ l, ∀ a ∈ x.attrs, attrSmall a) → (l.foldl (fun A x => (A.step x).2) A).SmallA
  | [], A, h, _ => h
  | x :: l, A, h, hl => fold_small l _ (h.step x (hl x (by simp))) (fun y hy => hl y (by simp [hy]))
theorem run_small {l : List OpD} (hl : ∀ x ∈ l, ∀ a ∈ x.attrs, attrSmall a) : (runL l).SmallA := fold_small l Ar.new (fun n hn => by cases hn) hl

end Go.Proofs.YtnfdcfagdidmhaaGreatDoor
