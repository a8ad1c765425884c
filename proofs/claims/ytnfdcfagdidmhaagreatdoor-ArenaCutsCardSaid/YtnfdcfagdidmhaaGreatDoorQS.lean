/-
  The strings in an arena that short operations have made are short.
-/
import Derived.Test.YtnfdcfagdidmhaaGreatDoorQP
import Derived.Test.YtnfdcfagdidmhaaGreatDoorOA
namespace Go.Proofs.YtnfdcfagdidmhaaGreatDoor
set_option linter.unusedVariables false

/-- A node with short strings. -/
def smallNd (n : Nd) : Prop := (n.name.size ≤ 400 ∧ n.data.size ≤ 400 ∧ n.pub.size ≤ 400 ∧ n.sys.size ≤ 400) ∧ (n.attrs.length ≤ 20 ∧ ∀ a ∈ n.attrs, attrSmall a)
def Ar.SmallN (A : Ar) : Prop := ∀ n ∈ A.ns, smallNd n
theorem onceL_small {l : List AttrD} (h : smallAttrs l) : (onceL l).length ≤ 20 ∧ ∀ a ∈ onceL l, attrSmall a :=
  ⟨Nat.le_trans (onceL_len l) h.1, fun a ha => h.2 a (onceL_mem ha)⟩
theorem zero_small (k : Int) : smallNd { zeroNd with kind := k } := ⟨⟨(by decide : ByteArray.empty.size ≤ 400), (by decide : ByteArray.empty.size ≤ 400), (by decide : ByteArray.empty.size ≤ 400), (by decide : ByteArray.empty.size ≤ 400)⟩, by simp [zeroNd], fun a ha => by simp [zeroNd] at ha⟩

theorem Ar.SmallN.add {A : Ar} (h : A.SmallN) {n : Nd} (hn : smallNd n) : (A.add n).SmallN := by
  intro m hm
  rcases List.mem_append.1 (show m ∈ A.ns ++ [n] from hm) with hm | hm
  · exact h m hm
  · rw [List.mem_singleton.1 hm]; exact hn
theorem Ar.SmallN.mod {A : Ar} (h : A.SmallN) (x : Int) {f : Nd → Nd} (hf : ∀ m : Nd, smallNd m → smallNd (f m)) : (A.mod x f).SmallN := by
  intro m hm
  obtain ⟨i, hi⟩ := List.mem_iff_getElem?.1 (show m ∈ A.ns.modify (x.toNat - 1) f from hm)
  rw [List.getElem?_modify] at hi
  cases hq : A.ns[i]? with
  | none => rw [hq] at hi; simp at hi
  | some q =>
    rw [hq] at hi
    have hq' := h q (List.mem_of_getElem? hq)
    simp only [Option.map_eq_map, Option.map_some, Option.some.injEq] at hi
    split at hi
    · rw [← hi]; exact hf q hq'
    · rw [← hi]; exact hq'
theorem Ar.SmallN.document {A : Ar} (h : A.SmallN) (q : Bool) : (A.document q).SmallN := h.add (zero_small 1)
theorem Ar.SmallN.make {A : Ar} (h : A.SmallN) (d : Int) {n : Nd} (hn : smallNd n) : (A.make d n).2.SmallN := by
  unfold Ar.make
  split
  · exact h
  · exact h.add hn
theorem Ar.SmallN.inertOf {A : Ar} (h : A.SmallN) (d : Int) : (A.inertOf d).2.SmallN := by
  unfold Ar.inertOf
  split
  · exact h
  · exact h.document false
theorem Ar.SmallN.element {A : Ar} (h : A.SmallN) (d s : Int) (name : ByteArray) (l : List AttrD) (hn : name.size ≤ 400) (hl : smallAttrs l) : (A.element d s name l).2.SmallN := by
  have ho := onceL_small hl
  have he : ∀ k dd ss, smallNd { zeroNd with kind := k, doc := dd, space := ss, name := name, attrs := onceL l } := fun k dd ss => ⟨⟨hn, by simp [zeroNd], by simp [zeroNd], by simp [zeroNd]⟩, ho⟩
  unfold Ar.element
  split
  · exact h
  · split
    · exact h
    · dsimp only
      split
      · exact (((h.add (he 4 d s)).inertOf d).add (n := { zeroNd with kind := 2, host := A.n + 1, doc := ((A.add { zeroNd with kind := 4, doc := d, space := s, name := name, attrs := onceL l }).inertOf d).1 }) (zero_small 2)).mod _ (fun m hm => hm)
      · exact h.add (he 4 d s)
theorem Ar.SmallN.cut {A : Ar} (h : A.SmallN) (x : Int) : (A.cut x).SmallN := by
  unfold Ar.cut
  split
  · exact h
  · exact (h.mod (A.get x).parent (f := fun m => { m with kids := without m.kids x }) (fun m hm => hm)).mod x (f := fun m => { m with parent := 0 }) (fun m hm => hm)
theorem Ar.SmallN.step {A : Ar} (h : A.SmallN) (x : OpD) (hx : smallOp x) : (A.step x).2.SmallN := by
  obtain ⟨q1, q2, q3, q4⟩ := hx
  have z0 : ByteArray.empty.size ≤ 400 := by decide
  have znil : ([] : List AttrD).length ≤ 20 ∧ ∀ a ∈ ([] : List AttrD), attrSmall a := ⟨by simp, fun a ha => by cases ha⟩
  refine step_rec (P := fun R => R.2.SmallN) (fun _ => h.document _) (fun _ => h.make _ ⟨⟨q1, z0, q2, q3⟩, znil⟩) (fun _ => h.element _ _ _ _ q1 q4) (fun _ => h.make _ ⟨⟨z0, q2, z0, z0⟩, znil⟩) (fun _ => h.make _ ⟨⟨z0, q2, z0, z0⟩, znil⟩) (fun _ => h.make _ (zero_small 2)) (fun _ => ?_) (fun _ => ?_) (fun _ => ?_) (fun _ => ?_) (fun _ => ?_) (fun _ => ?_) (fun _ => ?_) (fun _ => h)
  · unfold Ar.inertCall
    split
    · exact h
    · exact h.inertOf _
  · dsimp only
    unfold Ar.put
    split
    · exact h
    · exact ((h.cut x.b).mod x.a (f := fun m => { m with kids := putIn m.kids x.b x.c }) (fun m hm => hm)).mod x.b (f := fun m => { m with parent := x.a }) (fun m hm => hm)
  · dsimp only
    unfold Ar.cutCall
    split
    · exact h.cut _
    · exact h
  · dsimp only
    unfold Ar.setData
    split
    · exact h
    · split
      · exact h
      · exact h.mod _ (fun m hm => ⟨⟨hm.1.1, q2, hm.1.2.2⟩, hm.2⟩)
  · dsimp only
    unfold Ar.setAttrs
    split
    · exact h
    · split
      · exact h
      · split
        · exact h
        · exact h.mod _ (fun m hm => ⟨hm.1, onceL_small q4⟩)
  · dsimp only
    unfold Ar.setQuirks
    split
    · exact h
    · split
      · exact h
      · exact h.mod _ (fun m hm => hm)
  · dsimp only
    unfold Ar.setDoc
    split
    · exact h
    · split
      · exact h
      · exact h.mod _ (fun m hm => hm)
theorem fold_smallN : ∀ (l : List OpD) (A : Ar), A.SmallN → (∀ x ∈ l, smallOp x) → (l.foldl (fun A x => (A.step x).2) A).SmallN
  | [], A, h, _ => h
  | x :: l, A, h, hl => fold_smallN l _ (h.step x (hl x (by simp))) (fun y hy => hl y (by simp [hy]))
theorem run_smallN {l : List OpD} (hl : ∀ x ∈ l, smallOp x) : (runL l).SmallN := fold_smallN l Ar.new (fun n hn => by cases hn) hl

theorem str_len (s : ByteArray) : s.toList.length = s.size := by rw [Go.ByteArray.toList_eq, Array.length_toList]; rfl
theorem quoteS_len {s : ByteArray} (h : s.size ≤ 400) : (quoteS s).length ≤ 802 := by
  have := quoteL_len s.toList
  have := str_len s
  unfold quoteS; omega
theorem digits_len {n : Nat} (h : n < 100) : (Lib.decDigits n).length ≤ 2 := by
  have : ∀ n : Fin 100, (Lib.decDigits n.1).length ≤ 2 := by decide +kernel
  exact this ⟨n, h⟩
theorem attrL_len {x : AttrD} (h : attrSmall x) (hs : 0 ≤ x.1 ∧ x.1 ≤ 7) : (attrL x).length ≤ 1700 := by
  have h1 := quoteS_len h.1
  have h2 := quoteS_len h.2
  have h3 := digits_len (n := x.1.toNat) (by omega)
  unfold attrL; simp only [List.length_append, List.length_cons, List.length_nil]; omega
theorem attrsL_len : ∀ l : List AttrD, (∀ a ∈ l, attrSmall a) → (∀ a ∈ l, 0 ≤ a.1 ∧ a.1 ≤ 7) → (attrsL l).length ≤ l.length * 1700
  | [], _, _ => by simp [attrsL]
  | a :: l, h, hs => by
    have h1 := attrL_len (h a (by simp)) (hs a (by simp))
    have h2 := attrsL_len l (fun x hx => h x (by simp [hx])) (fun x hx => hs x (by simp [hx]))
    unfold attrsL at *
    simp only [List.flatMap_cons, List.length_append, List.length_cons, Nat.add_mul]; omega
theorem lineL_len {n : Nd} (h : smallNd n) (hs : 0 ≤ n.space ∧ n.space ≤ 7) (ha : ∀ a ∈ n.attrs, 0 ≤ a.1 ∧ a.1 ≤ 7) : (lineL n).length ≤ 40000 := by
  obtain ⟨⟨q1, q2, q3, q4⟩, q5, q6⟩ := h
  have r1 := quoteS_len q1
  have r2 := quoteS_len q2
  have r3 := quoteS_len q3
  have r4 := quoteS_len q4
  have r5 := attrsL_len n.attrs q6 ha
  have r6 := digits_len (n := n.space.toNat) (by omega)
  unfold lineL elemL
  repeat' split
  all_goals (simp only [List.length_append, List.length_cons, List.length_nil]; omega)
end Go.Proofs.YtnfdcfagdidmhaaGreatDoor
