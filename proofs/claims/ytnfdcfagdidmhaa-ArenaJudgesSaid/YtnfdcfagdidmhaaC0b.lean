/-
  What the frames of the laws share: an operation, a list of attributes that came in.
-/
import Derived.Test.YtnfdcfagdidmhaaC0
namespace Go.Proofs.Ytnfdcfagdidmhaa
open Go.ChangeShapes Go.WideShapes Go.ChangeAt Go.RowKit Go.Deep
set_option linter.unusedVariables false

/-- A struct of one-cell fields, opened. -/
theorem open_fields {H : Type} {P : Program} {enc : TypeId × Value → H} {w : World} {base : Nat} {spare : Nat → Bool} {held : Bool} {e : TypeId} {fs : Array Field} {fuel : Nat} {cs : List Value} {x : DataW H × List MemPlace} (he : P.underlying e = some (.struct fs))
    (hone : oneCellFields P fs = true) (hC : cs.length = fs.size) (h : DataW.trod enc P w base spare held fuel e cs = some x) :
    ∃ (ys : List (DataW H × List MemPlace)) (n : Nat),
        ∀ (j : Nat) (f : Field), fs[j]? = some f → ∃ (v : Value) (y : DataW H × List MemPlace), cs[j]? = some v ∧ ys[j]? = some y ∧ DataW.trod enc P w base spare held n f.type [v] = some y := by
  obtain ⟨ys, n', hn', hy, hlen, hyl, hf⟩ := DataW.trod_struct he h
  refine ⟨ys, n', fun j f hj => ?_⟩
  obtain ⟨ho, hk⟩ := hone_of hone j f hj
  have hjl : j < fs.size := (Array.getElem?_eq_some_iff.1 hj).1
  have hv : cs[j]? = some (cs[j]'(by omega)) := List.getElem?_eq_getElem (by omega)
  have h1 := hf j f hj
  rw [ho, hk] at h1
  have hone' : (cs.drop j).take 1 = [cs[j]'(by omega)] := by
    rw [List.drop_eq_getElem_cons (by omega)]
    rfl
  rw [hone'] at h1
  have hys : ys[j]? = some (ys[j]'(by omega)) := List.getElem?_eq_getElem (by omega)
  exact ⟨_, _, hv, hys, h1.trans hys⟩

set_option maxRecDepth 100000 in
/-- An operation that came in. -/
theorem arg_op {H : Type} {enc : TypeId × Value → H} {W : World} {base : Nat} {spare : Nat → Bool} {held : Bool} {v : Value} {d : DataW H} {p : List MemPlace} {r : Reach} {b0 : Nat}
    (hv : Value.okWide Try.prog W r b0 50 v) (h : DataW.Trod enc Try.prog W base spare held 50 v d p) : ∃ x av, v = .agg (OpD.cells x av).toArray ∧ RAttrs W av x.attrs := by
  obtain ⟨cs, rfl, hs⟩ := okWide_struct Try.underlying50 hv
  obtain ⟨fuel, hf⟩ := h
  simp only [Value.cells] at hf
  have h10 : cs.size = 10 := hs
  obtain ⟨ys, n, hf⟩ := open_fields Try.underlying50 (by kernel_rfl) (by simpa using h10) hf
  obtain ⟨v0, y0, c0, -, t0⟩ := hf 0 _ rfl
  obtain ⟨v1, y1, c1, -, t1⟩ := hf 1 _ rfl
  obtain ⟨v2, y2, c2, -, t2⟩ := hf 2 _ rfl
  obtain ⟨v3, y3, c3, -, t3⟩ := hf 3 _ rfl
  obtain ⟨v4, y4, c4, -, t4⟩ := hf 4 _ rfl
  obtain ⟨v5, y5, c5, -, t5⟩ := hf 5 _ rfl
  obtain ⟨v6, y6, c6, -, t6⟩ := hf 6 _ rfl
  obtain ⟨v7, y7, c7, -, t7⟩ := hf 7 _ rfl
  obtain ⟨v8, y8, c8, -, t8⟩ := hf 8 _ rfl
  obtain ⟨v9, y9, c9, -, t9⟩ := hf 9 _ rfl
  obtain ⟨x0, e0, -⟩ := DataW.trod_int Try.underlying3 t0
  obtain ⟨x1, e1, -⟩ := DataW.trod_int Try.underlying3 t1
  obtain ⟨x2, e2, -⟩ := DataW.trod_int Try.underlying3 t2
  obtain ⟨x3, e3, -⟩ := DataW.trod_int Try.underlying3 t3
  obtain ⟨x4, e4, -⟩ := DataW.trod_bool Try.underlying4 t4
  obtain ⟨x5, e5, -⟩ := DataW.trod_int Try.underlying33 t5
  obtain ⟨x6, e6, -⟩ := DataW.trod_string Try.underlying9 t6
  obtain ⟨x7, e7, -⟩ := DataW.trod_string Try.underlying9 t7
  obtain ⟨x8, e8, -⟩ := DataW.trod_string Try.underlying9 t8
  obtain ⟨l, hl⟩ := open_attrs t9
  simp at e0 e1 e2 e3 e4 e5 e6 e7 e8
  subst e0; subst e1; subst e2; subst e3; subst e4; subst e5; subst e6; subst e7; subst e8
  refine ⟨⟨x0, x1, x2, x3, x4, x5, x6, x7, x8, l⟩, v9, ?_, hl⟩
  congr 1
  apply Array.ext'
  show cs.toList = OpD.cells ⟨x0, x1, x2, x3, x4, x5, x6, x7, x8, l⟩ v9
  apply List.ext_getElem?
  intro j
  by_cases hj : j < 10
  · rcases (show j = 0 ∨ j = 1 ∨ j = 2 ∨ j = 3 ∨ j = 4 ∨ j = 5 ∨ j = 6 ∨ j = 7 ∨ j = 8 ∨ j = 9 by omega) with rfl | rfl | rfl | rfl | rfl | rfl | rfl | rfl | rfl | rfl <;> (simp only [OpD.cells]; first | exact c0 | exact c1 | exact c2 | exact c3 | exact c4 | exact c5 | exact c6 | exact c7 | exact c8 | exact c9)
  · rw [List.getElem?_eq_none (by simp; omega), List.getElem?_eq_none (by simp [OpD.cells]; omega)]

set_option maxRecDepth 100000 in
/-- A list of attributes that came in. -/
theorem arg_attrs {H : Type} {enc : TypeId × Value → H} {W : World} {base : Nat} {spare : Nat → Bool} {held : Bool} {v : Value} {d : DataW H} {p : List MemPlace} {r : Reach} {b0 : Nat}
    (hv : Value.okWide Try.prog W r b0 34 v) (h : DataW.Trod enc Try.prog W base spare held 34 v d p) : ∃ l, RAttrs W v l := by
  obtain ⟨a, len, cap, rfl⟩ := okWide_slice Try.underlying34 hv
  obtain ⟨fuel, hf⟩ := h
  simp only [Value.cells] at hf
  exact open_attrs (fuel := fuel) (x := (d, p)) hf

end Go.Proofs.Ytnfdcfagdidmhaa
