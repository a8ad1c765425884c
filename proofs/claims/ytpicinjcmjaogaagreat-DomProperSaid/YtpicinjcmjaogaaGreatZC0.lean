/-
  What the frames of the laws share.
-/
import Derived.Test.YtpicinjcmjaogaaGreatZ44
import Derived.ProofKit
namespace Go.Proofs.YtpicinjcmjaogaaGreat
open Go.RowKit Go.ChangeShapes Go.WideShapes Go.Deep
set_option linter.unusedVariables false

section
variable {H : Type} {enc : TypeId × Value → H} {P : Program} {w : World} {base : Nat} {spare : Nat → Bool} {held : Bool}
theorem open_slice_fields {t e : TypeId} {fs : Array Field} {fuel : Nat} {cs : List Value} {x : DataW H × List MemPlace} (ht : P.underlying t = some (.slice e)) (he : P.underlying e = some (.struct fs))
    (hone : oneCellFields P fs = true) (hC : P.cellsOf e = fs.size) (h : DataW.trod enc P w base spare held fuel t cs = some x) :
    cs = [.slice none 0 0] ∨
    ∃ (a : Addr) (len cap : Nat) (D : Nat → DataW H), cs = [.slice (some a) len cap] ∧ len ≤ cap ∧ cap ≤ maxLen ∧
      ∀ i, i < len → ∃ (ys : List (DataW H × List MemPlace)) (n : Nat),
        ∀ (j : Nat) (f : Field), fs[j]? = some f → ∃ (v : Value) (y : DataW H × List MemPlace), w.cell? (a.add (i * fs.size + j)) = some v ∧ ys[j]? = some y ∧ DataW.trod enc P w base spare held n f.type [v] = some y := by
  rcases open_slice ht h with h0 | ⟨a, len, cap, m, n, D, Pl, hcs, hb, hl, hm, hmm, hx, hi⟩
  · exact .inl h0.1
  · refine .inr ⟨a, len, cap, D, hcs, hl, hm, fun i hil => ?_⟩
    have him : i < m := by rw [hmm]; split <;> omega
    obtain ⟨cs', hc, ht'⟩ := hi i him
    rw [hC] at hc
    obtain ⟨ys, n', hn', hy, hlen, hyl, hf⟩ := DataW.trod_struct he ht'
    obtain ⟨_, hcl, hat⟩ := World.cells?_some hc
    refine ⟨ys, n', fun j f hj => ?_⟩
    obtain ⟨ho, hk⟩ := hone_of hone j f hj
    have hjl : j < fs.size := (Array.getElem?_eq_some_iff.1 hj).1
    have hcell := hat j hjl
    have hv : cs'[j]? = some (cs'[j]'(by omega)) := List.getElem?_eq_getElem (by omega)
    have h1 := hf j f hj
    rw [ho, hk] at h1
    have hone' : (cs'.drop j).take 1 = [cs'[j]'(by omega)] := by
      rw [List.drop_eq_getElem_cons (by omega)]
      rfl
    rw [hone'] at h1
    have hys : ys[j]? = some (ys[j]'(by omega)) := List.getElem?_eq_getElem (by omega)
    refine ⟨_, _, ?_, hys, h1.trans hys⟩
    rw [← Go.Deep.add_add, hcell, hv]
end

theorem spot_none {w : World} {a : Addr} {v : Value} (h : w.cell? a = some v) : a.spot = none := by
  unfold World.cell? at h
  split at h
  · split at h
    · cases h
    · rename_i hs; simpa using hs
  · cases h

/-- A list from its elements' facts. -/
theorem list_of {α : Type} (Q : Nat → α → Prop) : ∀ n : Nat, (∀ i, i < n → ∃ x, Q i x) → ∃ l : List α, l.length = n ∧ ∀ i x, l[i]? = some x → Q i x
  | 0, _ => ⟨[], rfl, fun i x h => by simp at h⟩
  | n + 1, h => by
    obtain ⟨l, hl, hq⟩ := list_of Q n (fun i hi => h i (by omega))
    obtain ⟨x, hx⟩ := h n (by omega)
    refine ⟨l ++ [x], by simp [hl], fun i y hy => ?_⟩
    rw [List.getElem?_append] at hy
    split at hy
    · exact hq i y hy
    · have : i = n := by
        have := (List.getElem?_eq_some_iff.1 hy).1; simp at this; omega
      subst this
      simp [hl] at hy
      subst hy; exact hx

section
variable {H : Type} {enc : TypeId × Value → H} {w : World} {base : Nat} {spare : Nat → Bool} {held : Bool}

theorem open_attrs {fuel : Nat} {v : Value} {x : DataW H × List MemPlace} (h : DataW.trod enc Tryz.prog w base spare held fuel 44 [v] = some x) : ∃ l : List Xm, XE w v l := by
  rcases open_slice_fields Tryz.underlying44 Tryz.underlying132 (by kernel_rfl) (by kernel_rfl) h with h0 | ⟨a, len, cap, D, hcs, hl, hm, hi⟩
  · simp at h0; subst h0
    exact ⟨[], rfl, none, 0, rfl, Nat.le_refl _, Nat.zero_le _, fun h => absurd h (by simp)⟩
  · simp at hcs; subst hcs
    have hq : ∀ i, i < len → ∃ y : Xm, w.cell? (a.add (i * 3 + 0)) = some (.int .i64 y.1) ∧ w.cell? (a.add (i * 3 + 1)) = some (.string y.2.1) ∧ w.cell? (a.add (i * 3 + 2)) = some (.string y.2.2) := by
      intro i hil
      obtain ⟨ys, n, hf⟩ := hi i hil
      obtain ⟨v0, y0, c0, -, t0⟩ := hf 0 _ rfl
      obtain ⟨v1, y1, c1, -, t1⟩ := hf 1 _ rfl
      obtain ⟨v2, y2, c2, -, t2⟩ := hf 2 _ rfl
      obtain ⟨s, e0, -⟩ := DataW.trod_int Tryz.underlying34 t0
      obtain ⟨nm, e1, -⟩ := DataW.trod_string Tryz.underlying9 t1
      obtain ⟨vl, e2, -⟩ := DataW.trod_string Tryz.underlying9 t2
      simp at e0 e1 e2
      subst e0; subst e1; subst e2
      exact ⟨(s, nm, vl), c0, c1, c2⟩
    obtain ⟨l, hll, hlq⟩ := list_of _ len hq
    subst hll
    refine ⟨l, XcP l, some a, cap, rfl, hl, hm, fun hp => ?_⟩
    have hsp : a.spot = none := by
      obtain ⟨q, -⟩ := hlq 0 _ (List.getElem?_eq_getElem hp)
      exact spot_none (by simpa [Addr.add] using q)
    obtain ⟨b, o, sp⟩ := a
    simp at hsp; subst hsp
    refine ⟨b, o, rfl, fun j x hx => ?_⟩
    have hj : j < l.length * 3 := by have := (List.getElem?_eq_some_iff.1 hx).1; rwa [XcP] at this
    have h3 : j = 3 * (j / 3) + j % 3 := by omega
    have hy : l[j / 3]? = some (l[j / 3]'(by omega)) := List.getElem?_eq_getElem (by omega)
    rw [h3, XdQ hy _ (by omega)] at hx
    have hq := hlq _ _ hy
    have hm3 : j % 3 < 3 := by omega
    generalize j % 3 = r at *
    rw [h3]
    simp only [Addr.add_mid] at hq
    rcases (show r = 0 ∨ r = 1 ∨ r = 2 by omega) with rfl | rfl | rfl
    · simp [Xv] at hx; subst hx; rw [show o + (3 * (j / 3) + 0) = o + (j / 3 * 3 + 0) by omega]; exact hq.1
    · simp [Xv] at hx; subst hx; rw [show o + (3 * (j / 3) + 1) = o + (j / 3 * 3 + 1) by omega]; exact hq.2.1
    · simp [Xv] at hx; subst hx; rw [show o + (3 * (j / 3) + 2) = o + (j / 3 * 3 + 2) by omega]; exact hq.2.2

theorem open_ops {fuel : Nat} {v : Value} {x : DataW H × List MemPlace} (h : DataW.trod enc Tryz.prog w base spare held fuel 38 [v] = some x) : ∃ l : List OpD, JW w v l := by
  rcases open_slice_fields Tryz.underlying38 Tryz.underlying92 (by kernel_rfl) (by kernel_rfl) h with h0 | ⟨a, len, cap, D, hcs, hl, hm, hi⟩
  · simp at h0; subst h0
    exact ⟨[], none, 0, rfl, Nat.le_refl _, Nat.zero_le _, fun h => absurd h (by simp)⟩
  · simp at hcs; subst hcs
    have hq : ∀ i, i < len → ∃ y : OpD, ∃ av, (∀ j v, (y.cells av)[j]? = some v → w.cell? (a.add (i * 10 + j)) = some v) ∧ XE w av y.Xb := by
      intro i hil
      obtain ⟨ys, n, hf⟩ := hi i hil
      obtain ⟨v0, y0, c0, -, t0⟩ := hf 0 _ rfl
      obtain ⟨v1, y1, c1, -, t1⟩ := hf 1 _ rfl
      obtain ⟨v2, y2, c2, -, t2⟩ := hf 2 _ rfl
      obtain ⟨v3, y3, c3, -, t3⟩ := hf 3 _ rfl
      obtain ⟨v4, y4, c4, -, t4⟩ := hf 4 _ rfl
      obtain ⟨v5, y5, c5, -, t5⟩ := hf 5 _ rfl
      obtain ⟨v6, y6, c6, -, t6⟩ := hf 6 _ rfl
      obtain ⟨v7, y7, c7, -, t7⟩ := hf 7 _ rfl
      obtain ⟨v8, y8, c8, -, t8⟩ := hf 8 _ rfl
      obtain ⟨v9, y9, c9, -, t9⟩ := hf 9 _ rfl
      obtain ⟨x0, e0, -⟩ := DataW.trod_int Tryz.underlying3 t0
      obtain ⟨x1, e1, -⟩ := DataW.trod_int Tryz.underlying3 t1
      obtain ⟨x2, e2, -⟩ := DataW.trod_int Tryz.underlying3 t2
      obtain ⟨x3, e3, -⟩ := DataW.trod_int Tryz.underlying3 t3
      obtain ⟨x4, e4, -⟩ := DataW.trod_bool Tryz.underlying4 t4
      obtain ⟨x5, e5, -⟩ := DataW.trod_int Tryz.underlying34 t5
      obtain ⟨x6, e6, -⟩ := DataW.trod_string Tryz.underlying9 t6
      obtain ⟨x7, e7, -⟩ := DataW.trod_string Tryz.underlying9 t7
      obtain ⟨x8, e8, -⟩ := DataW.trod_string Tryz.underlying9 t8
      obtain ⟨l, hl⟩ := open_attrs t9
      simp at e0 e1 e2 e3 e4 e5 e6 e7 e8
      subst e0; subst e1; subst e2; subst e3; subst e4; subst e5; subst e6; subst e7; subst e8
      refine ⟨⟨x0, x1, x2, x3, x4, x5, x6, x7, x8, l⟩, v9, fun j v hv => ?_, hl⟩
      have hj : j < 10 := (List.getElem?_eq_some_iff.1 hv).1
      rcases (show j = 0 ∨ j = 1 ∨ j = 2 ∨ j = 3 ∨ j = 4 ∨ j = 5 ∨ j = 6 ∨ j = 7 ∨ j = 8 ∨ j = 9 by omega) with rfl | rfl | rfl | rfl | rfl | rfl | rfl | rfl | rfl | rfl <;> (simp [OpD.cells] at hv; subst hv; assumption)
    obtain ⟨l, hll, hlq⟩ := list_of _ len hq
    subst hll
    refine ⟨l, some a, cap, rfl, hl, hm, fun hp => ?_⟩
    have hsp : a.spot = none := by
      obtain ⟨av, q, -⟩ := hlq 0 _ (List.getElem?_eq_getElem hp)
      exact spot_none (by simpa [Addr.add] using q 0 _ rfl)
    obtain ⟨b, o, sp⟩ := a
    simp at hsp; subst hsp
    refine ⟨b, o, rfl, fun i x hx => ?_⟩
    obtain ⟨av, q, hA⟩ := hlq i x hx
    refine ⟨av, fun j v hv => ?_, hA⟩
    have := q j v hv
    rw [Addr.add_mid] at this
    rw [show o + i * 10 + j = o + (i * 10 + j) by omega]; exact this
end

end Go.Proofs.YtpicinjcmjaogaaGreat

/- The invariant is kept by every operation; how much an operation adds. No Xi here. -/
namespace Go.Proofs.YtpicinjcmjaogaaGreat
open Go.ChangeShapes Go.WideShapes Go.ChangeAt Go.RowKit
set_option linter.unusedVariables false

theorem own_knob : ownKnob Tryz.prog.godebug = none := by kernel_rfl
theorem laid_out : laidOutB Tryz.prog = true := by kernel_rfl

set_option maxRecDepth 100000 in
/-- A list of operations that came in. -/
theorem arg_ops {H : Type} {enc : TypeId × Value → H} {W : World} {base : Nat} {spare : Nat → Bool} {held : Bool} {v : Value} {d : DataW H} {p : List MemPlace} {r : Reach} {b0 : Nat}
    (hv : Value.okWide Tryz.prog W r b0 38 v) (h : DataW.Trod enc Tryz.prog W base spare held 38 v d p) : ∃ l, JW W v l := by
  obtain ⟨a, len, cap, rfl⟩ := okWide_slice Tryz.underlying38 hv
  obtain ⟨fuel, hf⟩ := h
  simp only [Value.cells] at hf
  exact open_ops (fuel := fuel) (x := (d, p)) hf

end Go.Proofs.YtpicinjcmjaogaaGreat
