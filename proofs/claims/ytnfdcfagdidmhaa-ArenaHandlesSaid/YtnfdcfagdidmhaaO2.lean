/-
  The law's Small, SmallOp, SmallAttrs.
-/
import Derived.Test.YtnfdcfagdidmhaaO1
namespace Go.Proofs.Ytnfdcfagdidmhaa
open Go.RowKit
set_option linter.unusedVariables false

def attrSmall (a : AttrD) : Prop := a.2.1.size ≤ 400 ∧ a.2.2.size ≤ 400
instance (a : AttrD) : Decidable (attrSmall a) := inferInstanceAs (Decidable (_ ∧ _))
def smallAttrs (l : List AttrD) : Prop := l.length ≤ 20 ∧ ∀ a ∈ l, attrSmall a
instance (l : List AttrD) : Decidable (smallAttrs l) := inferInstanceAs (Decidable (_ ∧ _))
def smallOp (x : OpD) : Prop := x.name.size ≤ 400 ∧ x.s.size ≤ 400 ∧ x.t.size ≤ 400 ∧ smallAttrs x.attrs
instance (x : OpD) : Decidable (smallOp x) := inferInstanceAs (Decidable (_ ∧ _))
def smallOps (l : List OpD) (most : Int) : Prop := (l.length : Int) ≤ most ∧ ∀ x ∈ l, smallOp x
instance (l : List OpD) (most : Int) : Decidable (smallOps l most) := inferInstanceAs (Decidable (_ ∧ _))

theorem SmallAttrs_any (v : Value) (l : List AttrD) (w : World) (hv : RAttrs w v l) :
    Calls Try.prog 29 #[v] w fun e w' => e = .returned (.bool (decide (smallAttrs l))) ∧ w = w' := by
  obtain ⟨av, cv, rfl, hc1, hc2, hc3⟩ := hv.form
  go_enter Try.func29, Try.ntmps29
  go_wp2
  go_loop [3] (fun i => ∃ k : Nat, k ≤ l.length ∧ i = .int .i64 k ∧ Hid (k ≤ 21 ∧ ∀ j x, j < k → l[j]? = some x → attrSmall x)) (fun i => l.length - (intOf i).toNat)
  case atStart => exact ⟨0, Nat.zero_le _, rfl, by omega, fun j x hj => by omega⟩
  case round =>
    obtain ⟨k, hk, rfl, hT⟩ := hrel
    by_cases hlt : k < l.length
    · by_cases h20 : k ≤ 20
      · obtain ⟨b1, o1, rfl, hcs⟩ := hc3 (by omega)
        obtain ⟨x, hx⟩ : ∃ x, l[k]? = some x := ⟨_, List.getElem?_eq_getElem hlt⟩
        obtain ⟨-, c1, c2⟩ := hcs k x hx
        clear hc3 hcs
        have hno : ¬ attrSmall x → ¬ smallAttrs l := fun h hall => h (hall.2 x (List.mem_of_getElem? hx))
        have HNO := Lib.hid hno
        have HX := Lib.hid hx
        have h20' : (k : Int) ≤ 20 := by omega
        clear hno hx
        by_cases h1 : (400 : Int) < x.2.1.size
        · go_wp2
          go_ret
          exact ⟨ret_bool (decide_eq_false (HNO.out (fun h => by have := h.1; omega))).symm, rfl⟩
        · by_cases h2 : (400 : Int) < x.2.2.size
          · go_wp2
            go_ret
            exact ⟨ret_bool (decide_eq_false (HNO.out (fun h => by have := h.2; omega))).symm, rfl⟩
          · have h3 : (x.2.1.size : Int) ≤ 400 := by omega
            have h4 : (x.2.2.size : Int) ≤ 400 := by omega
            clear h1 h2
            go_wp2
            go_round
            case rel => exact ⟨k + 1, hlt, by go_num, by omega, fun j y hj hy => by
              by_cases hjk : j < k
              · exact hT.out.2 j y hjk hy
              · have : j = k := by omega
                rw [this, HX.out] at hy
                simp at hy; subst hy
                exact ⟨by omega, by omega⟩⟩
            case measure => simp [intOf]; omega
      · have h20' : (20 : Int) < k := by omega
        have h20n : (20 : Int) < l.length := by omega
        go_wp2
        go_ret
        exact ⟨ret_bool (by rw [decide_eq_false (show ¬ (l.length : Int) ≤ 20 by omega), decide_eq_false (show ¬ smallAttrs l from fun h => by have := h.1; omega)]), rfl⟩
    · have hfin : decide (smallAttrs l) = decide ((l.length : Int) ≤ 20) := by
        have : k = l.length := by omega
        subst this
        rw [Bool.eq_iff_iff]; simp only [decide_eq_true_eq]
        exact ⟨fun h => by have := h.1; omega, fun h => ⟨by omega, fun a ha => by
          obtain ⟨j, hj, rfl⟩ := List.getElem_of_mem ha
          exact hT.out.2 j _ hj (List.getElem?_eq_getElem hj)⟩⟩
      have HF := Lib.hid hfin
      clear hfin
      go_wp2
      go_ret
      exact ⟨ret_bool HF.out.symm, rfl⟩

theorem SmallOp_any (x : OpD) (av : Value) (w : World) (hv : RAttrs w av x.attrs) :
    Calls Try.prog 57 #[.agg (x.cells av).toArray] w fun e w' => e = .returned (.bool (decide (smallOp x))) ∧ Below w.heap.size w w' := by
  obtain ⟨kind, a, b2, c, flag, space, name, s, t, attrs⟩ := x
  obtain ⟨aa, ac, rfl, -⟩ := hv.form
  have hB := below_alloc w (.cells (OpD.cells ⟨kind, a, b2, c, flag, space, name, s, t, attrs⟩ (.slice aa attrs.length ac)).toArray 50)
  have hv1 := hv.below hB
  have HC := Lib.hid (SmallAttrs_any _ attrs _ hv1)
  have HB := Lib.hid hB
  clear hB hv hv1
  have hno : (400 : Int) < name.size ∨ (400 : Int) < s.size ∨ (400 : Int) < t.size → ¬ smallOp ⟨kind, a, b2, c, flag, space, name, s, t, attrs⟩ := fun h hh => by
    obtain ⟨h1, h2, h3, -⟩ := hh; dsimp only at h1 h2 h3; omega
  have HNO := Lib.hid hno
  clear hno
  unfold OpD.cells at *
  by_cases h1 : (400 : Int) < name.size
  · have H1 := Lib.hid h1
    go_enter Try.func57, Try.ntmps57
    go_wp2
    go_ret
    exact ⟨ret_bool (decide_eq_false (HNO.out (.inl H1.out))).symm, HB.out⟩
  · by_cases h2 : (400 : Int) < s.size
    · have H2 := Lib.hid h2
      go_enter Try.func57, Try.ntmps57
      go_wp2
      go_ret
      exact ⟨ret_bool (decide_eq_false (HNO.out (.inr (.inl H2.out)))).symm, HB.out⟩
    · by_cases h3 : (400 : Int) < t.size
      · have H3 := Lib.hid h3
        go_enter Try.func57, Try.ntmps57
        go_wp2
        go_ret
        exact ⟨ret_bool (decide_eq_false (HNO.out (.inr (.inr H3.out)))).symm, HB.out⟩
      · have hfin : decide (smallOp ⟨kind, a, b2, c, flag, space, name, s, t, attrs⟩) = decide (smallAttrs attrs) := by
          exact decide_eq_decide.2 ⟨fun h => h.2.2.2, fun h => ⟨by dsimp only; omega, by dsimp only; omega, by dsimp only; omega, h⟩⟩
        have HF := Lib.hid hfin
        clear hfin
        go_enter Try.func57, Try.ntmps57
        go_wp2_with fail
        refine HC.out.mono ?_
        rintro e w2 ⟨rfl, rfl⟩
        go_wp2
        go_ret
        exact ⟨ret_bool HF.out.symm, HB.out⟩

theorem ROps.form {w : World} {v : Value} {l : List OpD} (h : ROps w v l) : ∃ a c, v = .slice a l.length c ∧ l.length ≤ c ∧ c ≤ 9223372036854775807 ∧ (0 < l.length → ∃ b o, a = some ⟨b, o, none⟩ ∧ ∀ i x, l[i]? = some x → ∃ av, OpF w b (o + i * 10) x av) := h

theorem OpF.facts {w : World} {b o : Nat} {x : OpD} {av : Value} (h : OpF w b o x av) : w.cell? ⟨b, o, none⟩ = some (.int .i64 x.kind) ∧ w.cell? ⟨b, o + 1, none⟩ = some (.int .i64 x.a) ∧ w.cell? ⟨b, o + 2, none⟩ = some (.int .i64 x.b) ∧ w.cell? ⟨b, o + 3, none⟩ = some (.int .i64 x.c) ∧ w.cell? ⟨b, o + 4, none⟩ = some (.bool x.flag) ∧ w.cell? ⟨b, o + 5, none⟩ = some (.int .i64 x.space) ∧ w.cell? ⟨b, o + 6, none⟩ = some (.string x.name) ∧ w.cell? ⟨b, o + 7, none⟩ = some (.string x.s) ∧ w.cell? ⟨b, o + 8, none⟩ = some (.string x.t) ∧ w.cell? ⟨b, o + 9, none⟩ = some av :=
  ⟨h.c 0 _ rfl, h.c 1 _ rfl, h.c 2 _ rfl, h.c 3 _ rfl, h.c 4 _ rfl, h.c 5 _ rfl, h.c 6 _ rfl, h.c 7 _ rfl, h.c 8 _ rfl, h.c 9 _ rfl⟩
theorem OpF.below {w w' : World} {b o : Nat} {x : OpD} {av : Value} (h : OpF w b o x av) (hb : Below w.heap.size w w') : OpF w' b o x av := ⟨fun j v hv => Below.old hb (h.c j v hv), h.at'.below hb⟩

theorem Small_any (v : Value) (l : List OpD) (most : Int) (w : World) (hv : ROps w v l) :
    Calls Try.prog 17 #[v, .int .i64 most] w fun e w' => e = .returned (.bool (decide (smallOps l most))) ∧ Below w.heap.size w w' := by
  obtain ⟨av, cv, rfl, hc1, hc2, hc3⟩ := id hv
  have hfin : ∀ k : Nat, k ≤ l.length → (k < l.length → most < k) → (∀ j x, j < k → l[j]? = some x → smallOp x) → decide ((l.length : Int) ≤ most) = decide (smallOps l most) := by
    intro k h1 h2 h3
    refine decide_eq_decide.2 ⟨fun h => ⟨h, fun x hx => ?_⟩, fun h => h.1⟩
    obtain ⟨j, hj, rfl⟩ := List.getElem_of_mem hx
    exact h3 j _ (by omega) (List.getElem?_eq_getElem hj)
  have HF := Lib.hid hfin
  clear hfin
  go_enter Try.func17, Try.ntmps17
  go_wp2
  go_loopw [5] (fun i wr => ∃ k : Nat, k ≤ l.length ∧ i = .int .i64 k ∧ Hid (∀ j x, j < k → l[j]? = some x → smallOp x) ∧ Below w.heap.size w wr) (fun i _ => l.length - (intOf i).toNat)
  case atStart => exact ⟨0, Nat.zero_le _, rfl, fun j x hj => by omega, Below.refl _ _⟩
  case round =>
    obtain ⟨k, hk, rfl, hT, hB⟩ := hrel
    by_cases hlt : k < l.length
    · by_cases h20 : (k : Int) ≤ most
      · obtain ⟨b1, o1, rfl, hcs⟩ := hc3 (by omega)
        obtain ⟨x, hx⟩ : ∃ x, l[k]? = some x := ⟨_, List.getElem?_eq_getElem hlt⟩
        obtain ⟨av, F⟩ := hcs k x hx
        have F := F.below hB
        obtain ⟨aa, ac, rfl, -⟩ := F.at'.form
        obtain ⟨c0, c1, c2, c3, c4, c5, c6, c7, c8, c9⟩ := F.facts
        have HC := Lib.hid (SmallOp_any x _ wr F.at')
        clear hc3 hcs F
        have hno : ¬ smallOp x → ¬ smallOps l most := fun h hall => h (hall.2 x (List.mem_of_getElem? hx))
        have HNO := Lib.hid hno
        have HX := Lib.hid hx
        clear hno hx
        by_cases h1 : smallOp x
        · have HD := Lib.hid (show decide (smallOp x) = true from decide_eq_true h1)
          have H1 := Lib.hid h1
          clear h1
          go_wp2_with fail
          refine HC.out.mono ?_
          rintro e w2 ⟨rfl, hB2⟩
          rw [HD.out]
          go_wp2
          go_roundw
          case rel => exact ⟨k + 1, hlt, by go_num, fun j y hj hy => by
              by_cases hjk : j < k
              · exact hT.out j y hjk hy
              · have : j = k := by omega
                rw [this, HX.out] at hy
                simp at hy; subst hy
                exact H1.out, hB.trans (hB2.mono hB.size)⟩
          case measure => simp [intOf]; omega
        · have HD := Lib.hid (show decide (smallOp x) = false from decide_eq_false h1)
          have HN := Lib.hid (HNO.out h1)
          clear h1
          go_wp2_with fail
          refine HC.out.mono ?_
          rintro e w2 ⟨rfl, hB2⟩
          rw [HD.out]
          go_wp2
          go_ret
          exact ⟨ret_bool (decide_eq_false HN.out).symm, hB.trans (hB2.mono hB.size)⟩
      · have HH := Lib.hid (show k < l.length → most < k from fun _ => by omega)
        have h20' : most < (k : Int) := by omega
        go_wp2
        go_ret
        exact ⟨ret_bool (HF.out k hk HH.out hT.out), hB⟩
    · have HH := Lib.hid (show k < l.length → most < k from fun h => absurd h hlt)
      go_wp2
      go_ret
      exact ⟨ret_bool (HF.out k hk HH.out hT.out), hB⟩

end Go.Proofs.Ytnfdcfagdidmhaa
