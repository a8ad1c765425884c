/-
  The document's list helpers: At, SameAttrs, Alike, SameNode, SameNodes.
-/
import Derived.Test.YtnfdcfagdidmhaaGreatDoorW2
import Derived.Laws.StructEq
namespace Go.Proofs.YtnfdcfagdidmhaaGreatDoor
open Go.RowKit
set_option linter.unusedVariables false

theorem RAttrs.cells {w : World} {a : Option Addr} {n c : Nat} {l : List AttrD} (h : RAttrs w (.slice a n c) l) (hp : 0 < l.length) : ∃ b o, a = some ⟨b, o, none⟩ ∧ n = l.length ∧ ∀ j x, l[j]? = some x → w.cell? ⟨b, o + j * 3, none⟩ = some (.int .i64 x.1) ∧ w.cell? ⟨b, o + j * 3 + 1, none⟩ = some (.string x.2.1) ∧ w.cell? ⟨b, o + j * 3 + 2, none⟩ = some (.string x.2.2) := by
  obtain ⟨a', c', e, h2, h3, h4⟩ := h.form
  simp at e
  obtain ⟨rfl, rfl, rfl⟩ := e
  obtain ⟨b, o, h5, h6⟩ := h4 hp
  exact ⟨b, o, h5, rfl, h6⟩

set_option maxHeartbeats 400000 in
theorem SameAttrs_any (v1 v2 : Value) (l1 l2 : List AttrD) (w : World) (h1 : RAttrs w v1 l1) (h2 : RAttrs w v2 l2) :
    Calls Tryz.prog 95 #[v1, v2] w fun e w' => e = .returned (.bool (decide (l1 = l2))) ∧ Below w.heap.size w w' := by
  obtain ⟨a1, c1, rfl, p1, p2, p3⟩ := h1.form
  obtain ⟨a2, c2, rfl, q1, q2, q3⟩ := h2.form
  have H1 := Lib.hid h1
  have H2 := Lib.hid h2
  clear h1 h2 p3 q3
  by_cases hl : l1.length = l2.length
  · have hl1 : ((l1.length : Int) != l2.length) = false := by simp [hl]
    have HL := Lib.hid hl
    go_enter Tryz.func95, Tryz.ntmps95
    go_wp2
    go_loopw [5] (fun i wr => ∃ k : Nat, k ≤ l1.length ∧ i = .int .i64 k ∧ Hid (∀ j : Nat, j < k → l1[j]? = l2[j]?) ∧ Below w.heap.size w wr) (fun i _ => l1.length - (intOf i).toNat)
    case atStart => exact ⟨0, Nat.zero_le _, rfl, fun j hj => by omega, Below.refl _ _⟩
    case round =>
      obtain ⟨k, hk, rfl, hT, hB⟩ := hrel
      by_cases hlt : k < l1.length
      · have hlt2 : k < l2.length := by have := HL.out; omega
        obtain ⟨b1, o1, rfl, -, hcs1⟩ := H1.out.cells (by omega)
        obtain ⟨b2, o2, rfl, -, hcs2⟩ := H2.out.cells (by omega)
        obtain ⟨x, hx⟩ : ∃ x, l1[k]? = some x := ⟨_, List.getElem?_eq_getElem hlt⟩
        obtain ⟨y, hy⟩ : ∃ y, l2[k]? = some y := ⟨_, List.getElem?_eq_getElem hlt2⟩
        obtain ⟨d1, d2, d3⟩ := hcs1 k x hx
        obtain ⟨e1, e2, e3⟩ := hcs2 k y hy
        have d1 := Below.old hB d1
        have d2 := Below.old hB d2
        have d3 := Below.old hB d3
        have e1 := Below.old hB e1
        have e2 := Below.old hB e2
        have e3 := Below.old hB e3
        have HX := Lib.hid (And.intro hx hy)
        clear hcs1 hcs2 hx hy
        obtain ⟨xs, xn, xv⟩ := x
        obtain ⟨ys, yn, yv⟩ := y
        dsimp only at d1 d2 d3 e1 e2 e3
        by_cases t1 : xs = ys
        · have u1 : (xs == ys) = true := by simp [t1]
          by_cases t2 : xn = yn
          · have u2 : (xn.toList == yn.toList) = true := by simp [t2]
            by_cases t3 : xv = yv
            · have u3 : (xv.toList == yv.toList) = true := by simp [t3]
              have HT := Lib.hid (And.intro t1 (And.intro t2 t3))
              clear t1 t2 t3
              go_wp2_with (go_quiet (fail))
              go_wp2
              go_roundw
              case rel => exact ⟨k + 1, hlt, by go_num, fun j hj => by
                by_cases hjk : j < k
                · exact hT.out j hjk
                · have : j = k := by omega
                  rw [this, HX.out.1, HX.out.2, HT.out.1, HT.out.2.1, HT.out.2.2], Below.drewN hB _⟩
              case measure => simp [intOf]; omega
            · have u3 : (xv.toList == yv.toList) = false := by rw [str_beq]; simp [t3]
              have HT := Lib.hid t3
              clear t1 t2 t3
              go_wp2_with (go_quiet (fail))
              go_wp2
              go_ret
              exact ⟨ret_bool (decide_eq_false (fun h => HT.out (by have a := HX.out.1; have b := HX.out.2; rw [h, b] at a; simp at a; exact a.2.2.symm))).symm, Below.drewN hB _⟩
          · have u2 : (xn.toList == yn.toList) = false := by rw [str_beq]; simp [t2]
            have HT := Lib.hid t2
            clear t1 t2
            go_wp2_with (go_quiet (fail))
            go_wp2
            go_ret
            exact ⟨ret_bool (decide_eq_false (fun h => HT.out (by have a := HX.out.1; have b := HX.out.2; rw [h, b] at a; simp at a; exact a.2.1.symm))).symm, Below.drewN hB _⟩
        · have u1 : (xs == ys) = false := by simp [t1]
          have HT := Lib.hid t1
          clear t1
          go_wp2_with (go_quiet (fail))
          go_wp2
          go_ret
          exact ⟨ret_bool (decide_eq_false (fun h => HT.out (by have a := HX.out.1; have b := HX.out.2; rw [h, b] at a; simp at a; exact a.1.symm))).symm, Below.drewN hB _⟩
      · have hfin : l1 = l2 := by
          apply List.ext_getElem?
          intro j
          by_cases hj : j < k
          · exact hT.out j hj
          · have := HL.out
            rw [List.getElem?_eq_none (by omega), List.getElem?_eq_none (by omega)]
        have HF := Lib.hid hfin
        clear hfin
        go_wp2
        go_ret
        exact ⟨ret_bool (decide_eq_true HF.out).symm, hB⟩
  · have hl1 : ((l1.length : Int) != l2.length) = true := by simp; omega
    have HL := Lib.hid hl
    clear hl
    go_enter Tryz.func95, Tryz.ntmps95
    go_wp2
    go_ret
    exact ⟨ret_bool (decide_eq_false (fun h => HL.out (by rw [h]))).symm, Below.refl _ _⟩

end Go.Proofs.YtnfdcfagdidmhaaGreatDoor
