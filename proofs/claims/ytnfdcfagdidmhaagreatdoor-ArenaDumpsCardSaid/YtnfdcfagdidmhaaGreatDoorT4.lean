/-
  The document's SameNodes.
-/
import Derived.Test.YtnfdcfagdidmhaaGreatDoorT3
namespace Go.Proofs.YtnfdcfagdidmhaaGreatDoor
open Go.RowKit
set_option linter.unusedVariables false

set_option maxRecDepth 100000 in
set_option maxHeartbeats 2000000 in
theorem SameNodes_any (v1 v2 : Value) (l1 l2 : List Nd) (w : World) (h1 : RNodes w v1 l1) (h2 : RNodes w v2 l2) :
    Calls Tryz.prog 20 #[v1, v2] w fun e w' => e = .returned (.bool (decide (l1 = l2))) ∧ Below w.heap.size w w' := by
  have H1 := Lib.hid h1
  have H2 := Lib.hid h2
  obtain ⟨a1, c1, rfl, p1, p2, -⟩ := h1
  obtain ⟨a2, c2, rfl, q1, q2, -⟩ := h2
  by_cases hl : l1.length = l2.length
  · have hl1 : ((l1.length : Int) != l2.length) = false := by simp [hl]
    have HL := Lib.hid hl
    clear hl
    go_enter Tryz.func20, Tryz.ntmps20
    go_wp2
    go_loopw [5] (fun i wr => ∃ k : Nat, k ≤ l1.length ∧ i = .int .i64 k ∧ Hid (∀ j : Nat, j < k → l1[j]? = l2[j]?) ∧ Below w.heap.size w wr) (fun i _ => l1.length - (intOf i).toNat)
    case atStart => exact ⟨0, Nat.zero_le _, rfl, fun j hj => by omega, Below.refl _ _⟩
    case round =>
      obtain ⟨k, hk, rfl, hT, hB⟩ := hrel
      by_cases hlt : k < l1.length
      · have hlt2 : k < l2.length := by have := HL.out; omega
        obtain ⟨b1, o1, rfl, -, hcs1⟩ := (H1.out.below hB).at (by omega)
        obtain ⟨b2, o2, rfl, -, hcs2⟩ := (H2.out.below hB).at (by omega)
        obtain ⟨x, hx⟩ : ∃ x, l1[k]? = some x := ⟨_, List.getElem?_eq_getElem hlt⟩
        obtain ⟨y, hy⟩ : ∃ y, l2[k]? = some y := ⟨_, List.getElem?_eq_getElem hlt2⟩
        obtain ⟨kv, av, F, hK, hA⟩ := hcs1 k x hx
        obtain ⟨kv', av', F', hK', hA'⟩ := hcs2 k y hy
        have HS : Hid (∀ W : World, Below wr.heap.size wr W → Calls Tryz.prog 25 #[.agg (x.cells kv av).toArray, .agg (y.cells kv' av').toArray] W fun e w' => e = .returned (.bool (decide (x = y))) ∧ Below W.heap.size W w') :=
          Lib.hid (fun W hW => SameNode_any x y kv av kv' av' W (RInts.below hK hW) (RInts.below hK' hW) (RAttrs.below hA hW) (RAttrs.below hA' hW))
        have HX := Lib.hid (And.intro hx hy)
        have c0 := F.c0; have c1 := F.c1; have c2 := F.c2; have c3 := F.c3; have c4 := F.c4; have c5 := F.c5; have c6 := F.c6; have c7 := F.c7; have c8 := F.c8; have c9 := F.c9; have c10 := F.c10; have c11 := F.c11; have c12 := F.c12
        have d0 := F'.c0; have d1 := F'.c1; have d2 := F'.c2; have d3 := F'.c3; have d4 := F'.c4; have d5 := F'.c5; have d6 := F'.c6; have d7 := F'.c7; have d8 := F'.c8; have d9 := F'.c9; have d10 := F'.c10; have d11 := F'.c11; have d12 := F'.c12
        clear hcs1 hcs2 hx hy F F' hK hA hK' hA'
        unfold Nd.cells at HS
        go_wp2
        go_region_with (refine (HS.out _ (Below.drewN (Below.refl _ _) _)).mono ?_; rintro e w2 ⟨rfl, hB2⟩)
        all_goals
          have HB2 : Hid (Below w.heap.size w w2) := Lib.hid (hB.trans (((Below.drewN (Below.refl wr.heap.size wr) _).trans (hB2.mono (by simp))).mono hB.size))
          clear hB2 HS c0 c1 c2 c3 c4 c5 c6 c7 c8 c9 c10 c11 c12 d0 d1 d2 d3 d4 d5 d6 d7 d8 d9 d10 d11 d12
          by_cases he : x = y
          · have hd : decide (x = y) = true := decide_eq_true he
            rw [hd]
            have HE := Lib.hid he
            clear hd he
            go_wp2
            go_roundw
            case rel => exact ⟨k + 1, hlt, by go_num, fun j hj => by
              by_cases hjk : j < k
              · exact hT.out j hjk
              · have : j = k := by omega
                rw [this, HX.out.1, HX.out.2, HE.out], HB2.out⟩
            case measure => simp [intOf]; omega
          · have hd : decide (x = y) = false := decide_eq_false he
            rw [hd]
            have HE := Lib.hid he
            clear hd he
            go_wp2
            go_ret
            exact ⟨ret_bool (decide_eq_false (fun h => HE.out (by have a := HX.out.1; have b := HX.out.2; rw [h, b] at a; simp at a; exact a.symm))).symm, HB2.out⟩
      · have hfin : l1 = l2 := by
          apply List.ext_getElem?
          intro j
          by_cases hj : j < k
          · exact hT.out j hj
          · have := HL.out
            rw [List.getElem?_eq_none (by omega), List.getElem?_eq_none (by omega)]
        have HF := Lib.hid hfin
        clear hfin
        go_wp2
        go_ret
        exact ⟨ret_bool (decide_eq_true HF.out).symm, hB⟩
  · have hl1 : ((l1.length : Int) != l2.length) = true := by simp; omega
    have HL := Lib.hid hl
    clear hl
    go_enter Tryz.func20, Tryz.ntmps20
    go_wp2
    go_ret
    exact ⟨ret_bool (decide_eq_false (fun h => HL.out (by rw [h]))).symm, Below.refl _ _⟩

theorem SameNodes_own {w0 w : World} {B : Nat} {v1 v2 : Value} {x y : List Nd} {l : List Asrt} (o : Own w0 B l w) (h1 : Asrt.nlist v1 x ∈ l) (h2 : Asrt.nlist v2 y ∈ l) :
    Calls Tryz.prog 20 #[v1, v2] w fun e w' => e = .returned (.bool (decide (x = y))) ∧ Own w0 B l w' := by
  refine (SameNodes_any v1 v2 x y w (o.nlist h1) (o.nlist h2)).mono ?_
  rintro e w' ⟨rfl, hB⟩
  exact ⟨rfl, o.read hB⟩

end Go.Proofs.YtnfdcfagdidmhaaGreatDoor
