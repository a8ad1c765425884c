/-
  Contracts of the document's arena: Once.
-/
import Derived.Test.YtnfdcfagdidmhaaGreatDoorR6
namespace Go.Proofs.YtnfdcfagdidmhaaGreatDoor
open Go.RowKit
set_option linter.unusedVariables false

theorem any_take {O : List AttrD} {j : Nat} {o : AttrD} (p : AttrD → Bool) (ho : O[j]? = some o) : (O.take (j + 1)).any p = ((O.take j).any p || p o) := by
  have hk := (List.getElem?_eq_some_iff.1 ho).1
  rw [List.take_succ_eq_append_getElem hk, (List.getElem?_eq_some_iff.1 ho).2]; simp

set_option maxRecDepth 100000 in
set_option maxHeartbeats 2000000 in
theorem ROnce_any (v : Value) (l : List AttrD) (w : World) (hv : RAttrs w v l) (hsmall : l.length ≤ 1000000) :
    Calls Tryz.prog 105 #[v] w fun e w' => Below w.heap.size w w' ∧ ∃ v', e = .returned v' ∧ w'.ownsRow w.heap.size 123 3 v' (onceL l).length ((onceL l).flatMap attrCells) := by
  obtain ⟨i0, hi, hz0, hz1, hz2⟩ := info_parts infoAttr
  have HI := Lib.hid hi
  have HV := Lib.hid hv
  obtain ⟨av, cv, rfl, hc1, hc2, -⟩ := hv.form
  clear hi hv
  go_enter Tryz.func105, Tryz.ntmps105
  go_wp2
  go_loopw [3, 4] (fun out i wr => ∃ k : Nat, k ≤ l.length ∧ i = .int .i64 k ∧ Hid (wr.ownsRow w.heap.size 123 3 out (onceL (l.take k)).length ((onceL (l.take k)).flatMap attrCells)) ∧ Below w.heap.size w wr) (fun _ i _ => l.length - (intOf i).toNat)
  case atStart => exact ⟨0, Nat.zero_le _, rfl, World.ownsRow_nil _ _ _ _, Below.refl _ _⟩
  case round =>
    obtain ⟨k, hk, rfl, hO, hB⟩ := hrel
    by_cases hlt : k < l.length
    · obtain ⟨y, hy⟩ : ∃ y, l[k]? = some y := ⟨_, List.getElem?_eq_getElem hlt⟩
      have hst := onceL_take hy
      have hcl : (onceL (l.take k)).length ≤ 1000000 := by
        have := onceL_length_le (l.take k) []
        simp only [List.length_nil, Nat.zero_add, List.length_take] at this
        change (List.foldl onceStep [] _).length ≤ _; omega
      have HY := Lib.hid hy
      have HST := Lib.hid hst
      have HB := Lib.hid hB
      have HO := Lib.hid hO.out
      have hform := ownsForm hO.out
      generalize hOO : onceL (l.take k) = O at *
      obtain ⟨oa, oc, rfl⟩ := hform
      clear hOO hst hy hO hB
      go_wp2
      go_loopw [5, 6] (fun sn j wr2 => ∃ (jj : Nat) (bb : Bool), jj ≤ O.length ∧ j = .int .i64 jj ∧ sn = .bool bb ∧ Hid (bb = (O.take jj).any (sameName y) ∧ Below wr.heap.size wr wr2)) (fun _ j _ => O.length - (intOf j).toNat)
      case atStart => exact ⟨0, false, Nat.zero_le _, rfl, rfl, by simp, Below.refl _ _⟩
      case round =>
        obtain ⟨jj, bb, hj, rfl, rfl, hT⟩ := hrel
        by_cases hlt2 : jj < O.length
        · obtain ⟨o, ho⟩ : ∃ o, O[jj]? = some o := ⟨_, List.getElem?_eq_getElem hlt2⟩
          have hat := any_take (sameName y) ho
          obtain ⟨b1, o1, rfl, -, hcs1⟩ := (ROwn_attr_reads (owns_below HO.out hT.out.2)).cells (by omega)
          obtain ⟨b2, o2, rfl, -, hcs2⟩ := ((HV.out.below HB.out).below hT.out.2).cells (by omega)
          obtain ⟨d0, d1, -⟩ := hcs1 jj o ho
          obtain ⟨e0, e1, -⟩ := hcs2 k y HY.out
          have HAT := Lib.hid hat
          have HT := hT
          clear hcs1 hcs2 ho hat hT
          obtain ⟨os, on, ov⟩ := o
          obtain ⟨ys, yn, yv⟩ := y
          dsimp only at d0 d1 e0 e1
          by_cases t1 : os = ys
          · have u1 : (os == ys) = true := by simp [t1]
            by_cases t2 : on = yn
            · have u2 : (on.toList == yn.toList) = true := by simp [t2]
              have HX : Hid (true = (O.take (jj + 1)).any (sameName (ys, yn, yv))) := Lib.hid (by rw [HAT.out]; simp [sameName, t1, t2])
              clear t1 t2
              go_wp2_with (go_quiet (fail))
              go_wp2
              go_roundw
              case rel => exact ⟨jj + 1, true, hlt2, by go_num, rfl, HX.out, Below.drewN HT.out.2 _⟩
              case measure => simp [intOf]; omega
            · have u2 : (on.toList == yn.toList) = false := by rw [str_beq]; simp [t2]
              have HX : Hid (bb = (O.take (jj + 1)).any (sameName (ys, yn, yv))) := Lib.hid (by rw [HAT.out, HT.out.1]; simp [sameName]; intro _ e; exact absurd e.symm t2)
              clear t1 t2
              go_wp2_with (go_quiet (fail))
              go_wp2
              go_roundw
              case rel => exact ⟨jj + 1, bb, hlt2, by go_num, rfl, HX.out, Below.drewN HT.out.2 _⟩
              case measure => simp [intOf]; omega
          · have u1 : (os == ys) = false := by simp [t1]
            have HX : Hid (bb = (O.take (jj + 1)).any (sameName (ys, yn, yv))) := Lib.hid (by rw [HAT.out, HT.out.1]; simp [sameName]; intro e; exact absurd e.symm t1)
            clear t1
            go_wp2_with (go_quiet (fail))
            go_wp2
            go_roundw
            case rel => exact ⟨jj + 1, bb, hlt2, by go_num, rfl, HX.out, Below.drewN HT.out.2 _⟩
            case measure => simp [intOf]; omega
        · have hjl : O.take jj = O := List.take_of_length_le (by omega)
          have hbb := hT.out.1
          rw [hjl] at hbb
          have hBw : Below w.heap.size w wr := HB.out.trans (hT.out.2.mono HB.out.size)
          have HO2 := Lib.hid (owns_below HO.out hT.out.2)
          have hwi : w.heap.size ≤ wr.heap.size := hBw.size
          have HBW := Lib.hid hBw
          have hBa := hT.out.2
          clear hjl hT
          cases bb with
          | true =>
            have HX : Hid (onceL (l.take (k + 1)) = O) := Lib.hid (by rw [HST.out]; unfold onceStep; rw [if_pos hbb.symm])
            clear hbb hBw
            go_wp2
            go_roundw
            case rel => exact ⟨k + 1, hlt, by go_num, by rw [HX.out]; exact HO2, HBW.out⟩
            case measure => simp [intOf]; omega
          | false =>
            have HX : Hid (onceL (l.take (k + 1)) = O ++ [y]) := Lib.hid (by rw [HST.out]; unfold onceStep; rw [if_neg (by rw [← hbb]; simp)])
            obtain ⟨b2, o2, rfl, -, hcs2⟩ := ((HV.out.below HB.out).below hBa).cells (by omega)
            obtain ⟨e0, e1, e2⟩ := hcs2 k y HY.out
            clear hbb hBw hcs2 hBa
            obtain ⟨ys, yn, yv⟩ := y
            dsimp only at e0 e1 e2
            go_wp2_with (at_builtin; refine wpList_append_own _ rfl _ _ 44 rfl w.heap.size 123 i0 _ 3 40 Tryz.underlying44 HI.out hz0 hz1 hz2 rfl (by decide) _ _ _ rfl (HO2.out.alloc _) ⟨wr.heap.size, 0, none⟩ 1 1 (attrCells (ys, yn, yv)) rfl rfl ?_ ?_ ?_ ?_ ?_ ?_)
            · intro j u hj; rw [Addr.add_mid, Nat.zero_add]; exact cell_new' rfl (by simpa [attrCells] using hj)
            · intro u hu; simp [attrCells] at hu; rcases hu with rfl | rfl | rfl <;> rfl
            · unfold maxLen; omega
            · omega
            · simp; omega
            intro v' w3 hown hgrow _
            have hB3 : Below w.heap.size w w3 := (HBW.out.alloc hwi _).grown hgrow (by simp; omega) (fun k hk => (owns_block HO2.out k hk).1)
            have hown' : w3.ownsRow w.heap.size 123 3 v' (onceL (l.take (k + 1))).length ((onceL (l.take (k + 1))).flatMap attrCells) := by
              rw [HX.out, flatMap_snoc, List.length_append]; exact hown
            have HO3 := Lib.hid hown'
            clear hown hown' hgrow
            go_wp2
            go_roundw
            case rel => exact ⟨k + 1, hlt, by go_num, HO3, hB3⟩
            case measure => simp [intOf]; omega
    · have hkl : l.take k = l := List.take_of_length_le (by omega)
      have HO2 := Lib.hid (by have := hO.out; rwa [hkl] at this)
      go_wp2
      go_ret
      exact ⟨hB, _, rfl, HO2.out⟩

end Go.Proofs.YtnfdcfagdidmhaaGreatDoor
