/-
  The document's SameInts, Without.
-/
import Derived.Test.YtnfdcfagdidmhaaGreatDoorL2
import Derived.BigQuiet
import Derived.Deep.MidRow
namespace Go.Proofs.YtnfdcfagdidmhaaGreatDoor
open Go.RowKit
set_option linter.unusedVariables false

theorem SameInts_any (v1 v2 : Value) (l1 l2 : List Int) (w : World) (h1 : RInts w v1 l1) (h2 : RInts w v2 l2) :
    Calls Tryz.prog 18 #[v1, v2] w fun e w' => e = .returned (.bool (decide (l1 = l2))) ∧ Below w.heap.size w w' := by
  obtain ⟨a1, c1, rfl, p1, p2, p3⟩ := h1.form
  obtain ⟨a2, c2, rfl, q1, q2, q3⟩ := h2.form
  clear h1 h2
  by_cases hl : l1.length = l2.length
  · have hl1 : ((l1.length : Int) != l2.length) = false := by simp [hl]
    have HL := Lib.hid hl
    go_enter Tryz.func18, Tryz.ntmps18
    go_wp2
    go_loopw [5] (fun i wr => ∃ k : Nat, k ≤ l1.length ∧ i = .int .i64 k ∧ Hid (∀ j : Nat, j < k → l1[j]? = l2[j]?) ∧ Below w.heap.size w wr) (fun i _ => l1.length - (intOf i).toNat)
    case atStart => exact ⟨0, Nat.zero_le _, rfl, fun j hj => by omega, Below.refl _ _⟩
    case round =>
      obtain ⟨k, hk, rfl, hT, hB⟩ := hrel
      by_cases hlt : k < l1.length
      · have hlt2 : k < l2.length := by have := HL.out; omega
        obtain ⟨b1, o1, rfl, hcs1⟩ := p3 (by omega)
        obtain ⟨b2, o2, rfl, hcs2⟩ := q3 (by omega)
        have d1 := Below.old hB (hcs1 k hlt)
        have d2 := Below.old hB (hcs2 k hlt2)
        clear hcs1 hcs2 p3 q3
        obtain ⟨x, hx⟩ : ∃ x, l1[k]? = some x := ⟨_, List.getElem?_eq_getElem hlt⟩
        obtain ⟨y, hy⟩ : ∃ y, l2[k]? = some y := ⟨_, List.getElem?_eq_getElem hlt2⟩
        rw [hx] at d1
        rw [hy] at d2
        simp only [Option.getD_some] at d1 d2
        have HX := Lib.hid (And.intro hx hy)
        clear hx hy
        by_cases he : x = y
        · have he1 : (x != y) = false := by simp [he]
          have HE := Lib.hid he
          clear he
          go_wp2_with (go_quiet (fail))
          go_wp2
          go_roundw
          case rel => exact ⟨k + 1, hlt, by go_num, fun j hj => by
              by_cases hjk : j < k
              · exact hT.out j hjk
              · have : j = k := by omega
                rw [this, HX.out.1, HX.out.2, HE.out], Below.drewN hB _⟩
          case measure => simp [intOf]; omega
        · have he1 : (x != y) = true := by simp [he]
          have HE := Lib.hid he
          clear he
          go_wp2_with (go_quiet (fail))
          go_wp2
          go_ret
          exact ⟨ret_bool (decide_eq_false (fun h => HE.out (by have a := HX.out.1; have b := HX.out.2; rw [h, b] at a; simpa using a.symm))).symm, Below.drewN hB _⟩
      · have hfin : l1 = l2 := by
          apply List.ext_getElem?
          intro j
          by_cases hj : j < k
          · exact hT.out j hj
          · have := HL.out
            rw [List.getElem?_eq_none (by omega), List.getElem?_eq_none (by omega)]
        have HF := Lib.hid hfin
        clear hfin
        go_wp2
        go_ret
        exact ⟨ret_bool (decide_eq_true HF.out).symm, hB⟩
  · have hl1 : ((l1.length : Int) != l2.length) = true := by simp; omega
    have HL := Lib.hid hl
    clear hl
    go_enter Tryz.func18, Tryz.ntmps18
    go_wp2
    go_ret
    exact ⟨ret_bool (decide_eq_false (fun h => HL.out (by rw [h]))).symm, Below.refl _ _⟩

theorem without_snoc (l : List Int) (x k : Int) : without (l ++ [x]) k = if x = k then without l k else without l k ++ [x] := by
  unfold without
  rw [List.filter_append]
  by_cases h : x = k
  · rw [if_pos h]; simp [h]
  · rw [if_neg h]; simp [h]
theorem without_take {l : List Int} {k : Nat} {x n : Int} (hx : l[k]? = some x) : without (l.take (k + 1)) n = if x = n then without (l.take k) n else without (l.take k) n ++ [x] := by
  have hk := (List.getElem?_eq_some_iff.1 hx).1
  rw [List.take_succ_eq_append_getElem hk]
  have := (List.getElem?_eq_some_iff.1 hx).2
  rw [this, without_snoc]

set_option maxHeartbeats 400000 in
theorem Without_any (v : Value) (l : List Int) (n : Int) (w : World) (hv : RInts w v l) (hsmall : l.length ≤ 1000000) :
    Calls Tryz.prog 19 #[v, .int .i64 n] w fun e w' => Below w.heap.size w w' ∧ ∃ v', e = .returned v' ∧ w'.ownsRow w.heap.size 3 1 v' (without l n).length ((without l n).map intv) := by
  obtain ⟨i0, hi, hz0, hz1, hz2⟩ := info_parts infoInt
  obtain ⟨av, cv, rfl, hc1, hc2, hc3⟩ := hv.form
  go_enter Tryz.func19, Tryz.ntmps19
  go_wp2
  go_loopw [5, 6] (fun out i wr => ∃ k : Nat, k ≤ l.length ∧ i = .int .i64 k ∧ Hid (wr.ownsRow w.heap.size 3 1 out (without (l.take k) n).length ((without (l.take k) n).map intv)) ∧ Below w.heap.size w wr) (fun _ i _ => l.length - (intOf i).toNat)
  case atStart => exact ⟨0, Nat.zero_le _, rfl, World.ownsRow_nil _ _ _ _, Below.refl _ _⟩
  case round =>
    obtain ⟨k, hk, rfl, hO, hB⟩ := hrel
    by_cases hlt : k < l.length
    · obtain ⟨b1, o1, rfl, hcs⟩ := hc3 (by omega)
      have d1 := Below.old hB (hcs k hlt)
      obtain ⟨x, hx⟩ : ∃ x, l[k]? = some x := ⟨_, List.getElem?_eq_getElem hlt⟩
      rw [hx] at d1
      simp only [Option.getD_some] at d1
      have hst := without_take (n := n) hx
      have HI := Lib.hid hi
      clear hc3 hcs hx hi
      by_cases he : x = n
      · have he1 : (x != n) = false := by simp [he]
        rw [if_pos he] at hst
        have HO := Lib.hid (show wr.ownsRow w.heap.size 3 1 u5 (without (l.take (k + 1)) n).length ((without (l.take (k + 1)) n).map intv) by rw [hst]; exact hO.out)
        clear hst he
        go_wp2
        go_roundw
        case rel => exact ⟨k + 1, hlt, by go_num, HO, hB⟩
        case measure => simp [intOf]; omega
      · have he1 : (x != n) = true := by simp [he]
        rw [if_neg he] at hst
        have HST := Lib.hid hst
        have hlen : (without (l.take k) n).length ≤ 1000000 := Nat.le_trans (without_length _ _) (by simp; omega)
        have hO2 := hO.out
        generalize without (l.take k) n = L at *
        clear hst he hO
        have hwi : w.heap.size ≤ wr.heap.size := hB.size
        go_wp2_with (at_builtin; refine wpList_append_own _ rfl _ _ 35 rfl w.heap.size 3 i0 _ 1 8 Tryz.underlying35 HI.out hz0 hz1 hz2 rfl (by decide) _ _ _ rfl (hO2.alloc _) ⟨wr.heap.size, 0, none⟩ 1 1 [intv x] rfl rfl ?c1 ?c2 ?c3 ?c4 ?c5 ?_)
        case c1 => intro j u hj; rw [Addr.add_mid, Nat.zero_add]; exact cell_new' rfl (by simpa [intv] using hj)
        case c2 => intro u hu; simp at hu; subst hu; rfl
        case c3 => unfold maxLen; omega
        case c4 => omega
        case c5 => simp; omega
        intro v' w3 hown hgrow _
        have hB3 : Below w.heap.size w w3 := (hB.alloc hwi _).grown hgrow (by simp; omega) (fun k hk => (owns_block hO2 k hk).1)
        have hown' : w3.ownsRow w.heap.size 3 1 v' (L ++ [x]).length ((L ++ [x]).map intv) := by
          rw [List.map_append, List.length_append]; exact hown
        have HO3 := Lib.hid hown'
        clear hown hown' hgrow hO2
        go_wp2
        go_roundw
        case rel => exact ⟨k + 1, hlt, by go_num, by rw [HST.out]; exact HO3.out, hB3⟩
        case measure => simp [intOf]; omega
    · have hkl : l.take k = l := List.take_of_length_le (by omega)
      have HO := Lib.hid (by have := hO.out; rwa [hkl] at this)
      go_wp2
      go_ret
      exact ⟨hB, _, rfl, HO.out⟩

end Go.Proofs.YtnfdcfagdidmhaaGreatDoor
