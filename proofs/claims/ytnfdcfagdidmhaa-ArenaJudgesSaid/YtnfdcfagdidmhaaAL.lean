/-
  The program's Sound: each node once among all children. (Printed by genal.py.)
-/
import Derived.Test.YtnfdcfagdidmhaaSX
import Derived.Test.YtnfdcfagdidmhaaQB
import Derived.BigRegion
namespace Go.Proofs.Ytnfdcfagdidmhaa
open Go.RowKit Classical
set_option linter.unusedVariables false

/-- A table. -/
def tab (m : Nat) (f : Nat → Value) : List Value := (List.range m).map f
theorem tab_length (m : Nat) (f : Nat → Value) : (tab m f).length = m := by simp [tab]
theorem tab_get {m : Nat} {f : Nat → Value} {x : Nat} (h : x < m) : (tab m f)[x]? = some (f x) := by
  unfold tab; rw [List.getElem?_map, List.getElem?_range h]; rfl
theorem tab_set (m : Nat) (f : Nat → Value) (k : Nat) (u : Value) : (tab m f).set k u = tab m (fun x => if x = k then u else f x) := by
  apply List.ext_getElem?
  intro x
  rw [List.getElem?_set]
  by_cases hx : x < m
  · rw [tab_get (f := f) hx, tab_get (f := fun x => if x = k then u else f x) hx]
    by_cases hk : k = x
    · subst hk; simp [tab_length, hx]
    · rw [if_neg hk, if_neg (fun e => hk e.symm)]
  · have h1 : (tab m f)[x]? = none := List.getElem?_eq_none (by rw [tab_length]; omega)
    have h2 : (tab m (fun x => if x = k then u else f x))[x]? = none := List.getElem?_eq_none (by rw [tab_length]; omega)
    rw [h2]
    split
    · rw [if_neg (by rw [tab_length]; omega)]
    · exact h1
theorem tab_made (m : Nat) (z : Value) : (madeCells #[z] (m * 1)).toList = tab m (fun _ => z) := by
  apply List.ext_getElem?
  intro x
  by_cases hx : x < m
  · rw [tab_get hx]; simp [madeCells, hx, Nat.mod_one]
  · rw [List.getElem?_eq_none (by simp [madeCells]; omega), List.getElem?_eq_none (by rw [tab_length]; omega)]
theorem tab_congr {m : Nat} {f g : Nat → Value} (h : ∀ x, x < m → f x = g x) : tab m f = tab m g := by
  unfold tab
  exact List.map_congr_left (fun x hx => h x (List.mem_range.1 hx))

/-- Which handles have been met. -/
abbrev seenF (P : List Int) (x : Nat) : Value := .bool (decide ((x : Int) ∈ P))
theorem seen_set (m : Nat) (P : List Int) (k : Nat) : (tab m (seenF P)).set k (.bool true) = tab m (seenF (P ++ [(k : Int)])) := by
  rw [tab_set]
  refine tab_congr (fun x _ => ?_)
  by_cases hk : x = k
  · subst hk; simp
  · rw [if_neg hk]
    have : ((x : Int) = (k : Int)) = False := by simp; omega
    simp [seenF, List.mem_append, this]

theorem allKids_take {ns : List Nd} {i : Nat} {n : Nd} (h : ns[i]? = some n) : allKids (ns.take (i + 1)) = allKids (ns.take i) ++ n.kids := by
  obtain ⟨hi, e⟩ := List.getElem?_eq_some_iff.1 h
  unfold allKids
  rw [List.take_succ_eq_append_getElem hi, List.flatMap_append, e]; simp
theorem allKids_split {ns : List Nd} {i : Nat} {n : Nd} (h : ns[i]? = some n) : allKids ns = allKids (ns.take i) ++ (n.kids ++ allKids (ns.drop (i + 1))) := by
  obtain ⟨hi, e⟩ := List.getElem?_eq_some_iff.1 h
  have : ns = ns.take i ++ n :: ns.drop (i + 1) := by rw [← e, List.getElem_cons_drop, List.take_append_drop]
  conv => lhs; rw [this]
  unfold allKids
  rw [List.flatMap_append, List.flatMap_cons]
theorem not_once {ns : List Nd} {i j : Nat} {n : Nd} {k : Int} (h : ns[i]? = some n) (hj : n.kids[j]? = some k) (hk : k ∈ allKids (ns.take i) ++ n.kids.take j) : ¬ (allKids ns).Nodup := by
  intro hn
  rw [allKids_split h] at hn
  obtain ⟨hjl, ej⟩ := List.getElem?_eq_some_iff.1 hj
  have hs : n.kids = n.kids.take j ++ k :: n.kids.drop (j + 1) := by rw [← ej, List.getElem_cons_drop, List.take_append_drop]
  rw [hs] at hn
  rw [show allKids (ns.take i) ++ ((n.kids.take j ++ k :: n.kids.drop (j + 1)) ++ allKids (ns.drop (i + 1))) = (allKids (ns.take i) ++ n.kids.take j) ++ (k :: (n.kids.drop (j + 1) ++ allKids (ns.drop (i + 1)))) by simp] at hn
  rw [List.nodup_append] at hn
  exact hn.2.2 k hk k (by simp) rfl

theorem infoBool : (Try.prog.info? 4).map (fun i => (i.zero, i.size, i.bytes)) = some (some (.bool false), 1, 1) := by kernel_rfl

set_option maxRecDepth 100000 in
set_option maxHeartbeats 8000000 in
theorem ALinked_any (A : Ar) (v : Value) (w : World) (hv : RNodes w v A.ns) (hs : A.ns.length ≤ 100000) (hkk : ∀ h, A.has h → ∀ k ∈ (A.get h).kids, A.has k) :
    Calls Try.prog 91 #[v] w fun e w' => e = .returned (.bool (decide A.onceA)) ∧ Below w.heap.size w w' := by
  obtain ⟨i0, hi, hz0, hz1, hz2⟩ := info_parts infoBool
  have HI := Lib.hid hi
  have HV := Lib.hid hv
  have HKH := Lib.hid (show ∀ (i : Nat) (n : Nd), A.ns[i]? = some n → ∀ k ∈ n.kids, 1 ≤ k ∧ k ≤ (A.ns.length : Int) from fun i n hn k hk => by
    obtain ⟨hil, e⟩ := List.getElem?_eq_some_iff.1 hn
    have hg : A.get ((i : Int) + 1) = n := by
      show (A.ns[((i : Int) + 1).toNat - 1]?).getD zeroNd = n
      rw [show ((i : Int) + 1).toNat - 1 = i from by omega, hn]; rfl
    exact hkk ((i : Int) + 1) ⟨by omega, by unfold Ar.n; omega⟩ k (by rw [hg]; exact hk))
  obtain ⟨a, c, rfl, p1, p2, -⟩ := hv
  clear hi hkk
  go_enter Try.func91, Try.ntmps91
  go_wp2_with (at_make; refine wpList_make_full _ rfl _ _ 128 rfl w.heap.size 4 i0 _ 1 Try.underlying128 HI.out hz0 hz1 _ _ _ _ (A.ns.length + 1) rfl rfl ?c1 ?c2 ?c3 ?c4 ?c5 ?_)
  case c1 => omega
  case c2 => omega
  case c3 => rw [hz2]; omega
  case c4 => unfold maxLen; omega
  case c5 => exact Nat.le_refl _
  intro w1 hown hgrow
  have hB1 : Below w.heap.size w w1 := (Below.refl _ w).grown hgrow (Nat.le_refl _) (fun k hk => by simp at hk)
  have ho : w1.ownsRow w.heap.size 4 1 (.slice (some ⟨w.heap.size, 0, none⟩) (A.ns.length + 1) (A.ns.length + 1)) (A.ns.length + 1) (tab (A.ns.length + 1) (seenF [])) := by
    have e := tab_made (A.ns.length + 1) (.bool false)
    rw [Nat.mul_one] at e
    rw [e] at hown
    rw [show tab (A.ns.length + 1) (seenF []) = tab (A.ns.length + 1) (fun _ => .bool false) from tab_congr (fun x _ => by simp)]
    exact hown
  have HO := Lib.hid ho
  have HB := Lib.hid hB1
  clear hown hgrow hB1 ho hz0 hz1 hz2
  go_wp2
  go_loopw [14] (fun i wr => ∃ k : Nat, k ≤ A.ns.length ∧ i = .int .i64 k ∧ Hid (allKids (A.ns.take k)).Nodup ∧ Hid (Below w.heap.size w wr) ∧ Hid (wr.ownsRow w.heap.size 4 1 (.slice (some ⟨w.heap.size, 0, none⟩) (A.ns.length + 1) (A.ns.length + 1)) (A.ns.length + 1) (tab (A.ns.length + 1) (seenF (allKids (A.ns.take k)))))) (fun i _ => A.ns.length - (intOf i).toNat)
  case atStart => exact ⟨0, Nat.zero_le _, rfl, Lib.hid (by simp [allKids]), HB, Lib.hid (by simpa [allKids] using HO.out)⟩
  case round =>
    obtain ⟨k, hk, rfl, hN, hB, hO⟩ := hrel
    clear HB HO
    by_cases hlt : k < A.ns.length
    · obtain ⟨b1, o1, rfl, -, hcs⟩ := HV.out.at (by omega)
      obtain ⟨n, hn⟩ : ∃ n, A.ns[k]? = some n := ⟨_, List.getElem?_eq_getElem hlt⟩
      obtain ⟨kv, av, F, hK, -⟩ := hcs k n hn
      obtain ⟨ka, kc, rfl, kl1, kl2, -⟩ := hK.form
      have f2 := Below.old hB.out F.c2
      have HKV := Lib.hid hK
      have HNN := Lib.hid hn
      clear hcs hn F hK
      obtain ⟨wo, rfl⟩ : ∃ wo : World, wo = wr := ⟨_, rfl⟩
      go_wp2
      go_loopw [23] (fun j wr => ∃ q : Nat, q ≤ n.kids.length ∧ j = .int .i64 q ∧ Hid (allKids (A.ns.take k) ++ n.kids.take q).Nodup ∧ Hid (Below w.heap.size w wr) ∧ Hid (wr.ownsRow w.heap.size 4 1 (.slice (some ⟨w.heap.size, 0, none⟩) (A.ns.length + 1) (A.ns.length + 1)) (A.ns.length + 1) (tab (A.ns.length + 1) (seenF (allKids (A.ns.take k) ++ n.kids.take q))))) (fun j _ => n.kids.length - (intOf j).toNat)
      case atStart => exact ⟨0, Nat.zero_le _, rfl, Lib.hid (by simpa using hN.out), hB, Lib.hid (by simpa using hO.out)⟩
      case round =>
        clear hN hB hO f2
        obtain ⟨q, hq, rfl, hN, hB, hO⟩ := hrel
        by_cases hlq : q < n.kids.length
        · obtain ⟨kb, ko, rfl, -, hkc⟩ := (RInts.below HKV.out hB.out).cells (by omega)
          obtain ⟨x, hx⟩ : ∃ x, n.kids[q]? = some x := ⟨_, List.getElem?_eq_getElem hlq⟩
          have t1 := hkc q x hx
          obtain ⟨x1, x2⟩ := HKH.out k n HNN.out x (List.mem_of_getElem? hx)
          obtain ⟨y, rfl⟩ : ∃ y : Nat, x = (y : Int) := ⟨x.toNat, by omega⟩
          have HX := Lib.hid hx
          clear hkc hx
          have s1 := hO.out.cellAt y (by omega)
          rw [tab_get (by omega)] at s1
          have s2 := hO.out.frozenAt y
          by_cases hm : (y : Int) ∈ allKids (A.ns.take k) ++ n.kids.take q
          · rw [show seenF (allKids (A.ns.take k) ++ n.kids.take q) y = .bool true by simp only [seenF]; rw [decide_eq_true hm]] at s1
            have HM := Lib.hid (not_once HNN.out HX.out hm)
            clear hm
            go_wp2
            go_ret
            exact ⟨ret_bool (decide_eq_false (fun z => HM.out z.1)).symm, hB.out⟩
          · rw [show seenF (allKids (A.ns.take k) ++ n.kids.take q) y = .bool false by simp only [seenF]; rw [decide_eq_false hm]] at s1
            have HM := Lib.hid hm
            clear hm
            have hst := (hO.out.stored y (.bool true)).1
            rw [seen_set] at hst
            have hB2 := hB.out.setCell (p := ⟨w.heap.size, y, none⟩) (Nat.le_refl _) (.bool true)
            have hap : allKids (A.ns.take k) ++ n.kids.take q ++ [(y : Int)] = allKids (A.ns.take k) ++ n.kids.take (q + 1) := by
              rw [List.append_assoc, List.take_succ_eq_append_getElem hlq, (List.getElem?_eq_some_iff.1 HX.out).2]
            rw [hap] at hst
            have HST := Lib.hid (And.intro hst hB2)
            have HN2 : Hid (allKids (A.ns.take k) ++ n.kids.take (q + 1)).Nodup := Lib.hid (by
              rw [← hap, List.nodup_append]
              exact ⟨hN.out, by simp, fun a ha b hb => by simp at hb; subst hb; exact fun e => HM.out (by rw [← e]; exact ha)⟩)
            clear hst hB2 hap hN hO
            go_wp2
            go_roundw
            case rel => exact ⟨q + 1, hlq, by go_num, HN2, Lib.hid HST.out.2, Lib.hid HST.out.1⟩
            case measure => simp [intOf]; omega
        · have hql : n.kids.take q = n.kids := List.take_of_length_le (by omega)
          have HF : Hid ((allKids (A.ns.take (k + 1))).Nodup ∧ wr.ownsRow w.heap.size 4 1 (.slice (some ⟨w.heap.size, 0, none⟩) (A.ns.length + 1) (A.ns.length + 1)) (A.ns.length + 1) (tab (A.ns.length + 1) (seenF (allKids (A.ns.take (k + 1)))))) := Lib.hid (by
            rw [allKids_take HNN.out]
            have a := hN.out; have b := hO.out
            rw [hql] at a b
            exact ⟨a, b⟩)
          clear hN hO hql
          go_wp2
          go_roundw
          case rel => exact ⟨k + 1, hlt, by go_num, Lib.hid HF.out.1, hB, Lib.hid HF.out.2⟩
          case measure => simp [intOf]; omega
    · have hkl : A.ns.take k = A.ns := List.take_of_length_le (by omega)
      have HN : Hid (allKids A.ns).Nodup := Lib.hid (by have a := hN.out; rw [hkl] at a; exact a)
      have HO : Hid (wr.ownsRow w.heap.size 4 1 (.slice (some ⟨w.heap.size, 0, none⟩) (A.ns.length + 1) (A.ns.length + 1)) (A.ns.length + 1) (tab (A.ns.length + 1) (seenF (allKids A.ns)))) := Lib.hid (by have a := hO.out; rw [hkl] at a; exact a)
      clear hN hO hkl
      obtain ⟨wo, rfl⟩ : ∃ wo : World, wo = wr := ⟨_, rfl⟩
      go_wp2
      go_loopw [38] (fun i wr => ∃ k : Nat, k ≤ A.ns.length ∧ i = .int .i64 k ∧ Hid (∀ (h : Int), 1 ≤ h → h ≤ k → (h ∈ allKids A.ns ↔ (A.get h).parent ≠ 0)) ∧ Hid (∃ m, wr = wo.drewN m)) (fun i _ => A.ns.length - (intOf i).toNat)
      case atStart => exact ⟨0, Nat.zero_le _, rfl, Lib.hid (fun h h1 h2 => by omega), Lib.hid ⟨0, rfl⟩⟩
      case round =>
        obtain ⟨q, hq, rfl, hT, hW⟩ := hrel
        by_cases hlq : q < A.ns.length
        · obtain ⟨b1, o1, rfl, -, hcs⟩ := HV.out.at (by omega)
          obtain ⟨n, hn⟩ : ∃ n, A.ns[q]? = some n := ⟨_, List.getElem?_eq_getElem hlq⟩
          obtain ⟨kv, av, F, -, -⟩ := hcs q n hn
          have hWB : Below wo.heap.size wo wr := by obtain ⟨m, rfl⟩ := hW.out; exact Below.drewN (Below.refl _ _) m
          have f1 := Below.old hWB (Below.old hB.out F.c1)
          have hg : A.get ((q : Int) + 1) = n := by
            show (A.ns[((q : Int) + 1).toNat - 1]?).getD zeroNd = n
            rw [show ((q : Int) + 1).toNat - 1 = q from by omega, hn]; rfl
          have s1 := HO.out.cellAt (q + 1) (by omega)
          rw [tab_get (by omega)] at s1
          have s2 := Below.old hWB s1
          have hG := Lib.hid hg
          have hib1 : (0 : Int) ≤ (q : Int) + 1 := by omega
          have hib2 : (q : Int) + 1 < (A.ns.length : Int) + 1 := by omega
          have hwr : IntKind.i64.wrap ((q : Int) + 1) = (q : Int) + 1 := IntWalk.i64_in _ (by omega)
          have hnt : ((q : Int) + 1).toNat = q + 1 := by omega
          clear hcs hn F hWB s1 hg
          by_cases hm : ((q + 1 : Nat) : Int) ∈ allKids A.ns
          case pos =>
            rw [show seenF (allKids A.ns) (q + 1) = .bool true by simp only [seenF]; rw [decide_eq_true hm]] at s2
            by_cases hp : n.parent = 0
            case pos =>
              have z : (n.parent != 0) = false := by simp [hp]
              have HF := Lib.hid (show ¬ A.onceA from fun z => by
                have := z.2 ((q : Int) + 1) ⟨by omega, by unfold Ar.n; omega⟩
                rw [hG.out] at this
                have hm' := hm
                rw [show ((q + 1 : Nat) : Int) = (q : Int) + 1 by omega] at hm'
                exact this.1 hm' hp)
              have HBF : Hid (Below w.heap.size w wr) := Lib.hid (by obtain ⟨m, rfl⟩ := hW.out; exact Below.drewN hB.out m)
              clear hm hp hT
              go_wp2_with fail
              go_quiet (fail)
              go_wp2
              go_ret
              exact ⟨ret_bool (decide_eq_false HF.out).symm, Below.drewN HBF.out _⟩
            case neg =>
              have z : (n.parent != 0) = true := by simp [hp]
              have HF : Hid (∀ (h : Int), 1 ≤ h → h ≤ ((q + 1 : Nat) : Int) → (h ∈ allKids A.ns ↔ (A.get h).parent ≠ 0)) := Lib.hid (fun h h1 h2 => by
                by_cases hhq : h ≤ (q : Int)
                · exact hT.out h h1 hhq
                · have e : h = (q : Int) + 1 := by omega
                  rw [e, hG.out]
                  have hm' := hm
                  rw [show ((q + 1 : Nat) : Int) = (q : Int) + 1 by omega] at hm'
                  exact ⟨fun _ => hp, fun _ => hm'⟩)
              clear hm hp hT
              go_wp2_with fail
              go_quiet (fail)
              go_wp2
              go_roundw
              case rel => exact ⟨q + 1, hlq, by go_num, HF, Lib.hid (by obtain ⟨m, hm⟩ := hW.out; exact ⟨m + _, by rw [hm, World.drewN_drewN]⟩)⟩
              case measure => simp [intOf]; omega
          case neg =>
            rw [show seenF (allKids A.ns) (q + 1) = .bool false by simp only [seenF]; rw [decide_eq_false hm]] at s2
            by_cases hp : n.parent = 0
            case pos =>
              have z : (n.parent != 0) = false := by simp [hp]
              have HF : Hid (∀ (h : Int), 1 ≤ h → h ≤ ((q + 1 : Nat) : Int) → (h ∈ allKids A.ns ↔ (A.get h).parent ≠ 0)) := Lib.hid (fun h h1 h2 => by
                by_cases hhq : h ≤ (q : Int)
                · exact hT.out h h1 hhq
                · have e : h = (q : Int) + 1 := by omega
                  rw [e, hG.out]
                  have hm' := hm
                  rw [show ((q + 1 : Nat) : Int) = (q : Int) + 1 by omega] at hm'
                  exact ⟨fun x => absurd x hm', fun x => absurd hp x⟩)
              clear hm hp hT
              go_wp2_with fail
              go_quiet (fail)
              go_wp2
              go_roundw
              case rel => exact ⟨q + 1, hlq, by go_num, HF, Lib.hid (by obtain ⟨m, hm⟩ := hW.out; exact ⟨m + _, by rw [hm, World.drewN_drewN]⟩)⟩
              case measure => simp [intOf]; omega
            case neg =>
              have z : (n.parent != 0) = true := by simp [hp]
              have HF := Lib.hid (show ¬ A.onceA from fun z => by
                have := z.2 ((q : Int) + 1) ⟨by omega, by unfold Ar.n; omega⟩
                rw [hG.out] at this
                have hm' := hm
                rw [show ((q + 1 : Nat) : Int) = (q : Int) + 1 by omega] at hm'
                exact hm' (this.2 hp))
              have HBF : Hid (Below w.heap.size w wr) := Lib.hid (by obtain ⟨m, rfl⟩ := hW.out; exact Below.drewN hB.out m)
              clear hm hp hT
              go_wp2_with fail
              go_quiet (fail)
              go_wp2
              go_ret
              exact ⟨ret_bool (decide_eq_false HF.out).symm, Below.drewN HBF.out _⟩
        · have HF := Lib.hid (show A.onceA from ⟨HN.out, fun h hh => hT.out h hh.1 (by have := hh.2; unfold Ar.n at this; omega)⟩)
          have HBF : Hid (Below w.heap.size w wr) := Lib.hid (by obtain ⟨m, rfl⟩ := hW.out; exact Below.drewN hB.out m)
          clear hT
          go_wp2
          go_ret
          exact ⟨ret_bool (decide_eq_true HF.out).symm, HBF.out⟩

end Go.Proofs.Ytnfdcfagdidmhaa
