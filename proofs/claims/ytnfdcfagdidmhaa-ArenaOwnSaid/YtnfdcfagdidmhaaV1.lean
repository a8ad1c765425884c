/-
  The law ArenaVisits.
-/
import Derived.Test.YtnfdcfagdidmhaaW4
import Derived.Test.YtnfdcfagdidmhaaT2
namespace Go.Proofs.Ytnfdcfagdidmhaa
open Go.RowKit
set_option linter.unusedVariables false

theorem findI_nodup {l : List Int} {i : Nat} {x : Int} (hn : l.Nodup) (hi : l[i]? = some x) : findI (fun y => decide (y = x)) l = i := by
  refine findI_hit hi (by simp) (fun j y hj hy => ?_)
  have h1 := (List.getElem?_eq_some_iff.1 hi)
  have h2 := (List.getElem?_eq_some_iff.1 hy)
  simp
  intro e
  subst e
  have := (List.getElem_inj hn (i := j) (j := i) (h₀ := h2.1) (h₁ := h1.1)).1 (h2.2.trans h1.2.symm)
  omega
theorem findI_take {l : List Int} {i : Nat} {m : Int} (hm : m ∈ l.take i) : ∃ j : Nat, findI (fun y => decide (y = m)) l = j ∧ j < i := by
  obtain ⟨j, h1, h2, h3, h4⟩ := findI_mem (List.mem_of_mem_take hm)
  refine ⟨j, h1, ?_⟩
  obtain ⟨j', hj', e⟩ := List.getElem_of_mem hm
  rw [List.length_take] at hj'
  rw [List.getElem_take] at e
  have := h4 j'
  by_cases hlt : j' < j
  · exact absurd (by rw [List.getElem?_eq_getElem (by omega), e]) (this hlt)
  · omega
theorem findI_neg {l : List Int} {m : Int} : decide (0 ≤ findI (fun y => decide (y = m)) l) = decide (m ∈ l) := by
  rw [findI_any, Bool.eq_iff_iff]; simp
/-- What the law asks of the handle at place i. -/
theorem visit_fact {A : Ar} (hI : A.Inv) {h : Int} {i : Nat} {x : Int} (hi : (A.walk h)[i]? = some x) : A.has x ∧ A.contains h x = true ∧ findI (fun y => decide (y = x)) (A.walk h) = i ∧ (0 < i → ∃ j : Nat, findI (fun y => decide (y = A.up x)) (A.walk h) = j ∧ j < i) := by
  have hm := List.mem_of_getElem? hi
  have hh : A.has h := Classical.not_not.1 (fun hn => by rw [walk_no hn] at hm; simp at hm)
  refine ⟨((walk_mem hI h hh x).1 hm).1, by rw [walk_contains hI]; simp [hm], findI_nodup (walk_nodup hI h hh) hi, fun h0 => findI_take ?_⟩
  obtain ⟨rest, e, ha⟩ := walk_after hI h hh
  rw [e] at hi ⊢
  obtain ⟨i, rfl⟩ : ∃ j, i = j + 1 := ⟨i - 1, by omega⟩
  rw [List.getElem?_cons_succ] at hi
  rw [List.take_succ_cons]
  have hlt := (List.getElem?_eq_some_iff.1 hi).1
  have hsp : rest = rest.take i ++ x :: rest.drop (i + 1) := by
    rw [← (List.getElem?_eq_some_iff.1 hi).2, ← List.drop_eq_getElem_cons hlt, List.take_append_drop]
  rcases ha _ _ _ hsp with q | q
  · rw [q]; simp
  · exact List.mem_cons.2 (.inr q)

set_option maxRecDepth 100000 in
set_option maxHeartbeats 1000000 in
theorem ArenaVisits_big (v0 : Value) (i1 : Int) (l : List OpD) (w : World) (hv : ROps w v0 l) (hs : ¬ smallOps l 150) :
    Calls Try.prog 11 #[v0, .int .i64 i1] w fun e w' => e = .returned (.bool true) ∧ Below w.heap.size w w' := by
  have HS := Lib.hid (Small_any v0 l 150 w hv)
  have HD := Lib.hid (show decide (smallOps l 150) = false from decide_eq_false hs)
  obtain ⟨av, cv, rfl, -⟩ := hv
  go_enter Try.func11, Try.ntmps11
  go_wp2_with fail
  refine HS.out.mono ?_
  rintro e w1 ⟨rfl, hB1⟩
  rw [HD.out]
  go_wp2_with fail
  refine (known_any w1).mono ?_
  rintro e w2 ⟨rfl, hB2⟩
  go_wp2
  go_ret
  exact ⟨rfl, hB1.trans (hB2.mono hB1.size)⟩

theorem Contains_own {w0 w : World} {B b : Nat} {A : Ar} {l : List Asrt} {u h : Int} (o : Own w0 B l w) (hm : Asrt.arena b A ∈ l) (hI : A.Inv) :
    Calls Try.prog 37 #[.pointer (some ⟨b, 0, none⟩), .int .i64 u, .int .i64 h] w fun e w' => e = .returned (.bool (A.contains u h)) ∧ Own w0 B l w' := by
  obtain ⟨ρ, hA⟩ := o.arena hm
  refine (Contains_all A ρ b u h w hA hI.wf).mono ?_
  rintro e w' ⟨rfl, hB⟩
  exact ⟨rfl, o.read hB⟩
theorem At_own {w0 w : World} {B : Nat} {v : Value} {x : List Int} {n : Int} {l : List Asrt} (o : Own w0 B l w) (hm : Asrt.ints v x ∈ l) {i : Int} (hi : findI (fun y => decide (y = n)) x = i) :
    Calls Try.prog 53 #[v, .int .i64 n] w fun e w' => e = .returned (.int .i64 i) ∧ w = w' := by
  subst hi
  exact At_any v x n w (o.ints hm)

theorem RInts.cell {w : World} {b o n c : Nat} {l : List Int} (h : RInts w (.slice (some ⟨b, o, none⟩) n c) l) {j : Nat} {x : Int} (hx : l[j]? = some x) : w.cell? ⟨b, o + j, none⟩ = some (.int .i64 x) := by
  have hp : 0 < l.length := by have := (List.getElem?_eq_some_iff.1 hx).1; omega
  obtain ⟨b', o', e, -, hcs⟩ := h.cells hp
  simp at e
  obtain ⟨rfl, rfl⟩ := e
  exact hcs j x hx

set_option maxRecDepth 100000 in
set_option maxHeartbeats 4000000 in
theorem ArenaVisits_some (v : Value) (i0 : Int) (l : List OpD) (w : World) (hv : ROps w v l) (hs : smallOps l 150) :
    Calls Try.prog 11 #[v, .int .i64 i0] w fun e w' => e = .returned (.bool true) ∧ Below w.heap.size w w' := by
  have HS := Lib.hid (Small_any v l 150 w hv)
  have HD := Lib.hid (show decide (smallOps l 150) = true from decide_eq_true hs)
  obtain ⟨s1, s2⟩ := smallOps_get hs (by omega)
  obtain ⟨i1, i2⟩ := run_len s2
  have HR := Lib.hid (fun (w0 w1 : World) (B : Nat) (o : Own w0 B [] w1) (hv1 : ROps w1 v l) => Run_own o v l hv1 s1 s2)
  have o0 := Own.start w
  have HV := Lib.hid hv
  obtain ⟨av, cv, rfl, -⟩ := hv
  have h150 := hs.1
  clear hs
  have i3 : (runL l).ns.length ≤ 450 := by omega
  generalize runL l = A at *
  have hwl := walk_len i1 i0
  have HW := Lib.hid (show walkTo A i0 1000 = A.walk i0 from List.take_of_length_le (by simp; omega))
  have HI := Lib.hid i1
  have HC := Lib.hid (fun (i : Nat) (x : Int) hi => visit_fact i1 (h := i0) (i := i) (x := x) hi)
  have HN := Lib.hid (fun k => walk_contains i1 i0 k)
  generalize hL : A.walk i0 = L at *
  clear hL i1
  go_enter Try.func11, Try.ntmps11
  go_wp2_with fail
  refine HS.out.mono ?_
  rintro e w1 ⟨rfl, hB1⟩
  rw [HD.out]
  have o1 := o0.read hB1
  clear o0 HS HD
  go_wp2_with fail
  refine (HR.out _ _ _ o1 (HV.out.below hB1)).mono ?_
  rintro e w2 ⟨rfl, o2⟩
  generalize w1.heap.size = b at *
  clear o1 hB1 HV
  go_wp2_with fail
  refine (walk_own o2 (b := b) (A := A) (by simp) HI.out (by omega)).mono ?_
  rintro e w3 ⟨a3, c3, rfl, o3⟩
  rw [HW.out] at o3 ⊢
  have HO := Lib.hid o3
  clear o2 o3 HW
  go_wp2
  go_loopw [8] (fun i wr => ∃ k : Nat, k ≤ L.length ∧ i = .int .i64 k ∧ Hid (Own w w.heap.size [.ints (.slice a3 L.length c3) L, .arena b A] wr)) (fun i _ => L.length - (intOf i).toNat)
  case atStart => exact ⟨0, Nat.zero_le _, rfl, HO⟩
  case round =>
    obtain ⟨k, hk, rfl, hT⟩ := hrel
    by_cases hlt : k < L.length
    · obtain ⟨x, hx⟩ : ∃ x, L[k]? = some x := ⟨_, List.getElem?_eq_getElem hlt⟩
      obtain ⟨hxh, hxc, hxa, hxu⟩ := HC.out k x hx
      obtain ⟨b3, o3, rfl, -, hcs⟩ := (hT.out.ints (v := .slice a3 L.length c3) (x := L) (by simp)).cells (by omega)
      have d1 := hcs k x hx
      have hkk : ((k : Int) != k) = false := by simp
      have HX := Lib.hid (And.intro hxh (And.intro hxc hxu))
      have HXX := Lib.hid hx
      have o4 := hT.out
      have HA := Lib.hid hxa
      clear hcs hxh hxc hxu hT hxa hx
      go_wp2_with fail
      refine (At_own o4 (x := L) (by simp) HA.out).mono ?_
      rintro e w5 ⟨rfl, rfl⟩
      go_wp2_with fail
      refine (Contains_own o4 (b := b) (A := A) (by simp) HI.out).mono ?_
      rintro e w5 ⟨rfl, o5⟩
      rw [HX.out.2.1]
      clear o4 d1
      have d1 := (o5.ints (v := .slice (some ⟨b3, o3, none⟩) L.length c3) (x := L) (by simp)).cell HXX.out
      obtain ⟨nx, hnx⟩ : ∃ n, n = A.get x := ⟨_, rfl⟩
      have hup : A.up x = if nx.parent ≠ 0 then nx.parent else nx.host := by rw [hnx]; rfl
      have HNX := Lib.hid hnx.symm
      obtain ⟨u, hu⟩ : ∃ u, u = A.up x := ⟨_, rfl⟩
      have HU := HX.out.2.2
      rw [← hu] at hup HU
      have HUU := Lib.hid HU
      clear hnx hu HU
      go_wp2_with fail
      refine (Node_own o5 (b := b) (A := A) (by simp) (HI.out.short (by omega)) HX.out.1 HNX.out).mono ?_
      rintro e w6 ⟨ka, kl, kc, aa, al, ac, rfl, o6, -⟩
      clear o5 d1
      have HT := Lib.hid (nodeBox_facts (w := w6) nx ka kc aa ac kl al)
      have o7 := o6.nodeBox nx (.slice ka kl kc) (.slice aa al ac)
      have b7 := o7.box (g := w6.heap.size) (o := .cells (nx.cells (.slice ka kl kc) (.slice aa al ac)).toArray 36 (0, 0)) (by simp)
      have e1 : ((w6.alloc (.cells zcells 36)).setCells w6.heap.size 0 (nx.cells (.slice ka kl kc) (.slice aa al ac))).cell? ⟨w6.heap.size, 1, none⟩ = some (.int .i64 nx.parent) := by rw [cell_of_row _ _ _ _ _ _ b7]; rfl
      have e12 : ((w6.alloc (.cells zcells 36)).setCells w6.heap.size 0 (nx.cells (.slice ka kl kc) (.slice aa al ac))).cell? ⟨w6.heap.size, 12, none⟩ = some (.int .i64 nx.host) := by rw [cell_of_row _ _ _ _ _ _ b7]; rfl
      have E7 := Lib.hid (And.intro e1 e12)
      clear b7 e1 e12
      by_cases hp : nx.parent = 0
      · have hpe : (nx.parent == 0) = true := by simp [hp]
        rw [if_neg (by simp [hp])] at hup
        have HP := Lib.hid hp
        have HUP := Lib.hid hup
        clear hp hup
        go_wp2_with ((with_reducible refine wpList_store_mid ?_ 36 (.tmp 9) (.tmp 58) ?_ w6.heap.size 0 (nx.cells (.slice ka kl kc) (.slice aa al ac)).toArray ?_ ?_ ?_ ?_ ?_ ?_); exact rfl; exact rfl; exact rfl; exact rfl; exact HT.out.1; exact sizeNode _ _ _; exact all_oneCell_toArray HT.out.2; generalize hw7 : World.setCells _ _ _ _ = w7 at o7 E7 ⊢; generalize hg6 : w6.heap.size = g6 at o7 E7 ⊢; clear hw7 hg6; have e1 := E7.out.1; have e12 := E7.out.2; rw [← HUP.out] at e12; clear E7)
        all_goals have HO8 := Lib.hid o7.drop
        all_goals clear o7 HT o6
        · obtain ⟨j, hj1, hj2⟩ := HUU.out (by omega)
          refine (At_own HO8.out (x := L) (by simp) hj1).mono ?_
          rintro e w8 ⟨rfl, rfl⟩
          go_wp2_with fail
          refine (At_own HO8.out (x := L) (by simp) hj1).mono ?_
          rintro e w8 ⟨rfl, rfl⟩
          go_wp2
          go_roundw
          case rel => exact ⟨k + 1, hlt, by go_num, HO8⟩
          case measure => simp [intOf]; omega
        · go_roundw
          case rel => exact ⟨k + 1, hlt, by go_num, HO8⟩
          case measure => simp [intOf]; omega
      · have hpe : (nx.parent == 0) = false := by simp [hp]
        rw [if_pos hp] at hup
        have HUP := Lib.hid hup
        clear hup
        go_wp2_with ((with_reducible refine wpList_store_mid ?_ 36 (.tmp 9) (.tmp 58) ?_ w6.heap.size 0 (nx.cells (.slice ka kl kc) (.slice aa al ac)).toArray ?_ ?_ ?_ ?_ ?_ ?_); exact rfl; exact rfl; exact rfl; exact rfl; exact HT.out.1; exact sizeNode _ _ _; exact all_oneCell_toArray HT.out.2; generalize hw7 : World.setCells _ _ _ _ = w7 at o7 E7 ⊢; generalize hg6 : w6.heap.size = g6 at o7 E7 ⊢; clear hw7 hg6; have e1 := E7.out.1; rw [← HUP.out] at e1 hpe; clear E7)
        all_goals have HO8 := Lib.hid o7.drop
        all_goals clear o7 HT o6
        · obtain ⟨j, hj1, hj2⟩ := HUU.out (by omega)
          refine (At_own HO8.out (x := L) (by simp) hj1).mono ?_
          rintro e w8 ⟨rfl, rfl⟩
          go_wp2_with fail
          refine (At_own HO8.out (x := L) (by simp) hj1).mono ?_
          rintro e w8 ⟨rfl, rfl⟩
          go_wp2
          go_roundw
          case rel => exact ⟨k + 1, hlt, by go_num, HO8⟩
          case measure => simp [intOf]; omega
        · go_roundw
          case rel => exact ⟨k + 1, hlt, by go_num, HO8⟩
          case measure => simp [intOf]; omega
    · have HO3 := Lib.hid hT.out
      clear hT
      go_wp2
      go_loopw [12] (fun i wr => ∃ k : Nat, 1 ≤ k ∧ k ≤ A.ns.length + 1 ∧ i = .int .i64 k ∧ Hid (Own w w.heap.size [.ints (.slice a3 L.length c3) L, .arena b A] wr)) (fun i _ => A.ns.length + 1 - (intOf i).toNat)
      case atStart => exact ⟨1, Nat.le_refl _, by omega, rfl, HO3⟩
      case round =>
        obtain ⟨k', hk1, hk2, rfl, hT⟩ := hrel
        have o4 := hT.out
        clear hT
        by_cases hlt2 : k' ≤ A.ns.length
        · go_wp2_with fail
          refine (Len_own o4 (b := b) (A := A) (by simp)).mono ?_
          rintro e w5 ⟨rfl, rfl⟩
          go_wp2_with fail
          refine (Contains_own o4 (b := b) (A := A) (by simp) HI.out).mono ?_
          rintro e w5 ⟨rfl, o5⟩
          rw [HN.out]
          go_wp2_with fail
          refine (At_own o5 (x := L) (by simp) (i := findI (fun y => decide (y = (k' : Int))) L) rfl).mono ?_
          rintro e w5' ⟨rfl, rfl⟩
          have hfi := findI_neg (l := L) (m := (k' : Int))
          have HO5 := Lib.hid o5
          clear o4 o5
          generalize findI (fun y => decide (y = (k' : Int))) L = fi at *
          generalize decide ((k' : Int) ∈ L) = z at *
          cases z with
          | true =>
            simp only [decide_eq_true_eq] at hfi
            go_wp2
            go_roundw
            case rel => exact ⟨k' + 1, by omega, by omega, by go_num, HO5⟩
            case measure => simp [intOf]; omega
          | false =>
            simp only [decide_eq_false_iff_not] at hfi
            go_wp2
            go_roundw
            case rel => exact ⟨k' + 1, by omega, by omega, by go_num, HO5⟩
            case measure => simp [intOf]; omega
        · go_wp2_with fail
          refine (Len_own o4 (b := b) (A := A) (by simp)).mono ?_
          rintro e w5 ⟨rfl, rfl⟩
          have HB := Lib.hid o4.low
          clear o4
          go_wp2_with fail
          refine (known_any wr).mono ?_
          rintro e w6 ⟨rfl, hB6⟩
          have HB6 := Lib.hid (HB.out.trans (hB6.mono HB.out.size))
          clear hB6
          go_wp2
          go_ret
          exact ⟨rfl, HB6.out⟩

/-- **ArenaVisits: the walk.** -/
theorem ArenaVisits_any (v : Value) (l : List OpD) (i0 : Int) (w : World) (hv : ROps w v l) :
    Calls Try.prog 11 #[v, .int .i64 i0] w fun e w' => e = .returned (.bool true) ∧ Below w.heap.size w w' := by
  by_cases hs : smallOps l 150
  · exact ArenaVisits_some v i0 l w hv hs
  · exact ArenaVisits_big v i0 l w hv hs

end Go.Proofs.Ytnfdcfagdidmhaa
