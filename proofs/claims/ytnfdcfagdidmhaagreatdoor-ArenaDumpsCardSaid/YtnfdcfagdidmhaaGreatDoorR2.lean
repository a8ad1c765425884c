/-
  Contracts of the document's arena: New, Has, Len, OfDoc, InSpaces, AttrSpaces, IsTemplate.
-/
import Derived.Test.YtnfdcfagdidmhaaGreatDoorRP
import Derived.Test.YtnfdcfagdidmhaaGreatDoorT3
namespace Go.Proofs.YtnfdcfagdidmhaaGreatDoor
open Go.RowKit
set_option linter.unusedVariables false

theorem RHas_any (A : Ar) (b : Nat) (a : Option Addr) (c : Nat) (h : Int) (w : World) (h0 : w.cell? ⟨b, 0, none⟩ = some (.slice a (A.ns.length + 1) c)) (hm : (A.ns.length : Int) + 1 ≤ 9223372036854775807) :
    Calls Tryz.prog 40 #[.pointer (some ⟨b, 0, none⟩), .int .i64 h] w fun e w' => e = .returned (.bool (decide (A.has h))) ∧ w = w' := by
  by_cases h1 : 0 < h
  · go_enter Tryz.func40, Tryz.ntmps40
    go_wp2
    go_ret
    exact ⟨ret_bool (decide_eq_decide.2 ⟨fun q => ⟨by omega, by unfold Ar.n; omega⟩, fun q => by have := q.2; unfold Ar.n at this; omega⟩), rfl⟩
  · go_enter Tryz.func40, Tryz.ntmps40
    go_wp2
    go_ret
    exact ⟨ret_bool (decide_eq_false (fun hc => by have := hc.1; omega)).symm, rfl⟩

theorem ROfDoc_any (A : Ar) (ρ : Nat → Nat) (b : Nat) (d : Int) (w : World) (hA : RMem w ρ b A) :
    Calls Tryz.prog 75 #[.pointer (some ⟨b, 0, none⟩), .int .i64 d] w fun e w' => e = .returned (.int .i64 (A.ofDoc d)) ∧ w = w' := by
  obtain ⟨nb, c, ib, ic, h0, h1, hf, hlt, hm, hc, -, -, -, -, -, -, -, -, -, hN⟩ := hA.head
  have HH := Lib.hid (fun W h0' => RHas_any A b (some ⟨nb, 0, none⟩) c d W h0' hm)
  by_cases hh : A.has d
  · obtain ⟨kv, av, F, -, -⟩ := hN d hh
    have c0 := F.c0
    have hp := hh.1; have hq := hh.2; unfold Ar.n at hq
    have hd : decide (A.has d) = true := by simp [hh]
    have hdn : d.toNat * 13 = d.toNat * 13 := rfl
    by_cases hk : (A.get d).kind = 1
    · have hk1 : ((A.get d).kind != 1) = false := by simp [hk]
      have Hfin := Lib.hid (show A.ofDoc d = 0 by simp [Ar.ofDoc, hh, hk])
      clear hk F hN hh
      go_enter Tryz.func75, Tryz.ntmps75
      go_wp2_with fail
      refine (HH.out _ h0).mono ?_
      rintro e w' ⟨rfl, rfl⟩
      rw [hd]
      go_wp2
      go_ret
      exact ⟨ret_int Hfin.out.symm, rfl⟩
    · have hk1 : ((A.get d).kind != 1) = true := by simp [hk]
      have Hfin := Lib.hid (show A.ofDoc d = 9 by simp [Ar.ofDoc, hh, hk])
      clear hk F hN hh
      go_enter Tryz.func75, Tryz.ntmps75
      go_wp2_with fail
      refine (HH.out _ h0).mono ?_
      rintro e w' ⟨rfl, rfl⟩
      rw [hd]
      go_wp2
      go_ret
      exact ⟨ret_int Hfin.out.symm, rfl⟩
  · have hd : decide (A.has d) = false := by simp [hh]
    have Hfin := Lib.hid (show A.ofDoc d = 3 by simp [Ar.ofDoc, hh])
    clear hN hh
    go_enter Tryz.func75, Tryz.ntmps75
    go_wp2_with fail
    refine (HH.out _ h0).mono ?_
    rintro e w' ⟨rfl, rfl⟩
    rw [hd]
    go_wp2
    go_ret
    exact ⟨ret_int Hfin.out.symm, rfl⟩

theorem InSpaces_any (s : Int) (w : World) :
    Calls Tryz.prog 103 #[.int .i64 s] w fun e w' => e = .returned (.bool (decide (inSpaces s))) ∧ w = w' := by
  by_cases h0 : 0 ≤ s
  · go_enter Tryz.func103, Tryz.ntmps103
    go_wp2
    go_ret
    exact ⟨ret_bool (by rw [Bool.eq_iff_iff]; simp [inSpaces, h0]), rfl⟩
  · go_enter Tryz.func103, Tryz.ntmps103
    go_wp2
    go_ret
    exact ⟨ret_bool (decide_eq_false (fun h => by have := h.1; omega)).symm, rfl⟩

theorem AttrSpaces_any (v : Value) (l : List AttrD) (w : World) (hv : RAttrs w v l) :
    Calls Tryz.prog 104 #[v] w fun e w' => e = .returned (.bool (decide (attrSpaces l))) ∧ w = w' := by
  have HV := Lib.hid hv
  obtain ⟨a, c, rfl, hc1, hc2, -⟩ := hv.form
  clear hv
  go_enter Tryz.func104, Tryz.ntmps104
  go_wp2
  go_loop [3] (fun i => ∃ k : Nat, k ≤ l.length ∧ i = .int .i64 k ∧ Hid (∀ j x, j < k → l[j]? = some x → inSpaces x.1)) (fun i => l.length - (intOf i).toNat)
  case atStart => exact ⟨0, Nat.zero_le _, rfl, fun j x hj => by omega⟩
  case round =>
    obtain ⟨k, hk, rfl, hT⟩ := hrel
    by_cases hlt : k < l.length
    · obtain ⟨b1, o1, rfl, -, hcs⟩ := HV.out.cells (by omega)
      obtain ⟨x, hx⟩ : ∃ x, l[k]? = some x := ⟨_, List.getElem?_eq_getElem hlt⟩
      obtain ⟨d0, -, -⟩ := hcs k x hx
      have HX := Lib.hid hx
      clear hcs hx
      go_wp2_with fail
      refine (InSpaces_any x.1 _).mono ?_
      rintro e w' ⟨rfl, rfl⟩
      by_cases hs : inSpaces x.1
      · have hd : decide (inSpaces x.1) = true := decide_eq_true hs
        rw [hd]
        have HSS := Lib.hid hs
        clear hs hd
        go_wp2
        go_round
        case rel => exact ⟨k + 1, hlt, by go_num, fun j y hj hy => by
          by_cases hjk : j < k
          · exact hT.out j y hjk hy
          · have : j = k := by omega
            rw [this, HX.out] at hy
            simp at hy; rw [← hy]; exact HSS.out⟩
        case measure => simp [intOf]; omega
      · have hd : decide (inSpaces x.1) = false := decide_eq_false hs
        rw [hd]
        have HSS := Lib.hid hs
        clear hs hd
        go_wp2
        go_ret
        exact ⟨ret_bool (decide_eq_false (fun h => HSS.out (h x (List.mem_of_getElem? HX.out)))).symm, rfl⟩
    · go_wp2
      go_ret
      exact ⟨ret_bool (decide_eq_true (fun x hx => by
        obtain ⟨j, hj, rfl⟩ := List.getElem_of_mem hx
        exact hT.out j _ (by omega) (List.getElem?_eq_getElem hj))).symm, rfl⟩

theorem IsTemplate_any (n : Nd) (kv av : Value) (w : World) :
    Calls Tryz.prog 106 #[.agg (n.cells kv av).toArray] w fun e w' => e = .returned (.bool (decide (isTemplate n))) ∧ Below w.heap.size w w' := by
  have F := boxF w n kv av 56
  obtain ⟨x0, x1, x2, x3, x4, x5, x6, x7, x8, x9, x10, x11, x12⟩ := n
  unfold Nd.cells at F ⊢
  dsimp only at F ⊢
  clear F
  go_enter Tryz.func106, Tryz.ntmps106
  go_wp2
  all_goals
    go_ret
    refine ⟨ret_bool ?_, below_alloc _ _⟩
  all_goals first
    | (refine (decide_eq_false (fun h => ?_)).symm; obtain ⟨q0, q1, q2⟩ := h; dsimp only at q0 q1 q2; simp_all; done)
    | (rw [Bool.eq_iff_iff]; simp_all [isTemplate, templateL]; done)

end Go.Proofs.YtnfdcfagdidmhaaGreatDoor
