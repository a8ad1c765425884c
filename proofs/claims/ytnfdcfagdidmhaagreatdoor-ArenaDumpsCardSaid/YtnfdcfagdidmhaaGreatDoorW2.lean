/-
  Contracts of the program's arena: preorder.
-/
import Derived.Test.YtnfdcfagdidmhaaGreatDoorN1
import Derived.Test.YtnfdcfagdidmhaaGreatDoorW1
namespace Go.Proofs.YtnfdcfagdidmhaaGreatDoor
open Go.RowKit
set_option linter.unusedVariables false

theorem Below.toUpd {B : Nat} {w w' : World} (h : Below B w w') : Upd (fun k => B ≤ k) w w' := ⟨h.os, h.tape, h.output, h.size, fun k _ hf => h.block k (by omega)⟩
theorem AMem.low {B : Nat} {w w' : World} {ρ : Nat → Nat} {b : Nat} {A : Ar} (h : AMem w ρ b A) (hB : Below B w w') (hρ : ∀ k, ρ k ≠ 0 → k < B) : AMem w' ρ b A := h.upd (Below.toUpd hB) (fun k hk hf => by have := hρ k hk; omega)
theorem RInts.cells {w : World} {a : Option Addr} {n c : Nat} {l : List Int} (h : RInts w (.slice a n c) l) (hp : 0 < l.length) : ∃ b o, a = some ⟨b, o, none⟩ ∧ n = l.length ∧ ∀ j x, l[j]? = some x → w.cell? ⟨b, o + j, none⟩ = some (.int .i64 x) := by
  obtain ⟨a', c', e, h2, h3, h4⟩ := h.form
  simp at e
  obtain ⟨rfl, rfl, rfl⟩ := e
  obtain ⟨b, o, h5, h6⟩ := h4 hp
  refine ⟨b, o, h5, rfl, fun j x hx => ?_⟩
  have := h6 j (List.getElem?_eq_some_iff.1 hx).1
  rw [hx] at this
  simpa using this

theorem flat_take {α : Type} {l : List Int} {k : Nat} {x : Int} (f : Int → List α) (hx : l[k]? = some x) : (l.take (k + 1)).flatMap f = (l.take k).flatMap f ++ f x := by
  have hk := (List.getElem?_eq_some_iff.1 hx).1
  rw [List.take_succ_eq_append_getElem hk, (List.getElem?_eq_some_iff.1 hx).2]; simp
theorem flat_take_len {α : Type} (l : List Int) (k : Nat) (f : Int → List α) : ((l.take k).flatMap f).length ≤ (l.flatMap f).length := by
  have := congrArg List.length (congrArg (List.flatMap f) (List.take_append_drop k l))
  rw [List.flatMap_append, List.length_append] at this
  omega

set_option maxRecDepth 100000 in
set_option maxHeartbeats 2000000 in
theorem preorder_any (A : Ar) (ρ : Nat → Nat) (b B : Nat) (hI : A.Inv) (hρ : ∀ k, ρ k ≠ 0 → k < B) (hn : A.ns.length ≤ 100000) : ∀ h, A.has h → ∀ (v : Value) (l : List Int) (w : World), AMem w ρ b A → B ≤ w.heap.size → w.ownsRow B 3 1 v l.length (l.map intv) → l.length + (A.walk h).length ≤ 1000000 →
    Calls Tryz.prog 98 #[.pointer (some ⟨b, 0, none⟩), .int .i64 h, v] w fun e w' => Below B w w' ∧ ∃ v', e = .returned v' ∧ w'.ownsRow B 3 1 v' (l ++ A.walk h).length ((l ++ A.walk h).map intv) := by
  refine walk_ind hI (fun h hh ihc ihk v l w hA hB hO hlen => ?_)
  obtain ⟨i0, hi, hz0, hz1, hz2⟩ := info_parts infoInt
  have HI := Lib.hid hi
  have HIC := Lib.hid ihc
  have HIK := Lib.hid ihk
  have HW := Lib.hid (walk_eq hI hh)
  have HO := Lib.hid hO
  have HA := Lib.hid hA
  have HRHO := Lib.hid hρ
  have HLEN := Lib.hid hlen
  have hll : l.length ≤ 1000000 := by omega
  have hkn : (A.get h).kids.length ≤ A.ns.length := Ar.kids_len hI.wf hh
  clear hi ihc ihk hO hA hρ hlen
  go_enter Tryz.func98, Tryz.ntmps98
  go_wp2_with (at_builtin; refine wpList_append_own _ rfl _ _ 35 rfl B 3 i0 _ 1 8 Tryz.underlying35 HI.out hz0 hz1 hz2 rfl (by decide) _ _ _ rfl (HO.out.alloc _) ⟨w.heap.size, 0, none⟩ 1 1 [intv h] rfl rfl ?c1 ?c2 ?c3 ?c4 ?c5 ?_)
  case c1 => intro j u hj; rw [Addr.add_mid, Nat.zero_add]; exact cell_new' rfl (by simpa [intv] using hj)
  case c2 => intro u hu; simp at hu; subst hu; rfl
  case c3 => unfold maxLen; omega
  case c4 => omega
  case c5 => simp; omega
  intro v3 w3 hown hgrow _
  have hB3 : Below B w w3 := ((Below.refl B w).alloc hB _).grown hgrow (by simp; omega) (fun k hk => (owns_block HO.out k hk).1)
  have hO3 : w3.ownsRow B 3 1 v3 (l ++ [h]).length ((l ++ [h]).map intv) := by rw [List.map_append, List.length_append]; exact hown
  have HO3 := Lib.hid hO3
  have hA3 := HA.out.low hB3 HRHO.out
  have HA3 := Lib.hid hA3
  have hB3s : B ≤ w3.heap.size := Nat.le_trans hB hB3.size
  have HB3 := Lib.hid hB3
  clear hown hgrow hO3 hB3
  obtain ⟨a, c, mv, h0, h1, hf, hlt, hm, hN⟩ := hA3.head
  have hp := hh.1; have hq := hh.2; unfold Ar.n at hq
  obtain ⟨nb, rfl, hr, hnb, hfn, hNx⟩ := hN (by omega)
  obtain ⟨kv, av, F, hK, -⟩ := hNx h hh
  have c11 := F.c11
  have hK3 := Lib.hid hK
  have HK3 : Hid (∀ w', Below B w3 w' → RInts w' kv (A.get h).kids) := Lib.hid (fun w' hb => (hK3.out.upd (Below.toUpd hb) (fun k hk hf => by have := HRHO.out k (by omega); omega)).reads)
  have HC2 : Hid (∀ w', Below B w3 w' → w'.cell? ⟨nb, (h.toNat - 1) * 13 + 2, none⟩ = some kv) := Lib.hid (fun w' hb => (Below.toUpd hb).cell F.c2 (fun hf => by have hf' : B ≤ nb := hf; have := HRHO.out nb (by omega); omega))
  obtain ⟨ka, kc, hkv, -⟩ := (show RInts w3 kv (A.get h).kids from hK.reads).form
  subst hkv
  clear F hNx hN hK hK3 hA3 h1 hf hfn
  have hfin : ∃ (l4 : List Int), ((A.get h).contents ≠ 0 → l4 = (l ++ [h]) ++ A.walk (A.get h).contents) ∧ ((A.get h).contents = 0 → l4 = l ++ [h]) ∧ l4 ++ (A.get h).kids.flatMap A.walk = l ++ A.walk h := by
    by_cases hc : (A.get h).contents = 0
    · refine ⟨_, fun e => absurd hc e, fun _ => rfl, ?_⟩
      rw [HW.out, if_neg (by simp [hc])]; simp
    · refine ⟨_, fun _ => rfl, fun e => absurd e hc, ?_⟩
      rw [HW.out, if_pos hc]; simp
  obtain ⟨l4, hl4a, hl4b, hl4c⟩ := hfin
  have HL4 := Lib.hid hl4c
  have hl4len : l4.length + ((A.get h).kids.flatMap A.walk).length ≤ 1000000 := by
    have e := congrArg List.length hl4c
    rw [List.length_append, List.length_append] at e
    have := HLEN.out; omega
  have HL4L := Lib.hid hl4len
  have HKH : Hid (∀ k ∈ (A.get h).kids, A.has k) := Lib.hid (fun k hk => (kid_up hI hh hk).1)
  clear hl4c hl4len
  have done : ∀ (w4 : World) (v4 : Value), Below B w3 w4 → w4.ownsRow B 3 1 v4 l4.length (l4.map intv) → Hid (Below B w3 w4 ∧ w4.ownsRow B 3 1 v4 (l4 ++ ((A.get h).kids.take 0).flatMap A.walk).length ((l4 ++ ((A.get h).kids.take 0).flatMap A.walk).map intv)) :=
    fun w4 v4 h1 h2 => Lib.hid ⟨h1, by simpa using h2⟩
  by_cases hc : (A.get h).contents = 0
  · have hce : ((A.get h).contents != 0) = false := by simp [hc]
    have hX := done w3 v3 (Below.refl _ _) (by rw [hl4b hc]; exact HO3.out)
    clear hl4a hl4b hc done
    have k2 := HC2.out w3 (Below.refl _ _)
    go_wp2_with (go_at_call 42; refine (at_any b nb _ c h _ h0 hp hq hm).mono ?_; rintro e w' ⟨rfl, rfl⟩)
    go_loopw [2, 37] (fun out i wr => ∃ k : Nat, k ≤ (A.get h).kids.length ∧ i = .int .i64 k ∧ Hid (Below B w3 wr ∧ wr.ownsRow B 3 1 out (l4 ++ ((A.get h).kids.take k).flatMap A.walk).length ((l4 ++ ((A.get h).kids.take k).flatMap A.walk).map intv))) (fun _ i _ => (A.get h).kids.length - (intOf i).toNat)
    case atStart => exact ⟨0, Nat.zero_le _, rfl, hX⟩
    case round =>
      obtain ⟨k, hk, rfl, hT⟩ := hrel
      by_cases hlt : k < (A.get h).kids.length
      · obtain ⟨b1, o1, rfl, -, hcs⟩ := (HK3.out wr hT.out.1).cells (by omega)
        obtain ⟨x, hx⟩ : ∃ x, (A.get h).kids[k]? = some x := ⟨_, List.getElem?_eq_getElem hlt⟩
        have d1 := hcs k x hx
        have hst := flat_take A.walk hx
        have hxm := List.mem_of_getElem? hx
        have hl2 := flat_take_len (A.get h).kids (k + 1) A.walk
        rw [hst, List.length_append] at hl2
        have HC := Lib.hid (HIK.out x hxm _ _ wr (HA3.out.low hT.out.1 HRHO.out) (Nat.le_trans hB3s hT.out.1.size) hT.out.2 (by have := HL4L.out; rw [List.length_append]; omega))
        have HST := Lib.hid hst
        have HBT := Lib.hid hT.out.1
        clear hcs hx hst hxm hl2 hT
        go_wp2_with fail
        refine HC.out.mono ?_
        rintro e w5 ⟨hB5, v5, rfl, hO5⟩
        have HX : Hid (Below B w3 w5 ∧ w5.ownsRow B 3 1 v5 (l4 ++ ((A.get h).kids.take (k + 1)).flatMap A.walk).length ((l4 ++ ((A.get h).kids.take (k + 1)).flatMap A.walk).map intv)) := Lib.hid ⟨HBT.out.trans hB5, by rw [HST.out, ← List.append_assoc]; exact hO5⟩
        clear hB5 hO5 HC
        go_wp2
        go_roundw
        case rel => exact ⟨k + 1, hlt, by go_num, HX⟩
        case measure => simp [intOf]; omega
      · have hkl : (A.get h).kids.take k = (A.get h).kids := List.take_of_length_le (by omega)
        have hO := hT.out.2
        rw [hkl, HL4.out] at hO
        have HX := Lib.hid (And.intro (HB3.out.trans hT.out.1) hO)
        clear hO hT hkl
        go_wp2
        go_ret
        exact ⟨HX.out.1, _, rfl, HX.out.2⟩
  · have hce : ((A.get h).contents != 0) = true := by simp [hc]
    have hch := (contents_up hI hh hc).1
    have hcl : (l ++ [h]).length + (A.walk (A.get h).contents).length ≤ 1000000 := by
      have e := congrArg List.length (hl4a hc)
      rw [List.length_append] at e
      have := HL4L.out; omega
    have HC := Lib.hid (HIC.out hc v3 (l ++ [h]) w3 HA3.out hB3s HO3.out hcl)
    have HL4A := Lib.hid (hl4a hc)
    have HDONE := Lib.hid done
    clear hl4a hl4b hc hch hcl done
    go_wp2_with (go_at_call 42; refine (at_any b nb _ c h _ h0 hp hq hm).mono ?_; rintro e w' ⟨rfl, rfl⟩)
    refine HC.out.mono ?_
    rintro e w4 ⟨hB4, v4, rfl, hO4⟩
    have hX := HDONE.out w4 v4 hB4 (by rw [HL4A.out]; exact hO4)
    have k2 := HC2.out w4 hB4
    clear hB4 hO4 HC HDONE
    go_wp2
    go_loopw [2, 37] (fun out i wr => ∃ k : Nat, k ≤ (A.get h).kids.length ∧ i = .int .i64 k ∧ Hid (Below B w3 wr ∧ wr.ownsRow B 3 1 out (l4 ++ ((A.get h).kids.take k).flatMap A.walk).length ((l4 ++ ((A.get h).kids.take k).flatMap A.walk).map intv))) (fun _ i _ => (A.get h).kids.length - (intOf i).toNat)
    case atStart => exact ⟨0, Nat.zero_le _, rfl, hX⟩
    case round =>
      obtain ⟨k, hk, rfl, hT⟩ := hrel
      by_cases hlt : k < (A.get h).kids.length
      · obtain ⟨b1, o1, rfl, -, hcs⟩ := (HK3.out wr hT.out.1).cells (by omega)
        obtain ⟨x, hx⟩ : ∃ x, (A.get h).kids[k]? = some x := ⟨_, List.getElem?_eq_getElem hlt⟩
        have d1 := hcs k x hx
        have hst := flat_take A.walk hx
        have hxm := List.mem_of_getElem? hx
        have hl2 := flat_take_len (A.get h).kids (k + 1) A.walk
        rw [hst, List.length_append] at hl2
        have HC := Lib.hid (HIK.out x hxm _ _ wr (HA3.out.low hT.out.1 HRHO.out) (Nat.le_trans hB3s hT.out.1.size) hT.out.2 (by have := HL4L.out; rw [List.length_append]; omega))
        have HST := Lib.hid hst
        have HBT := Lib.hid hT.out.1
        clear hcs hx hst hxm hl2 hT
        go_wp2_with fail
        refine HC.out.mono ?_
        rintro e w5 ⟨hB5, v5, rfl, hO5⟩
        have HX : Hid (Below B w3 w5 ∧ w5.ownsRow B 3 1 v5 (l4 ++ ((A.get h).kids.take (k + 1)).flatMap A.walk).length ((l4 ++ ((A.get h).kids.take (k + 1)).flatMap A.walk).map intv)) := Lib.hid ⟨HBT.out.trans hB5, by rw [HST.out, ← List.append_assoc]; exact hO5⟩
        clear hB5 hO5 HC
        go_wp2
        go_roundw
        case rel => exact ⟨k + 1, hlt, by go_num, HX⟩
        case measure => simp [intOf]; omega
      · have hkl : (A.get h).kids.take k = (A.get h).kids := List.take_of_length_le (by omega)
        have hO := hT.out.2
        rw [hkl, HL4.out] at hO
        have HX := Lib.hid (And.intro (HB3.out.trans hT.out.1) hO)
        clear hO hT hkl
        go_wp2
        go_ret
        exact ⟨HX.out.1, _, rfl, HX.out.2⟩

end Go.Proofs.YtnfdcfagdidmhaaGreatDoor
