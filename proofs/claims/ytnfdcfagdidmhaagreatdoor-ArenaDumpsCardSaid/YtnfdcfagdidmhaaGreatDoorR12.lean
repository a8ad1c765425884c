/-
  Contracts of the document's arena: Element.
-/
import Derived.Test.YtnfdcfagdidmhaaGreatDoorR11
namespace Go.Proofs.YtnfdcfagdidmhaaGreatDoor
open Go.RowKit
set_option linter.unusedVariables false

theorem Ar.ext_inertOf2 (A : Ar) (d : Int) : A.Ext (A.inertOf d).2 := ⟨(Ar.inertOf_len A d).1, fun x hx => by rw [(Ar.inertOf_get hx).1]⟩

/-- A new row of attributes gets a role. -/
theorem RMem.takeAttrs {w w2 : World} {ρ : Nat → Nat} {b : Nat} {A : Ar} {v : Value} {l : List AttrD} (r : Nat) (hA : RMem w ρ b A) (hB : Below w.heap.size w w2) (ho : w2.ownsRow w.heap.size 123 3 v l.length (l.flatMap attrCells)) :
    ∃ ρ', RMem w2 ρ' b A ∧ ROwn w2 ρ' r 123 3 v l.length (l.flatMap attrCells) ∧ Turn ρ ρ' w w2 := by
  cases hv : v.ownBlock with
  | none => exact ⟨ρ, hA.below hB, ⟨owns_base ho (Nat.zero_le _), fun g hg => by rw [hv] at hg; simp at hg⟩, Turn.below hB⟩
  | some g =>
    obtain ⟨h1, h2⟩ := owns_block ho g hv
    have h0 : ρ g = 0 := Classical.not_not.1 (fun h => by have := hA.1 g h; omega)
    refine ⟨_, (hA.below hB).newRole g r h0 h2, ⟨owns_base ho (Nat.zero_le _), fun g' hg' => ?_⟩, ⟨Upd.below hB, fun k hk => ?_⟩⟩
    · rw [hv] at hg'; simp at hg'; simp [hg']
    · rw [if_neg (by omega)]

theorem RAddR.after {A' : Ar} {ρ ρ1 : Nat → Nat} {b : Nat} {w W : World} {v : Value} {e : Ending} {w' : World} (h : RAddR A' ρ1 b W v e w') (hT : Turn ρ ρ1 w W) : RAddR A' ρ b w v e w' := by
  obtain ⟨rfl, ρ', h1, h2⟩ := h
  exact ⟨rfl, ρ', h1, hT.trans h2⟩

set_option maxRecDepth 100000 in
set_option maxHeartbeats 2000000 in
theorem RElement_err (A : Ar) (ρ : Nat → Nat) (b : Nat) (d s : Int) (name : ByteArray) (v : Value) (l : List AttrD) (w : World) (hA : RMem w ρ b A) (hv : RAttrs w v l) (he : ¬ (A.ofDoc d = 0 ∧ inSpaces s ∧ attrSpaces l)) :
    Calls Tryz.prog 74 #[.pointer (some ⟨b, 0, none⟩), .int .i64 d, .int .i64 s, .string name, v] w (RAddR (A.element d s name l).2 ρ b w (pairV (A.element d s name l).1)) := by
  have HO := Lib.hid (ROfDoc_any A ρ b d w hA)
  have HI := Lib.hid (InSpaces_any s w)
  have HS := Lib.hid (AttrSpaces_any v l w hv)
  have HA := Lib.hid hA
  obtain ⟨va, vc, rfl, -⟩ := hv.form
  clear hv hA
  by_cases hd : A.ofDoc d = 0
  · have hsp : ¬ (inSpaces s ∧ attrSpaces l) := fun h => he ⟨hd, h⟩
    rw [elem_false hd hsp]
    have HD := Lib.hid hd
    by_cases hi : inSpaces s
    · have hi1 : decide (inSpaces s) = true := decide_eq_true hi
      have hs1 : decide (attrSpaces l) = false := decide_eq_false (fun h => hsp ⟨hi, h⟩)
      clear hd hi hsp he
      go_enter Tryz.func74, Tryz.ntmps74
      go_wp2_with fail
      refine HO.out.mono ?_
      rintro e w1 ⟨rfl, rfl⟩
      rw [HD.out]
      go_wp2_with fail
      refine HI.out.mono ?_
      rintro e w1 ⟨rfl, rfl⟩
      rw [hi1]
      go_wp2_with fail
      refine HS.out.mono ?_
      rintro e w1 ⟨rfl, rfl⟩
      rw [hs1]
      go_wp2
      go_ret2
      exact ⟨rfl, ρ, HA.out, Turn.refl _ _⟩
    · have hi1 : decide (inSpaces s) = false := decide_eq_false hi
      clear hd hi hsp he
      go_enter Tryz.func74, Tryz.ntmps74
      go_wp2_with fail
      refine HO.out.mono ?_
      rintro e w1 ⟨rfl, rfl⟩
      rw [HD.out]
      go_wp2_with fail
      refine HI.out.mono ?_
      rintro e w1 ⟨rfl, rfl⟩
      rw [hi1]
      go_wp2
      go_ret2
      exact ⟨rfl, ρ, HA.out, Turn.refl _ _⟩
  · have e : A.element d s name l = ((0, A.ofDoc d), A) := by unfold Ar.element; rw [if_pos hd]
    rw [e]
    have hd1 : (A.ofDoc d != 0) = true := by simpa using hd
    clear e hd he
    generalize A.ofDoc d = ee at *
    go_enter Tryz.func74, Tryz.ntmps74
    go_wp2_with fail
    refine HO.out.mono ?_
    rintro e w1 ⟨rfl, rfl⟩
    go_wp2
    go_ret2
    exact ⟨rfl, ρ, HA.out, Turn.refl _ _⟩

set_option maxRecDepth 100000 in
set_option maxHeartbeats 4000000 in
theorem RElement_ok (A : Ar) (ρ : Nat → Nat) (b : Nat) (d s : Int) (name : ByteArray) (v : Value) (l : List AttrD) (w : World) (hA : RMem w ρ b A) (hv : RAttrs w v l) (hsm : A.ns.length + 3 ≤ 1000000) (hl : l.length ≤ 1000000) (he : A.ofDoc d = 0) (hs : inSpaces s ∧ attrSpaces l) :
    Calls Tryz.prog 74 #[.pointer (some ⟨b, 0, none⟩), .int .i64 d, .int .i64 s, .string name, v] w (RAddR (A.element d s name l).2 ρ b w (pairV (A.element d s name l).1)) := by
  have HO := Lib.hid (ROfDoc_any A ρ b d w hA)
  have HI := Lib.hid (InSpaces_any s w)
  have HS := Lib.hid (AttrSpaces_any v l w hv)
  have HON := Lib.hid (ROnce_any v l w hv hl)
  have HA := Lib.hid hA
  have HE := Lib.hid he
  have hi1 : decide (inSpaces s) = true := decide_eq_true hs.1
  have hs1 : decide (attrSpaces l) = true := decide_eq_true hs.2
  have hdh : A.has d := ofDoc_has he
  have HDH := Lib.hid hdh
  obtain ⟨va, vc, rfl, -⟩ := hv.form
  have hfin : ∃ nd, nd = elemNd d s name l ∧ (¬ isTemplate nd → A.element d s name l = ((A.n + 1, 0), A.add nd)) ∧ (isTemplate nd → A.element d s name l = ((A.n + 1, 0), ((((A.add nd).inertOf d).2.add (contNd (A.n + 1) ((A.add nd).inertOf d).1)).mod (A.n + 1) (fun x => { x with contents := ((A.add nd).inertOf d).2.n + 1 })))) :=
    ⟨_, rfl, fun ht => elem_plain he hs ht, fun ht => elem_templ he hs ht⟩
  obtain ⟨nd, hnd, hf1, hf2⟩ := hfin
  have hfst : (A.element d s name l).1 = (A.n + 1, 0) := by
    by_cases ht : isTemplate nd
    · rw [hf2 ht]
    · rw [hf1 ht]
  rw [hfst]
  have HF := Lib.hid (And.intro hf1 hf2)
  clear hv hA he hs hdh hf1 hf2 hfst
  generalize (A.element d s name l) = R at *
  have HND := Lib.hid hnd
  clear hnd
  go_enter Tryz.func74, Tryz.ntmps74
  go_wp2_with fail
  refine HO.out.mono ?_
  rintro e w1 ⟨rfl, rfl⟩
  rw [HE.out]
  go_wp2_with fail
  refine HI.out.mono ?_
  rintro e w1 ⟨rfl, rfl⟩
  rw [hi1]
  go_wp2_with fail
  refine HS.out.mono ?_
  rintro e w1 ⟨rfl, rfl⟩
  rw [hs1]
  go_wp2_with fail
  refine HON.out.mono ?_
  rintro e w1 ⟨hB1, v1, rfl, ho1⟩
  obtain ⟨ρ1, hA1, hro, hT1⟩ := HA.out.takeAttrs (2 * (A.ns.length + 1) + 5) hB1 ho1
  obtain ⟨oa, oc, rfl⟩ := ownsForm ho1
  have HAD := Lib.hid (radd_any A ρ1 b (elemNd d s name l) oa oc w1 hA1 (by omega) rfl hro)
  have HT1 := Lib.hid hT1
  clear hA1 hro hT1 ho1 hB1 HO HI HS HON HA
  go_wp2_with fail
  refine HAD.out.mono ?_
  rintro e w2 ⟨rfl, ρ2, hA2, hT2⟩
  rw [← HND.out] at hA2
  obtain ⟨nb, c, h0, hm, hc, hfn, hnb, -, hN⟩ := hA2.look
  have hlen : (A.add nd).ns.length = A.ns.length + 1 := by simp [Ar.add]
  rw [hlen] at h0 hm hc
  obtain ⟨hp, hq, kv, av, F, -, -⟩ := hN _ (newNd_bound nd)
  rw [hlen] at hq
  rw [add_get] at F
  have c0 := F.c0; have c1 := F.c1; have c2 := F.c2; have c3 := F.c3; have c4 := F.c4; have c5 := F.c5; have c6 := F.c6
  have c7 := F.c7; have c8 := F.c8; have c9 := F.c9; have c10 := F.c10; have c11 := F.c11; have c12 := F.c12
  have HIT := Lib.hid (IsTemplate_any nd kv av w2)
  have HT2 := Lib.hid (HT1.out.trans hT2)
  have HA2 := Lib.hid hA2
  clear hA2 hT2 hN F hfn HAD
  unfold Nd.cells at HIT
  go_wp2_with fail
  refine HIT.out.mono ?_
  rintro e w3 ⟨rfl, hB3⟩
  clear HIT c0 c1 c2 c3 c4 c5 c6 c7 c8 c9 c10 c11 c12 h0 hm hc
  have hA3 := HA2.out.below hB3
  have HT3 := Lib.hid (HT2.out.trans (Turn.below hB3))
  by_cases ht : isTemplate nd
  · have ht1 : decide (isTemplate nd) = true := decide_eq_true ht
    rw [ht1]
    have HR := Lib.hid (HF.out.2 ht)
    have HIN := Lib.hid (RInertOf_any (A.add nd) ρ2 b d w3 hA3 (by rw [hlen]; omega) ((Ar.add_has _ _ _).2 (.inl HDH.out)))
    have hil := Ar.inertOf_len (A.add nd) d
    have hext := Ar.ext_inertOf2 (A.add nd) d
    rw [hlen] at hil
    have hxh := hext.has (newNd_bound nd)
    generalize (A.add nd).inertOf d = I at *
    obtain ⟨i, A4⟩ := I
    dsimp only at hil hext hxh HIN HR
    have HX := Lib.hid hxh
    clear hxh hext hA3 ht ht1 hB3
    go_wp2_with fail
    refine HIN.out.mono ?_
    rintro e w4 ⟨rfl, ρ4, hA4, hT4⟩
    have HAD2 := Lib.hid (radd_any A4 ρ4 b (contNd (A.n + 1) i) none 0 w4 hA4 (by omega) rfl (rhav_nil _ _ _))
    have HT4 := Lib.hid (HT3.out.trans hT4)
    clear hA4 hT4 HIN
    go_wp2_with fail
    refine HAD2.out.mono ?_
    rintro e w5 ⟨rfl, ρ5, hA5, hT5⟩
    obtain ⟨nb5, c5, g0, gm, gc, gfn, -, -, gN⟩ := hA5.look
    have hl5 : (A4.add (contNd (A.n + 1) i)).ns.length = A4.ns.length + 1 := by simp [Ar.add]
    have hx5 : (A4.add (contNd (A.n + 1) i)).has (A.n + 1) := (Ar.add_has _ _ _).2 (.inl HX.out)
    obtain ⟨xp, xq, kv5, av5, F5, -, -⟩ := gN _ hx5
    have e11 := F5.c11
    have f11 := gfn ((A.n + 1).toNat * 13 + 11)
    have hst := hA5.field (x := A.n + 1) (f := fun x => { x with contents := A4.n + 1 }) (j := 11) (v := .int .i64 (A4.n + 1)) hx5 g0 (by omega) (fun _ _ => rfl) rfl rfl
    rw [hl5] at g0 gm gc xq
    have HST := Lib.hid (And.intro hst.1 ((HT4.out.trans hT5).trans hst.2))
    clear hst hA5 hT5 gN gfn F5 hx5 hl5 HAD2
    have HL := Lib.hid hlen
    clear hlen
    go_wp2
    go_ret2
    rw [HR.out]
    exact ⟨rfl, ρ5, HST.out.1, HST.out.2⟩
  · have ht1 : decide (isTemplate nd) = false := decide_eq_false ht
    rw [ht1]
    have HR := Lib.hid (HF.out.1 ht)
    have HA3 := Lib.hid hA3
    have HL := Lib.hid hlen
    clear hA3 ht hB3 hlen
    go_wp2
    go_ret2
    rw [HR.out]
    exact ⟨rfl, ρ2, HA3.out, HT3.out⟩

theorem RElement_any (A : Ar) (ρ : Nat → Nat) (b : Nat) (d s : Int) (name : ByteArray) (v : Value) (l : List AttrD) (w : World) (hA : RMem w ρ b A) (hv : RAttrs w v l) (hsm : A.ns.length + 3 ≤ 1000000) (hl : l.length ≤ 1000000) :
    Calls Tryz.prog 74 #[.pointer (some ⟨b, 0, none⟩), .int .i64 d, .int .i64 s, .string name, v] w (RAddR (A.element d s name l).2 ρ b w (pairV (A.element d s name l).1)) := by
  by_cases he : A.ofDoc d = 0 ∧ inSpaces s ∧ attrSpaces l
  · exact RElement_ok A ρ b d s name v l w hA hv hsm hl he.1 he.2
  · exact RElement_err A ρ b d s name v l w hA hv he

end Go.Proofs.YtnfdcfagdidmhaaGreatDoor
