/-
  Parts: R7, R8, R9, R10, R11, R12, R13, PL1.
-/
import Derived.Test.YtpicinjcmjaogaaGreatN39

/- Contracts of the document's arena: Once. -/
namespace Go.Proofs.YtpicinjcmjaogaaGreat
open Go.RowKit
set_option linter.unusedVariables false

theorem any_take {O : List AttrD} {j : Nat} {o : AttrD} (p : AttrD → Bool) (ho : O[j]? = some o) : (O.take (j + 1)).any p = ((O.take j).any p || p o) := by
  have hk := (List.getElem?_eq_some_iff.1 ho).1
  rw [List.take_succ_eq_append_getElem hk, (List.getElem?_eq_some_iff.1 ho).2]; simp

set_option maxRecDepth 100000 in
set_option maxHeartbeats 2000000 in
theorem ROnce_any (v : Value) (l : List AttrD) (w : World) (hv : RAttrs w v l) (hsmall : l.length ≤ 1000000) :
    Calls Tryz.prog 105 #[v] w fun e w' => Below w.heap.size w w' ∧ ∃ v', e = .returned v' ∧ w'.ownsRow w.heap.size 132 3 v' (onceL l).length ((onceL l).flatMap attrCells) := by
  obtain ⟨i0, hi, hz0, hz1, hz2⟩ := info_parts infoAttr
  have HI := Lib.hid hi
  have HV := Lib.hid hv
  obtain ⟨av, cv, rfl, hc1, hc2, -⟩ := hv.form
  clear hi hv
  go_enter Tryz.func105, Tryz.ntmps105
  go_wp2
  go_loopw [3, 4] (fun out i wr => ∃ k : Nat, k ≤ l.length ∧ i = .int .i64 k ∧ Hid (wr.ownsRow w.heap.size 132 3 out (onceL (l.take k)).length ((onceL (l.take k)).flatMap attrCells)) ∧ Below w.heap.size w wr) (fun _ i _ => l.length - (intOf i).toNat)
  case atStart => exact ⟨0, Nat.zero_le _, rfl, World.ownsRow_nil _ _ _ _, Below.refl _ _⟩
  case round =>
    obtain ⟨k, hk, rfl, hO, hB⟩ := hrel
    by_cases hlt : k < l.length
    · obtain ⟨y, hy⟩ : ∃ y, l[k]? = some y := ⟨_, List.getElem?_eq_getElem hlt⟩
      have hst := onceL_take hy
      have hcl : (onceL (l.take k)).length ≤ 1000000 := by
        have := onceL_length_le (l.take k) []
        simp only [List.length_nil, Nat.zero_add, List.length_take] at this
        change (List.foldl onceStep [] _).length ≤ _; omega
      have HY := Lib.hid hy
      have HST := Lib.hid hst
      have HB := Lib.hid hB
      have HO := Lib.hid hO.out
      have hform := ownsForm hO.out
      generalize hOO : onceL (l.take k) = O at *
      obtain ⟨oa, oc, rfl⟩ := hform
      clear hOO hst hy hO hB
      go_wp2
      go_loopw [5, 6] (fun sn j wr2 => ∃ (jj : Nat) (bb : Bool), jj ≤ O.length ∧ j = .int .i64 jj ∧ sn = .bool bb ∧ Hid (bb = (O.take jj).any (sameName y) ∧ Below wr.heap.size wr wr2)) (fun _ j _ => O.length - (intOf j).toNat)
      case atStart => exact ⟨0, false, Nat.zero_le _, rfl, rfl, by simp, Below.refl _ _⟩
      case round =>
        obtain ⟨jj, bb, hj, rfl, rfl, hT⟩ := hrel
        by_cases hlt2 : jj < O.length
        · obtain ⟨o, ho⟩ : ∃ o, O[jj]? = some o := ⟨_, List.getElem?_eq_getElem hlt2⟩
          have hat := any_take (sameName y) ho
          obtain ⟨b1, o1, rfl, -, hcs1⟩ := (ROwn_attr_reads (owns_below HO.out hT.out.2)).cells (by omega)
          obtain ⟨b2, o2, rfl, -, hcs2⟩ := ((HV.out.below HB.out).below hT.out.2).cells (by omega)
          obtain ⟨d0, d1, -⟩ := hcs1 jj o ho
          obtain ⟨e0, e1, -⟩ := hcs2 k y HY.out
          have HAT := Lib.hid hat
          have HT := hT
          clear hcs1 hcs2 ho hat hT
          obtain ⟨os, on, ov⟩ := o
          obtain ⟨ys, yn, yv⟩ := y
          dsimp only at d0 d1 e0 e1
          by_cases t1 : os = ys
          · have u1 : (os == ys) = true := by simp [t1]
            by_cases t2 : on = yn
            · have u2 : (on.toList == yn.toList) = true := by simp [t2]
              have HX : Hid (true = (O.take (jj + 1)).any (sameName (ys, yn, yv))) := Lib.hid (by rw [HAT.out]; simp [sameName, t1, t2])
              clear t1 t2
              go_wp2_with (go_quiet (fail))
              go_wp2
              go_roundw
              case rel => exact ⟨jj + 1, true, hlt2, by go_num, rfl, HX.out, Below.drewN HT.out.2 _⟩
              case measure => simp [intOf]; omega
            · have u2 : (on.toList == yn.toList) = false := by rw [str_beq]; simp [t2]
              have HX : Hid (bb = (O.take (jj + 1)).any (sameName (ys, yn, yv))) := Lib.hid (by rw [HAT.out, HT.out.1]; simp [sameName]; intro _ e; exact absurd e.symm t2)
              clear t1 t2
              go_wp2_with (go_quiet (fail))
              go_wp2
              go_roundw
              case rel => exact ⟨jj + 1, bb, hlt2, by go_num, rfl, HX.out, Below.drewN HT.out.2 _⟩
              case measure => simp [intOf]; omega
          · have u1 : (os == ys) = false := by simp [t1]
            have HX : Hid (bb = (O.take (jj + 1)).any (sameName (ys, yn, yv))) := Lib.hid (by rw [HAT.out, HT.out.1]; simp [sameName]; intro e; exact absurd e.symm t1)
            clear t1
            go_wp2_with (go_quiet (fail))
            go_wp2
            go_roundw
            case rel => exact ⟨jj + 1, bb, hlt2, by go_num, rfl, HX.out, Below.drewN HT.out.2 _⟩
            case measure => simp [intOf]; omega
        · have hjl : O.take jj = O := List.take_of_length_le (by omega)
          have hbb := hT.out.1
          rw [hjl] at hbb
          have hBw : Below w.heap.size w wr := HB.out.trans (hT.out.2.mono HB.out.size)
          have HO2 := Lib.hid (owns_below HO.out hT.out.2)
          have hwi : w.heap.size ≤ wr.heap.size := hBw.size
          have HBW := Lib.hid hBw
          have hBa := hT.out.2
          clear hjl hT
          cases bb with
          | true =>
            have HX : Hid (onceL (l.take (k + 1)) = O) := Lib.hid (by rw [HST.out]; unfold onceStep; rw [if_pos hbb.symm])
            clear hbb hBw
            go_wp2
            go_roundw
            case rel => exact ⟨k + 1, hlt, by go_num, by rw [HX.out]; exact HO2, HBW.out⟩
            case measure => simp [intOf]; omega
          | false =>
            have HX : Hid (onceL (l.take (k + 1)) = O ++ [y]) := Lib.hid (by rw [HST.out]; unfold onceStep; rw [if_neg (by rw [← hbb]; simp)])
            obtain ⟨b2, o2, rfl, -, hcs2⟩ := ((HV.out.below HB.out).below hBa).cells (by omega)
            obtain ⟨e0, e1, e2⟩ := hcs2 k y HY.out
            clear hbb hBw hcs2 hBa
            obtain ⟨ys, yn, yv⟩ := y
            dsimp only at e0 e1 e2
            go_wp2_with (at_builtin; refine wpList_append_own _ rfl _ _ 44 rfl w.heap.size 132 i0 _ 3 40 Tryz.underlying44 HI.out hz0 hz1 hz2 rfl (by decide) _ _ _ rfl (HO2.out.alloc _) ⟨wr.heap.size, 0, none⟩ 1 1 (attrCells (ys, yn, yv)) rfl rfl ?_ ?_ ?_ ?_ ?_ ?_)
            · intro j u hj; rw [Addr.add_mid, Nat.zero_add]; exact cell_new' rfl (by simpa [attrCells] using hj)
            · intro u hu; simp [attrCells] at hu; rcases hu with rfl | rfl | rfl <;> rfl
            · unfold maxLen; omega
            · omega
            · simp; omega
            intro v' w3 hown hgrow _
            have hB3 : Below w.heap.size w w3 := (HBW.out.alloc hwi _).grown hgrow (by simp; omega) (fun k hk => (owns_block HO2.out k hk).1)
            have hown' : w3.ownsRow w.heap.size 132 3 v' (onceL (l.take (k + 1))).length ((onceL (l.take (k + 1))).flatMap attrCells) := by
              rw [HX.out, flatMap_snoc, List.length_append]; exact hown
            have HO3 := Lib.hid hown'
            clear hown hown' hgrow
            go_wp2
            go_roundw
            case rel => exact ⟨k + 1, hlt, by go_num, HO3, hB3⟩
            case measure => simp [intOf]; omega
    · have hkl : l.take k = l := List.take_of_length_le (by omega)
      have HO2 := Lib.hid (by have := hO.out; rwa [hkl] at this)
      go_wp2
      go_ret
      exact ⟨hB, _, rfl, HO2.out⟩

end Go.Proofs.YtpicinjcmjaogaaGreat

/- Contracts of the document's arena: SetAttrs, Cut. -/
namespace Go.Proofs.YtpicinjcmjaogaaGreat
open Go.RowKit
set_option linter.unusedVariables false

/-- A new list of attributes is stored. -/
theorem RMem.setAttrsRow {w w2 : World} {ρ : Nat → Nat} {b : Nat} {A : Ar} {x : Int} {nb c : Nat} {v : Value} {l : List AttrD} (hA : RMem w ρ b A) (hx : A.has x)
    (hc0 : w.cell? ⟨b, 0, none⟩ = some (.slice (some ⟨nb, 0, none⟩) (A.ns.length + 1) c)) (hB : Below w.heap.size w w2) (ho : w2.ownsRow w.heap.size 132 3 v l.length (l.flatMap attrCells)) :
    ∃ ρ', RMem (w2.setCell ⟨nb, x.toNat * 13 + 6, none⟩ v) ρ' b (A.mod x (fun n => { n with attrs := l })) ∧ Turn ρ ρ' w (w2.setCell ⟨nb, x.toNat * 13 + 6, none⟩ v) := by
  have hnew := owns_block ho
  have hr : ∀ k, k < w.heap.size → (fun k => if v.ownBlock = some k then 2 * x.toNat + 5 else ρ k) k = ρ k := fun k hk => by
    dsimp only; rw [if_neg (fun e => by have := (hnew k e).1; omega)]
  refine ⟨_, RMem.store (f := fun n => { n with attrs := l }) (j := 6) (v := v) (ρ' := fun k => if v.ownBlock = some k then 2 * x.toNat + 5 else ρ k) hA hx hc0 (Upd.below hB) hr (fun k hk => ?_) (by omega) (fun kv av h1 h2 _ _ => ?_)⟩
  · try dsimp only at hk
    split at hk
    · rename_i e; exact (hnew k e).2
    · exact Nat.lt_of_lt_of_le (hA.1 k hk) hB.size
  · refine ⟨kv, v, rfl, (h1.role hr).upd (F := fun _ => False) (Upd.below hB) (fun _ _ => id), ⟨owns_base ho (Nat.zero_le _), fun g hg => ?_⟩⟩
    try dsimp only
    rw [if_pos hg]
end Go.Proofs.YtpicinjcmjaogaaGreat

/- Contracts of the document's arena: up, Contains, Root, Parent, Index. -/
namespace Go.Proofs.YtpicinjcmjaogaaGreat
open Go.RowKit
set_option linter.unusedVariables false

end Go.Proofs.YtpicinjcmjaogaaGreat

/- Contracts of the document's arena: Index, Allowed. -/
namespace Go.Proofs.YtpicinjcmjaogaaGreat
open Go.RowKit
set_option linter.unusedVariables false

end Go.Proofs.YtpicinjcmjaogaaGreat

/- Contracts of the document's arena: Put. -/
namespace Go.Proofs.YtpicinjcmjaogaaGreat
open Go.RowKit
set_option linter.unusedVariables false

/-- The part of Put's list that the first k children make. -/
def putPart (l : List Int) (node before : Int) (k : Nat) : List Int := (l.take k).flatMap fun x => if x = before then [node, x] else [x]
end Go.Proofs.YtpicinjcmjaogaaGreat

/- Contracts of the document's arena: Element. -/
namespace Go.Proofs.YtpicinjcmjaogaaGreat
open Go.RowKit
set_option linter.unusedVariables false

/-- A new row of attributes gets a role. -/
theorem RMem.takeAttrs {w w2 : World} {ρ : Nat → Nat} {b : Nat} {A : Ar} {v : Value} {l : List AttrD} (r : Nat) (hA : RMem w ρ b A) (hB : Below w.heap.size w w2) (ho : w2.ownsRow w.heap.size 132 3 v l.length (l.flatMap attrCells)) :
    ∃ ρ', RMem w2 ρ' b A ∧ ROwn w2 ρ' r 132 3 v l.length (l.flatMap attrCells) ∧ Turn ρ ρ' w w2 := by
  cases hv : v.ownBlock with
  | none => exact ⟨ρ, hA.below hB, ⟨owns_base ho (Nat.zero_le _), fun g hg => by rw [hv] at hg; simp at hg⟩, Turn.below hB⟩
  | some g =>
    obtain ⟨h1, h2⟩ := owns_block ho g hv
    have h0 : ρ g = 0 := Classical.not_not.1 (fun h => by have := hA.1 g h; omega)
    refine ⟨_, (hA.below hB).newRole g r h0 h2, ⟨owns_base ho (Nat.zero_le _), fun g' hg' => ?_⟩, ⟨Upd.below hB, fun k hk => ?_⟩⟩
    · rw [hv] at hg'; simp at hg'; simp [hg']
    · rw [if_neg (by omega)]

theorem RAddR.after {A' : Ar} {ρ ρ1 : Nat → Nat} {b : Nat} {w W : World} {v : Value} {e : Ending} {w' : World} (h : RAddR A' ρ1 b W v e w') (hT : Turn ρ ρ1 w W) : RAddR A' ρ b w v e w' := by
  obtain ⟨rfl, ρ', h1, h2⟩ := h
  exact ⟨rfl, ρ', h1, hT.trans h2⟩

set_option maxRecDepth 100000 in
set_option maxHeartbeats 2000000 in
theorem RElement_err (A : Ar) (ρ : Nat → Nat) (b : Nat) (d s : Int) (name : ByteArray) (v : Value) (l : List AttrD) (w : World) (hA : RMem w ρ b A) (hv : RAttrs w v l) (he : ¬ (A.ofDoc d = 0 ∧ inSpaces s ∧ attrSpaces l)) :
    Calls Tryz.prog 28 #[.pointer (some ⟨b, 0, none⟩), .int .i64 d, .int .i64 s, .string name, v] w (RAddR (A.element d s name l).2 ρ b w (pairV (A.element d s name l).1)) := by
  have HO := Lib.hid (ROfDoc_any A ρ b d w hA)
  have HI := Lib.hid (InSpaces_any s w)
  have HS := Lib.hid (AttrSpaces_any v l w hv)
  have HA := Lib.hid hA
  obtain ⟨va, vc, rfl, -⟩ := hv.form
  clear hv hA
  by_cases hd : A.ofDoc d = 0
  · have hsp : ¬ (inSpaces s ∧ attrSpaces l) := fun h => he ⟨hd, h⟩
    rw [elem_false hd hsp]
    have HD := Lib.hid hd
    by_cases hi : inSpaces s
    · have hi1 : decide (inSpaces s) = true := decide_eq_true hi
      have hs1 : decide (attrSpaces l) = false := decide_eq_false (fun h => hsp ⟨hi, h⟩)
      clear hd hi hsp he
      go_enter Tryz.func28, Tryz.ntmps28
      go_wp2_with fail
      refine HO.out.mono ?_
      rintro e w1 ⟨rfl, rfl⟩
      rw [HD.out]
      go_wp2_with fail
      refine HI.out.mono ?_
      rintro e w1 ⟨rfl, rfl⟩
      rw [hi1]
      go_wp2_with fail
      refine HS.out.mono ?_
      rintro e w1 ⟨rfl, rfl⟩
      rw [hs1]
      go_wp2
      go_ret2
      exact ⟨rfl, ρ, HA.out, Turn.refl _ _⟩
    · have hi1 : decide (inSpaces s) = false := decide_eq_false hi
      clear hd hi hsp he
      go_enter Tryz.func28, Tryz.ntmps28
      go_wp2_with fail
      refine HO.out.mono ?_
      rintro e w1 ⟨rfl, rfl⟩
      rw [HD.out]
      go_wp2_with fail
      refine HI.out.mono ?_
      rintro e w1 ⟨rfl, rfl⟩
      rw [hi1]
      go_wp2
      go_ret2
      exact ⟨rfl, ρ, HA.out, Turn.refl _ _⟩
  · have e : A.element d s name l = ((0, A.ofDoc d), A) := by unfold Ar.element; rw [if_pos hd]
    rw [e]
    have hd1 : (A.ofDoc d != 0) = true := by simpa using hd
    clear e hd he
    generalize A.ofDoc d = ee at *
    go_enter Tryz.func28, Tryz.ntmps28
    go_wp2_with fail
    refine HO.out.mono ?_
    rintro e w1 ⟨rfl, rfl⟩
    go_wp2
    go_ret2
    exact ⟨rfl, ρ, HA.out, Turn.refl _ _⟩

set_option maxRecDepth 100000 in
set_option maxHeartbeats 4000000 in
theorem RElement_ok (A : Ar) (ρ : Nat → Nat) (b : Nat) (d s : Int) (name : ByteArray) (v : Value) (l : List AttrD) (w : World) (hA : RMem w ρ b A) (hv : RAttrs w v l) (hsm : A.ns.length + 3 ≤ 1000000) (hl : l.length ≤ 1000000) (he : A.ofDoc d = 0) (hs : inSpaces s ∧ attrSpaces l) :
    Calls Tryz.prog 28 #[.pointer (some ⟨b, 0, none⟩), .int .i64 d, .int .i64 s, .string name, v] w (RAddR (A.element d s name l).2 ρ b w (pairV (A.element d s name l).1)) := by
  have HO := Lib.hid (ROfDoc_any A ρ b d w hA)
  have HI := Lib.hid (InSpaces_any s w)
  have HS := Lib.hid (AttrSpaces_any v l w hv)
  have HON := Lib.hid (ROnce_any v l w hv hl)
  have HA := Lib.hid hA
  have HE := Lib.hid he
  have hi1 : decide (inSpaces s) = true := decide_eq_true hs.1
  have hs1 : decide (attrSpaces l) = true := decide_eq_true hs.2
  have hdh : A.has d := ofDoc_has he
  have HDH := Lib.hid hdh
  obtain ⟨va, vc, rfl, -⟩ := hv.form
  have hfin : ∃ nd, nd = elemNd d s name l ∧ (¬ isTemplate nd → A.element d s name l = ((A.n + 1, 0), A.add nd)) ∧ (isTemplate nd → A.element d s name l = ((A.n + 1, 0), ((((A.add nd).inertOf d).2.add (contNd (A.n + 1) ((A.add nd).inertOf d).1)).mod (A.n + 1) (fun x => { x with contents := ((A.add nd).inertOf d).2.n + 1 })))) :=
    ⟨_, rfl, fun ht => elem_plain he hs ht, fun ht => elem_templ he hs ht⟩
  obtain ⟨nd, hnd, hf1, hf2⟩ := hfin
  have hfst : (A.element d s name l).1 = (A.n + 1, 0) := by
    by_cases ht : isTemplate nd
    · rw [hf2 ht]
    · rw [hf1 ht]
  rw [hfst]
  have HF := Lib.hid (And.intro hf1 hf2)
  clear hv hA he hs hdh hf1 hf2 hfst
  generalize (A.element d s name l) = R at *
  have HND := Lib.hid hnd
  clear hnd
  go_enter Tryz.func28, Tryz.ntmps28
  go_wp2_with fail
  refine HO.out.mono ?_
  rintro e w1 ⟨rfl, rfl⟩
  rw [HE.out]
  go_wp2_with fail
  refine HI.out.mono ?_
  rintro e w1 ⟨rfl, rfl⟩
  rw [hi1]
  go_wp2_with fail
  refine HS.out.mono ?_
  rintro e w1 ⟨rfl, rfl⟩
  rw [hs1]
  go_wp2_with fail
  refine HON.out.mono ?_
  rintro e w1 ⟨hB1, v1, rfl, ho1⟩
  obtain ⟨ρ1, hA1, hro, hT1⟩ := HA.out.takeAttrs (2 * (A.ns.length + 1) + 5) hB1 ho1
  obtain ⟨oa, oc, rfl⟩ := ownsForm ho1
  have HAD := Lib.hid (radd_any A ρ1 b (elemNd d s name l) oa oc w1 hA1 (by omega) rfl hro)
  have HT1 := Lib.hid hT1
  clear hA1 hro hT1 ho1 hB1 HO HI HS HON HA
  go_wp2_with fail
  refine HAD.out.mono ?_
  rintro e w2 ⟨rfl, ρ2, hA2, hT2⟩
  rw [← HND.out] at hA2
  obtain ⟨nb, c, h0, hm, hc, hfn, hnb, -, hN⟩ := hA2.look
  have hlen : (A.add nd).ns.length = A.ns.length + 1 := by simp [Ar.add]
  rw [hlen] at h0 hm hc
  obtain ⟨hp, hq, kv, av, F, -, -⟩ := hN _ (newNd_bound nd)
  rw [hlen] at hq
  rw [add_get] at F
  have c0 := F.c0; have c1 := F.c1; have c2 := F.c2; have c3 := F.c3; have c4 := F.c4; have c5 := F.c5; have c6 := F.c6
  have c7 := F.c7; have c8 := F.c8; have c9 := F.c9; have c10 := F.c10; have c11 := F.c11; have c12 := F.c12
  have HIT := Lib.hid (IsTemplate_any nd kv av w2)
  have HT2 := Lib.hid (HT1.out.trans hT2)
  have HA2 := Lib.hid hA2
  clear hA2 hT2 hN F hfn HAD
  unfold Nd.cells at HIT
  go_wp2_with fail
  refine HIT.out.mono ?_
  rintro e w3 ⟨rfl, hB3⟩
  clear HIT c0 c1 c2 c3 c4 c5 c6 c7 c8 c9 c10 c11 c12 h0 hm hc
  have hA3 := HA2.out.below hB3
  have HT3 := Lib.hid (HT2.out.trans (Turn.below hB3))
  by_cases ht : isTemplate nd
  · have ht1 : decide (isTemplate nd) = true := decide_eq_true ht
    rw [ht1]
    have HR := Lib.hid (HF.out.2 ht)
    have HIN := Lib.hid (RInertOf_any (A.add nd) ρ2 b d w3 hA3 (by rw [hlen]; omega) ((Ar.add_has _ _ _).2 (.inl HDH.out)))
    have hil := Ar.inertOf_len (A.add nd) d
    have hext := Ar.ext_inertOf (A.add nd) d
    rw [hlen] at hil
    have hxh := hext.has (newNd_bound nd)
    generalize (A.add nd).inertOf d = I at *
    obtain ⟨i, A4⟩ := I
    dsimp only at hil hext hxh HIN HR
    have HX := Lib.hid hxh
    clear hxh hext hA3 ht ht1 hB3
    go_wp2_with fail
    refine HIN.out.mono ?_
    rintro e w4 ⟨rfl, ρ4, hA4, hT4⟩
    have HAD2 := Lib.hid (radd_any A4 ρ4 b (contNd (A.n + 1) i) none 0 w4 hA4 (by omega) rfl (rhav_nil _ _ _))
    have HT4 := Lib.hid (HT3.out.trans hT4)
    clear hA4 hT4 HIN
    go_wp2_with fail
    refine HAD2.out.mono ?_
    rintro e w5 ⟨rfl, ρ5, hA5, hT5⟩
    obtain ⟨nb5, c5, g0, gm, gc, gfn, -, -, gN⟩ := hA5.look
    have hl5 : (A4.add (contNd (A.n + 1) i)).ns.length = A4.ns.length + 1 := by simp [Ar.add]
    have hx5 : (A4.add (contNd (A.n + 1) i)).has (A.n + 1) := (Ar.add_has _ _ _).2 (.inl HX.out)
    obtain ⟨xp, xq, kv5, av5, F5, -, -⟩ := gN _ hx5
    have e11 := F5.c11
    have f11 := gfn ((A.n + 1).toNat * 13 + 11)
    have hst := hA5.field (x := A.n + 1) (f := fun x => { x with contents := A4.n + 1 }) (j := 11) (v := .int .i64 (A4.n + 1)) hx5 g0 (by omega) (fun _ _ => rfl) rfl rfl
    rw [hl5] at g0 gm gc xq
    have HST := Lib.hid (And.intro hst.1 ((HT4.out.trans hT5).trans hst.2))
    clear hst hA5 hT5 gN gfn F5 hx5 hl5 HAD2
    have HL := Lib.hid hlen
    clear hlen
    go_wp2
    go_ret2
    rw [HR.out]
    exact ⟨rfl, ρ5, HST.out.1, HST.out.2⟩
  · have ht1 : decide (isTemplate nd) = false := decide_eq_false ht
    rw [ht1]
    have HR := Lib.hid (HF.out.1 ht)
    have HA3 := Lib.hid hA3
    have HL := Lib.hid hlen
    clear hA3 ht hB3 hlen
    go_wp2
    go_ret2
    rw [HR.out]
    exact ⟨rfl, ρ2, HA3.out, HT3.out⟩

theorem RElement_any (A : Ar) (ρ : Nat → Nat) (b : Nat) (d s : Int) (name : ByteArray) (v : Value) (l : List AttrD) (w : World) (hA : RMem w ρ b A) (hv : RAttrs w v l) (hsm : A.ns.length + 3 ≤ 1000000) (hl : l.length ≤ 1000000) :
    Calls Tryz.prog 28 #[.pointer (some ⟨b, 0, none⟩), .int .i64 d, .int .i64 s, .string name, v] w (RAddR (A.element d s name l).2 ρ b w (pairV (A.element d s name l).1)) := by
  by_cases he : A.ofDoc d = 0 ∧ inSpaces s ∧ attrSpaces l
  · exact RElement_ok A ρ b d s name v l w hA hv hsm hl he.1 he.2
  · exact RElement_err A ρ b d s name v l w hA hv he

end Go.Proofs.YtpicinjcmjaogaaGreat

/- The law's Model: the same on the document's arena. (Printed by genmodel.py.) -/
namespace Go.Proofs.YtpicinjcmjaogaaGreat
open Go.RowKit
set_option linter.unusedVariables false

end Go.Proofs.YtpicinjcmjaogaaGreat

/- The law's Play: both arenas. -/
namespace Go.Proofs.YtpicinjcmjaogaaGreat
open Go.RowKit
set_option linter.unusedVariables false

theorem Own.callR {w0 w : World} {B b : Nat} {A A' : Ar} {l : List Asrt} {v : Value} {f : Nat} {args : Array Value} (h : Own w0 B (.refar b A :: l) w) (hc : ∀ ρ, RMem w ρ b A → Calls Tryz.prog f args w (RAddR A' ρ b w v)) :
    Calls Tryz.prog f args w fun e w' => e = .returned v ∧ Own w0 B (.refar b A' :: l) w' := by
  obtain ⟨S, ⟨ρ, hA, hS⟩, hf⟩ := h.front
  refine (hc ρ hA).mono ?_
  rintro e w' ⟨rfl, ρ', hA', hT⟩
  exact ⟨rfl, hf w' _ ⟨fun k => ρ' k ≠ 0, ⟨ρ', hA', fun _ => Iff.rfl⟩, hT.upd.mono (fun k _ hk => (hS k).2 hk), fun k hk hp => (hS k).2 (by rw [← hT.role k hk]; exact hp)⟩⟩
theorem RNew_own {w0 w : World} {B : Nat} {l : List Asrt} (o : Own w0 B l w) :
    Calls Tryz.prog 21 #[] w fun e w' => e = .returned (.pointer (some ⟨w.heap.size + 2, 0, none⟩)) ∧ Own w0 B (.refar (w.heap.size + 2) Ar.new :: l) w' := by
  refine (RNew_any w).mono ?_
  rintro e w' ⟨rfl, hB, ρ, hR, hρ⟩
  exact ⟨rfl, o.fresh hB ⟨fun k => ρ k ≠ 0, ⟨ρ, hR, fun _ => Iff.rfl⟩, fun k hk => hρ k hk⟩⟩
theorem Own.refar {w0 w : World} {B b : Nat} {A : Ar} {l : List Asrt} (h : Own w0 B l w) (hm : Asrt.refar b A ∈ l) : ∃ ρ, RMem w ρ b A := by
  obtain ⟨S, ⟨ρ, h1, _⟩, _⟩ := h.get hm
  exact ⟨ρ, h1⟩

end Go.Proofs.YtpicinjcmjaogaaGreat
