/-
  Parts: D19, D20.
-/
import Derived.Test.YtpicinjcmjaogaaGreatK31
import Derived.Test.YtpicinjcmjaogaaGreatK34

/- Contracts of dom: Clone, Import. (Printed by gend19.py.) -/
namespace Go.Proofs.YtpicinjcmjaogaaGreat
open Go.RowKit Go.Shelf
set_option linter.unusedVariables false

attribute [local go_sem] Oper.semAt_some

set_option maxRecDepth 100000 in
set_option maxHeartbeats 1000000 in
theorem CloneD_own {w0 w : World} {B b : Nat} {A : Ar} {L : List Asrt} {h : Int} {deep : Bool} (o : Own w0 B (.arena b A :: L) w) (hI : A.Inv) (hsz : 2 * A.ns.length + 10 ≤ 300000) :
    Calls Tryz.prog 75 #[.pointer (some ⟨b, 0, none⟩), .int .i64 h, .bool deep] w fun e w' => e = .returned (pairV (A.cloneCall h deep).1) ∧ Own w0 B (.arena b (A.cloneCall h deep).2 :: L) w' := by
  have HS := hI.short (show A.ns.length ≤ 1000000 by omega)
  unfold pairV
  by_cases hh : A.has h
  · have HC := Lib.hid (Check1_own (opt := -1) (x := h) o (b := b) (A := A) (by simp) HS (chk1n.trans (if_pos hh)))
    have hwl := walk_len hI h
    obtain ⟨d1, d2⟩ := hI.docK h hh
    have hcl := Ar.cap_le A (A.get h).doc
    obtain ⟨nd, hnd⟩ : ∃ nd, A.get h = nd := ⟨_, rfl⟩
    have HD := Lib.hid (fun W (q : Own w0 B (.arena b A :: L) W) => Document_own (b := b) (A := A) q (by simp) HS hh hnd)
    have HDU := Lib.hid (fun W (q : Own w0 B (.arena b A :: L) W) => dup_own hI (by omega) (b := b) (bf := b) A.ns.length deep A (A.get h).doc h L w0 W B hI d1 d2 hh hwl (by split <;> omega) (.inl ⟨rfl, fun x hx => ⟨hx, rfl⟩⟩) q)
    rw [hnd] at HDU
    have HF : Hid (A.cloneCall h deep = (((dupF A deep A.ns.length A nd.doc h).1, 0), (dupF A deep A.ns.length A nd.doc h).2)) := Lib.hid (by unfold Ar.cloneCall; rw [if_pos hh, hnd])
    clear o hI hh HS hwl d1 d2 hcl hnd
    generalize dupF A deep A.ns.length A nd.doc h = R at *
    generalize nd.doc = dc at *
    go_enter Tryz.func75, Tryz.ntmps75
    go_wp2_with fail
    refine HC.out.mono ?_
    rintro e w1 ⟨rfl, o1⟩
    have HD1 := Lib.hid (HD.out _ o1)
    clear HC HD o1
    go_wp2_with fail
    refine HD1.out.mono ?_
    rintro e w2 ⟨rfl, o2, -⟩
    have HD2 := Lib.hid (HDU.out _ o2)
    clear HD1 HDU o2
    go_wp2_with fail
    refine HD2.out.mono ?_
    rintro e w3 ⟨rfl, o3⟩
    have HO := Lib.hid o3
    clear HD2 o3
    go_wp2
    go_ret2
    rw [HF.out]
    exact ⟨rfl, HO.out⟩
  · have HC := Lib.hid (Check1_own (opt := -1) (x := h) o (b := b) (A := A) (by simp) HS (chk1n.trans (if_neg hh)))
    have HF : Hid (A.cloneCall h deep = ((0, 3), A)) := Lib.hid (if_neg hh)
    clear o hI hh HS
    go_enter Tryz.func75, Tryz.ntmps75
    go_wp2_with fail
    refine HC.out.mono ?_
    rintro e w1 ⟨rfl, o1⟩
    have HO := Lib.hid o1
    clear HC o1
    go_wp2
    go_ret2
    rw [HF.out]
    exact ⟨rfl, HO.out⟩

set_option maxRecDepth 100000 in
set_option maxHeartbeats 1000000 in
theorem ImportD_own {w0 w : World} {B b bf : Nat} {A C : Ar} {L : List Asrt} {d h : Int} (o : Own w0 B (.arena b A :: L) w) (hI : A.Inv) (hC : C.Inv) (hm : (bf = b ∧ C = A) ∨ Asrt.arena bf C ∈ L) (hsz : A.ns.length + C.ns.length + 10 ≤ 300000) :
    Calls Tryz.prog 70 #[.pointer (some ⟨b, 0, none⟩), .int .i64 d, .pointer (some ⟨bf, 0, none⟩), .int .i64 h] w fun e w' => e = .returned (pairV (A.importCall C d h).1) ∧ Own w0 B (.arena b (A.importCall C d h).2 :: L) w' := by
  have HS := hI.short (show A.ns.length ≤ 1000000 by omega)
  have HSC := hC.short (show C.ns.length ≤ 1000000 by omega)
  have hmem : Asrt.arena bf C ∈ Asrt.arena b A :: L := by
    rcases hm with ⟨rfl, rfl⟩ | q
    · simp
    · simp [q]
  have hsrc : Src C b bf A L := by
    rcases hm with ⟨rfl, rfl⟩ | q
    · exact .inl ⟨rfl, fun x hx => ⟨hx, rfl⟩⟩
    · exact .inr q
  unfold pairV
  by_cases hd : A.has d
  · have HC1 := Lib.hid (Check1_own (opt := -1) (x := d) o (b := b) (A := A) (by simp) HS (chk1n.trans (if_pos hd)))
    by_cases hh : C.has h
    · have HC2 := Lib.hid (fun W (q : Own w0 B (.arena b A :: L) W) => Check1_own (opt := -1) (x := h) q (b := bf) (A := C) hmem HSC (chk1n.trans (if_pos hh)))
      have hwl := walk_len hC h
      have hcl := Ar.cap_le A d
      obtain ⟨dd, hdd⟩ : ∃ dd, A.get d = dd := ⟨_, rfl⟩
      obtain ⟨nd, hnd⟩ : ∃ nd, C.get h = nd := ⟨_, rfl⟩
      have HK1 := Lib.hid (fun W (q : Own w0 B (.arena b A :: L) W) => Kind_own (b := b) (A := A) q (by simp) HS hd hdd)
      have HK2 := Lib.hid (fun W (q : Own w0 B (.arena b A :: L) W) => Kind_own (b := bf) (A := C) q hmem HSC hh hnd)
      have HE : Hid (A.importCall C d h = if dd.kind ≠ 1 ∨ nd.kind = 1 then ((0, 9), A) else (((dupF C true C.ns.length A d h).1, 0), (dupF C true C.ns.length A d h).2)) := Lib.hid (by
        unfold Ar.importCall; rw [if_pos ⟨hd, hh⟩, hdd, hnd])
      have HDU := Lib.hid (fun (hk : dd.kind = 1) W (q : Own w0 B (.arena b A :: L) W) => dup_own hC (by omega) (b := b) (bf := bf) C.ns.length true A d h L w0 W B hI hd (by rw [hdd]; exact hk) hh hwl (by split <;> omega) hsrc q)
      clear o hI hC hh hd HS HSC hwl hcl hnd hdd hm hmem hsrc
      generalize dupF C true C.ns.length A d h = R at *
      generalize dd.kind = kd at *
      generalize nd.kind = kh at *
      by_cases hk : kd = 1
      · have g1 : (kd != 1) = false := by simp [hk]
        by_cases hh1 : kh = 1
        · have g2 : (kh == 1) = true := by simp [hh1]
          have HF := Lib.hid (HE.out.trans (if_pos (.inr hh1)))
          clear hk hh1 HE HDU
          go_enter Tryz.func70, Tryz.ntmps70
          go_wp2_with fail
          refine HC1.out.mono ?_
          rintro e w1 ⟨rfl, o1⟩
          have HC3 := Lib.hid (HC2.out _ o1)
          clear HC1 HC2 o1
          go_wp2_with fail
          refine HC3.out.mono ?_
          rintro e w2 ⟨rfl, o2⟩
          have HK3 := Lib.hid (HK1.out _ o2)
          clear HC3 HK1 o2
          go_wp2_with fail
          refine HK3.out.mono ?_
          rintro e w3 ⟨rfl, o3, -⟩
          have HK4 := Lib.hid (HK2.out _ o3)
          clear HK3 HK2 o3
          go_wp2_with fail
          refine HK4.out.mono ?_
          rintro e w4 ⟨rfl, o4, -⟩
          have HO := Lib.hid o4
          clear o4 HK4
          go_wp2
          go_ret2
          rw [HF.out]
          exact ⟨rfl, HO.out⟩
        · have g2 : (kh == 1) = false := by simp [hh1]
          have HF := Lib.hid (HE.out.trans (if_neg (fun q => q.elim (fun z => z hk) hh1)))
          have HDU2 := Lib.hid (HDU.out hk)
          clear hk hh1 HE HDU
          go_enter Tryz.func70, Tryz.ntmps70
          go_wp2_with fail
          refine HC1.out.mono ?_
          rintro e w1 ⟨rfl, o1⟩
          have HC3 := Lib.hid (HC2.out _ o1)
          clear HC1 HC2 o1
          go_wp2_with fail
          refine HC3.out.mono ?_
          rintro e w2 ⟨rfl, o2⟩
          have HK3 := Lib.hid (HK1.out _ o2)
          clear HC3 HK1 o2
          go_wp2_with fail
          refine HK3.out.mono ?_
          rintro e w3 ⟨rfl, o3, -⟩
          have HK4 := Lib.hid (HK2.out _ o3)
          clear HK3 HK2 o3
          go_wp2_with fail
          refine HK4.out.mono ?_
          rintro e w4 ⟨rfl, o4, -⟩
          have HD5 := Lib.hid (HDU2.out _ o4)
          clear HK4 o4 HDU2
          go_wp2_with fail
          refine HD5.out.mono ?_
          rintro e w5 ⟨rfl, o5⟩
          have HO := Lib.hid o5
          clear o5 HD5
          go_wp2
          go_ret2
          rw [HF.out]
          exact ⟨rfl, HO.out⟩
      · have g1 : (kd != 1) = true := by simp [hk]
        have HF := Lib.hid (HE.out.trans (if_pos (.inl hk)))
        clear hk HE HDU
        go_enter Tryz.func70, Tryz.ntmps70
        go_wp2_with fail
        refine HC1.out.mono ?_
        rintro e w1 ⟨rfl, o1⟩
        have HC3 := Lib.hid (HC2.out _ o1)
        clear HC1 HC2 o1
        go_wp2_with fail
        refine HC3.out.mono ?_
        rintro e w2 ⟨rfl, o2⟩
        have HK3 := Lib.hid (HK1.out _ o2)
        clear HC3 HK1 o2
        go_wp2_with fail
        refine HK3.out.mono ?_
        rintro e w3 ⟨rfl, o3, -⟩
        have HO := Lib.hid o3
        clear o3 HK3 HK2
        go_wp2
        go_ret2
        rw [HF.out]
        exact ⟨rfl, HO.out⟩
    · have HC2 := Lib.hid (fun W (q : Own w0 B (.arena b A :: L) W) => Check1_own (opt := -1) (x := h) q (b := bf) (A := C) hmem HSC (chk1n.trans (if_neg hh)))
      have HF : Hid (A.importCall C d h = ((0, 3), A)) := Lib.hid (if_neg (fun q => hh q.2))
      clear o hI hC hh hd HS HSC hm hmem hsrc
      go_enter Tryz.func70, Tryz.ntmps70
      go_wp2_with fail
      refine HC1.out.mono ?_
      rintro e w1 ⟨rfl, o1⟩
      have HC3 := Lib.hid (HC2.out _ o1)
      clear HC1 HC2 o1
      go_wp2_with fail
      refine HC3.out.mono ?_
      rintro e w2 ⟨rfl, o2⟩
      have HO := Lib.hid o2
      clear o2 HC3
      go_wp2
      go_ret2
      rw [HF.out]
      exact ⟨rfl, HO.out⟩
  · have HC1 := Lib.hid (Check1_own (opt := -1) (x := d) o (b := b) (A := A) (by simp) HS (chk1n.trans (if_neg hd)))
    have HF : Hid (A.importCall C d h = ((0, 3), A)) := Lib.hid (if_neg (fun q => hd q.1))
    clear o hI hC hd HS HSC hm hmem hsrc
    go_enter Tryz.func70, Tryz.ntmps70
    go_wp2_with fail
    refine HC1.out.mono ?_
    rintro e w1 ⟨rfl, o1⟩
    have HO := Lib.hid o1
    clear o1 HC1
    go_wp2
    go_ret2
    rw [HF.out]
    exact ⟨rfl, HO.out⟩

end Go.Proofs.YtpicinjcmjaogaaGreat

/- Contracts of dom: Normalize. -/
namespace Go.Proofs.YtpicinjcmjaogaaGreat
open Go.RowKit Go.Shelf
set_option linter.unusedVariables false

attribute [local go_sem] Oper.semAt_some

theorem ints_nil20 {w0 w : World} {B : Nat} {l : List Asrt} (o : Own w0 B l w) : Own w0 B (.ints (.slice none 0 0) [] :: l) w :=
  o.fresh (Below.refl _ _) ⟨fun _ => False, ⟨World.ownsRow_nil _ _ _ _, fun k => by simp [Value.ownBlock]⟩, fun _ h => h.elim⟩

set_option maxRecDepth 100000 in
set_option maxHeartbeats 4000000 in
theorem NormalizeD_own {w0 w : World} {B b : Nat} {A : Ar} {L : List Asrt} {h : Int} (o : Own w0 B (.arena b A :: L) w) (hI : A.Inv) (hs : A.ns.length ≤ 100000) (hm : ∀ y, A.has y → A.kidsTx y ≤ 9223372036854775807) :
    Calls Tryz.prog 79 #[.pointer (some ⟨b, 0, none⟩), .int .i64 h] w fun e w' => e = .returned (.int .i64 (A.normalize h).1) ∧ Own w0 B (.arena b (A.normalize h).2 :: L) w' := by
  obtain ⟨i0, hi, hz0, hz1, hz2⟩ := info_parts infoInt
  have HI := Lib.hid hi
  clear hi
  have HS := hI.short (show A.ns.length ≤ 1000000 by omega)
  by_cases hh : A.has h
  · have HC1 := Lib.hid (Check1_own (opt := -1) (x := h) o (b := b) (A := A) (by simp) HS (chk1n.trans (if_pos hh)))
    have HF : Hid (A.normalize h = (0, ((A.join h).below h).foldl Ar.join (A.join h))) := Lib.hid (if_pos hh)
    have HJ := Lib.hid (fun w1 (o1 : Own w0 B (.arena b A :: L) w1) => join_own hI hh hs (hm h hh) o1)
    have n0 : NormP A [h] (A.join h) := (NormP.start hI).step hI hh
    have hB := n0.inv
    have hlB : (A.join h).ns.length ≤ 100000 := by rw [n0.len]; omega
    have hhB := n0.has hh
    have hbl : ((A.join h).below h).length ≤ 100000 := by
      have h1 := below_len hB h hhB
      have h2 := walk_len hB h
      omega
    have HNA := Lib.hid (norm_at hI hh)
    have HNX := Lib.hid (fun k x => @norm_x A h hI hh k x)
    have HNT := Lib.hid (fun (C : Ar) dn x (q : NormP A dn C) (hx : A.has x) (hn : x ∉ dn) => (show C.kidsTx x ≤ 9223372036854775807 by rw [q.tx hI hx hn]; exact hm x hx))
    clear o hI hh HS hm n0
    generalize hBe : A.join h = B1 at *
    clear hBe
    refine (callsIn_wide (n := 8)).1 ?_
    refine callsIn_of_wp_marks Tryz.func79 rfl trivial ?_ rfl
    simp only [Tryz.ntmps79, List.size_toArray, List.length_cons, List.length_nil, Nat.reduceAdd, Nat.reduceSub, Array.replicate_succ, Array.replicate_zero, List.push_toArray, List.append_toArray, List.nil_append, List.cons_append]
    refine wpIn_wide.2 ?_
    go_wp2_with fail
    refine HC1.out.mono ?_
    rintro e w1 ⟨rfl, o1⟩
    have HC2 := Lib.hid (HJ.out _ o1)
    clear HC1 HJ o1
    go_wp2_with fail
    refine HC2.out.mono ?_
    rintro e w2 ⟨rfl, o2⟩
    clear HC2
    go_wp2_with fail
    refine (Below_any b h _).mono ?_
    rintro e w3 ⟨rfl, rfl⟩
    have o3 := ((o2.alloc (.cells #[.slice none 0 0] 41)).alloc (.cells #[.pointer (some ⟨b, 0, none⟩)] 23)).alloc (.cells #[.int .i64 h] 3)
    simp only [World.size_alloc] at o3
    have o4 := ints_nil20 o3.rot4.rot4
    have hseq := below_seq (ab := w2.heap.size + 1) (hb := w2.heap.size + 1 + 1) (b := b) hB hlB hhB w0 B 7
    clear o2 o3
    go_wp2_with fail
    refine wpIn_wide.1 (wpIn_rangeFunc_G (n := 8) (α := Int) rfl (by omega) (gf := 181) (lb := #[.pointer (some ⟨w2.heap.size + 1, 0, none⟩), .pointer (some ⟨w2.heap.size + 1 + 1, 0, none⟩)]) rfl trivial (enters_of Tryz.func181 (by kernel_rfl) rfl)
      (Rd := belowRd B1 b (w2.heap.size + 1) (w2.heap.size + 1 + 1) h) belowRd_cons hseq (fun _ => rfl) o4
      (fun pre L' => (∃ rest, B1.below h = pre ++ rest) ∧ ∃ va vc, L' = .ints (.slice va pre.length vc) pre :: .box w2.heap.size (.cells #[.slice va pre.length vc] 41 (0, 0)) :: .arena b B1 :: .box (w2.heap.size + 1 + 1) (.cells #[.int .i64 h] 3 (0, 0)) :: .box (w2.heap.size + 1) (.cells #[.pointer (some ⟨b, 0, none⟩)] 23 (0, 0)) :: L)
      (fun _ _ _ => False) ?hLR ⟨⟨_, rfl⟩, none, 0, rfl⟩ ?a1 ?assign ?body ?done ?stop)
    case assign =>
      intro l' x W' K hK
      gi_wp2
      exact hK
    case hLR =>
      rintro pre L' ⟨⟨rest, hrest⟩, va, vc, rfl⟩
      exact ⟨by simp, by simp, _, by simp, Ar.Tree.refl _, hB, by omega⟩
    case body =>
      rintro l' G f pre x W' L' ⟨rest, hrest⟩ ⟨-, va, vc, rfl⟩ o
      have hpl : pre.length ≤ 100000 := by have := congrArg List.length hrest; simp at this; omega
      have HP : Hid (∃ rest, B1.below h = pre ++ [x] ++ rest) := Lib.hid ⟨rest, hrest⟩
      have k1 := box_cell (o.box (g := w2.heap.size) (o := .cells #[.slice va pre.length vc] 41 (0, 0)) (by simp))
      have hro := o.row (e := 3) (size := 1) (v := .slice va pre.length vc) (n := pre.length) (xs := pre.map intv) (by simp)
      have HO := Lib.hid o
      have HR := Lib.hid hro
      have hBW : B ≤ W'.heap.size := o.big
      clear o hro hrest hseq o4
      gi_wp2_with (gi_at_builtin; refine wpListIn_append_own_at _ rfl _ _ 41 rfl B 3 i0 _ 1 8 Tryz.underlying41 HI.out hz0 hz1 hz2 rfl (by decide) _ _ _ rfl (HR.out.alloc _) ⟨W'.heap.size, 0, none⟩ 1 1 [intv x] rfl rfl ?c1 ?c2 ?c3 ?c4 ?c5 ?_)
      case c1 => intro j u hj; rw [Addr.add_mid, Nat.zero_add]; exact cell_new' rfl (by simpa [intv] using hj)
      case c2 => intro u hu; simp at hu; subst hu; rfl
      case c3 => unfold maxLen; omega
      case c4 => omega
      case c5 => simp; omega
      intro v' w4 hown hgrow _ hat
      have o5 := (((HO.out.swap).alloc (.cells #[.int .i64 x] 3)).swap.grow hown hgrow (by simpa using hat)).swap.drop.rot3
      obtain ⟨va', vc', rfl⟩ := ownsForm hown
      have k3 := box_cell (o5.box (g := w2.heap.size) (o := .cells #[.slice va pre.length vc] 41 (0, 0)) (by simp))
      have f3 := box_free (o5.box (g := w2.heap.size) (o := .cells #[.slice va pre.length vc] 41 (0, 0)) (by simp))
      have o6 := (o5.set1 (u := .slice va' (pre.length + 1) vc')).swap.rot3
      have e1 : (pre ++ [x]).length = pre.length + 1 := by simp
      have e2 : (pre ++ [x]).map intv = pre.map intv ++ [intv x] := by simp
      have HK : Hid (Own w0 B (.keep G f :: .ints (.slice va' (pre ++ [x]).length vc') (pre ++ [x]) :: .box w2.heap.size (.cells #[.slice va' (pre ++ [x]).length vc'] 41 (0, 0)) :: .arena b B1 :: .box (w2.heap.size + 1 + 1) (.cells #[.int .i64 h] 3 (0, 0)) :: .box (w2.heap.size + 1) (.cells #[.pointer (some ⟨b, 0, none⟩)] 23 (0, 0)) :: L) (w4.setCell ⟨w2.heap.size, 0, none⟩ (.slice va' (pre.length + 1) vc'))) := Lib.hid (by
        unfold Asrt.ints
        rw [e1, e2]; exact o6)
      clear o5 o6 e1 e2 hown hgrow hat HO HR
      gi_wp2
      exact ⟨_, ⟨HP.out, va', vc', rfl⟩, HK.out⟩
    case done =>
      rintro xs W' L' rfl ⟨-, va, vc, rfl⟩ o
      simp only [World.size_alloc] at o
      generalize B1.below h = l at *
      have HO := Lib.hid o.rot4
      have q1 := box_cell (o.box (g := w2.heap.size) (o := .cells #[.slice va l.length vc] 41 (0, 0)) (by simp))
      clear o hseq o4
      go_wp2
      simp only [World.size_alloc]
      go_loopw [30] (fun i wr => ∃ (k : Nat), k ≤ l.length ∧ i = .int .i64 k ∧ Hid (Own w0 B (.arena b ((l.take k).foldl Ar.join B1) :: .box (w2.heap.size + 1 + 1 + 1) (.deferred (some [])) :: .ints (.slice va l.length vc) l :: .box w2.heap.size (.cells #[.slice va l.length vc] 41 (0, 0)) :: .box (w2.heap.size + 1 + 1) (.cells #[.int .i64 h] 3 (0, 0)) :: .box (w2.heap.size + 1) (.cells #[.pointer (some ⟨b, 0, none⟩)] 23 (0, 0)) :: L) wr)) (fun i _ => l.length - (intOf i).toNat)
      case atStart => exact ⟨0, Nat.zero_le _, rfl, HO⟩
      case round =>
        obtain ⟨k, hk, rfl, hT⟩ := hrel
        clear HO
        by_cases hlt : k < l.length
        · obtain ⟨x, hx⟩ : ∃ x, l[k]? = some x := ⟨_, List.getElem?_eq_getElem hlt⟩
          have hri : RInts wr (.slice va l.length vc) l := hT.out.ints (by simp)
          obtain ⟨b1, o1, rfl, -, hcs⟩ := hri.cells (by omega)
          have c1 := hcs k x hx
          have n1 := HNA.out k hk
          obtain ⟨x1, x2⟩ := HNX.out k x hx
          have n2 := HNT.out _ _ x n1 x1 x2
          have HX := Lib.hid (fold_take (fun (B : Ar) x => B.join x) B1 hx)
          generalize (l.take k).foldl Ar.join B1 = A1 at *
          have HC := Lib.hid (join_own n1.inv (n1.has x1) (by rw [n1.len]; omega) n2 hT.out)
          clear hri hcs hx n1 n2 x1 x2 hT
          go_wp2_with fail
          refine HC.out.mono ?_
          rintro e w6 ⟨rfl, o6⟩
          rw [← HX.out] at o6
          have HO6 := Lib.hid o6
          clear o6 HC c1
          go_wp2
          go_roundw
          case rel => exact ⟨k + 1, hlt, by go_num, HO6⟩
          case measure => simp [intOf]; omega
        · have hkl : l.take k = l := List.take_of_length_le (by omega)
          rw [hkl] at hT
          have hD := hT.out.box (g := w2.heap.size + 1 + 1 + 1) (o := .deferred (some [])) (by simp)
          go_wp2
          refine ⟨by simp, .inl ⟨_, _, rfl, run_takeDeferred hD, ?_⟩⟩
          refine ⟨.int .i64 0, by simp [results, Tryz.f79, go_sem], ?_⟩
          rw [HF.out]
          refine ⟨rfl, ?_⟩
          have o20 := (hT.out.swap.setBox (upd_put (.deferred none) rfl) (World.putObj_heap_same (lt_of_block hD))).drop
          exact o20.swap.drop.swap.drop.swap.drop.swap.drop
    case stop =>
      rintro c pre W' L' - hf -
      exact hf.elim
  · have HC1 := Lib.hid (Check1_own (opt := -1) (x := h) o (b := b) (A := A) (by simp) HS (chk1n.trans (if_neg hh)))
    have HF : Hid (A.normalize h = (3, A)) := Lib.hid (if_neg hh)
    clear o hI HS hm
    go_enter Tryz.func79, Tryz.ntmps79
    go_wp2_with fail
    refine HC1.out.mono ?_
    rintro e w1 ⟨rfl, o1⟩
    have HO := Lib.hid o1
    clear o1 HC1
    go_wp2
    go_ret
    rw [HF.out]
    exact ⟨rfl, HO.out⟩

end Go.Proofs.YtpicinjcmjaogaaGreat
