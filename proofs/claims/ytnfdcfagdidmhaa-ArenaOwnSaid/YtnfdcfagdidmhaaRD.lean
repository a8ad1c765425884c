/-
  The law ArenaReads.
-/
import Derived.Test.YtnfdcfagdidmhaaPL3
import Derived.Test.YtnfdcfagdidmhaaV1
import Derived.Test.YtnfdcfagdidmhaaM3
namespace Go.Proofs.Ytnfdcfagdidmhaa
open Go.RowKit
set_option linter.unusedVariables false

set_option maxRecDepth 100000 in
set_option maxHeartbeats 1000000 in
theorem RKids_any (A : Ar) (ρ : Nat → Nat) (b : Nat) (h : Int) (w : World) (hA : RMem w ρ b A) (hS : A.Short) :
    Calls Try.prog 46 #[.pointer (some ⟨b, 0, none⟩), .int .i64 h] w fun e w' => Below w.heap.size w w' ∧ ∃ v', e = .returned v' ∧ w'.ownsRow w.heap.size 3 1 v' (A.kidsOf h).length ((A.kidsOf h).map intv) := by
  obtain ⟨i0, hi, hz0, hz1, hz2⟩ := info_parts infoInt
  obtain ⟨nb, c, h0, hm, hc, hfn, hnb, HH0, hN⟩ := hA.look
  have HH := Lib.hid HH0
  have HI := Lib.hid hi
  clear HH0 hfn hi
  by_cases hh : A.has h
  · have hd2 : decide (A.has h) = true := by simp [hh]
    obtain ⟨hp, hq, kv, av, F, hK, -⟩ := hN h hh
    have c2 := F.c2
    have hfin : A.kidsOf h = (A.get h).kids := if_pos hh
    have hkl := (hS.get hh).1
    rw [hfin]
    generalize (A.get h).kids = ks at *
    have HK := Lib.hid hK.1
    obtain ⟨ka, kc, rfl⟩ := ownsForm hK.1
    clear hfin F hN hh hK hA hS
    go_enter Try.func46, Try.ntmps46
    go_wp2_with fail
    refine (HH.out _ _ h0).mono ?_
    rintro e w' ⟨rfl, rfl⟩
    rw [hd2]
    go_wp2_with (at_builtin; refine wpList_append_copy _ rfl _ _ 32 rfl w.heap.size 3 i0 _ 1 8 Try.underlying32 HI.out hz0 hz1 hz2 rfl (by decide) _ _ _ rfl rfl HK.out (oneInts _) hkl (by omega) (Nat.le_refl _) ?_)
    intro v1 w1 ho1 hg1
    have hB1 : Below w.heap.size w w1 := (Below.refl w.heap.size w).grown hg1 (Nat.le_refl _) (fun k hk => by simp at hk)
    have HO := Lib.hid (And.intro hB1 ho1)
    clear ho1 hg1 hB1
    go_wp2
    go_ret
    exact ⟨HO.out.1, _, rfl, HO.out.2⟩
  · have hd2 : decide (A.has h) = false := by simp [hh]
    have hfin : A.kidsOf h = [] := if_neg hh
    rw [hfin]
    clear hfin hN hh hA hS
    go_enter Try.func46, Try.ntmps46
    go_wp2_with fail
    refine (HH.out _ _ h0).mono ?_
    rintro e w' ⟨rfl, rfl⟩
    rw [hd2]
    go_wp2
    go_ret
    exact ⟨Below.refl _ _, _, rfl, World.ownsRow_nil _ _ _ _⟩

theorem RKids_own {w0 w : World} {B b : Nat} {A : Ar} {l : List Asrt} {h : Int} (o : Own w0 B l w) (hm : Asrt.refar b A ∈ l) (hS : A.Short) :
    Calls Try.prog 46 #[.pointer (some ⟨b, 0, none⟩), .int .i64 h] w fun e w' => ∃ a c, e = .returned (.slice a (A.kidsOf h).length c) ∧ Own w0 B (.ints (.slice a (A.kidsOf h).length c) (A.kidsOf h) :: l) w' := by
  obtain ⟨ρ, hA⟩ := o.refar hm
  refine (RKids_any A ρ b h w hA hS).mono ?_
  rintro e w' ⟨hB, v, rfl, ho⟩
  obtain ⟨a, c, rfl⟩ := ownsForm ho
  exact ⟨a, c, rfl, o.newRow hB ho⟩
theorem RContains_own {w0 w : World} {B b : Nat} {A : Ar} {l : List Asrt} {u h : Int} (o : Own w0 B l w) (hm : Asrt.refar b A ∈ l) (hI : A.Inv) :
    Calls Try.prog 38 #[.pointer (some ⟨b, 0, none⟩), .int .i64 u, .int .i64 h] w fun e w' => e = .returned (.bool (A.contains u h)) ∧ w = w' :=
  let ⟨ρ, hA⟩ := o.refar hm
  RContains_any A ρ b u h w hA hI.wf
theorem RIndex_own {w0 w : World} {B b : Nat} {A : Ar} {l : List Asrt} {h : Int} (o : Own w0 B l w) (hm : Asrt.refar b A ∈ l) (hI : A.Inv) :
    Calls Try.prog 40 #[.pointer (some ⟨b, 0, none⟩), .int .i64 h] w fun e w' => e = .returned (.int .i64 (A.index h)) ∧ Own w0 B l w' := by
  obtain ⟨ρ, hA⟩ := o.refar hm
  refine (RIndex_any A ρ b h w hA hI.wf).mono ?_
  rintro e w' ⟨rfl, hB⟩
  exact ⟨rfl, o.read hB⟩
theorem Root_own {w0 w : World} {B b : Nat} {A : Ar} {l : List Asrt} {h : Int} (o : Own w0 B l w) (hm : Asrt.arena b A ∈ l) (hI : A.Inv) :
    Calls Try.prog 41 #[.pointer (some ⟨b, 0, none⟩), .int .i64 h] w fun e w' => e = .returned (.int .i64 (A.root h)) ∧ Own w0 B l w' := by
  obtain ⟨ρ, hA⟩ := o.arena hm
  refine (Root_all A ρ b h w hA hI.wf).mono ?_
  rintro e w' ⟨rfl, hB⟩
  exact ⟨rfl, o.read hB⟩
theorem RRoot_own {w0 w : World} {B b : Nat} {A : Ar} {l : List Asrt} {h : Int} (o : Own w0 B l w) (hm : Asrt.refar b A ∈ l) (hI : A.Inv) :
    Calls Try.prog 42 #[.pointer (some ⟨b, 0, none⟩), .int .i64 h] w fun e w' => e = .returned (.int .i64 (A.root h)) ∧ w = w' :=
  let ⟨ρ, hA⟩ := o.refar hm
  RRoot_any A ρ b h w hA hI.wf
theorem RParent_own {w0 w : World} {B b : Nat} {A : Ar} {l : List Asrt} {h : Int} (o : Own w0 B l w) (hm : Asrt.refar b A ∈ l) :
    Calls Try.prog 44 #[.pointer (some ⟨b, 0, none⟩), .int .i64 h] w fun e w' => e = .returned (.int .i64 (A.parentOf h)) ∧ w = w' :=
  let ⟨ρ, hA⟩ := o.refar hm
  RParent_any A ρ b h w hA
theorem RHas_own {w0 w : World} {B b : Nat} {A : Ar} {l : List Asrt} {h : Int} (o : Own w0 B l w) (hm : Asrt.refar b A ∈ l) :
    Calls Try.prog 47 #[.pointer (some ⟨b, 0, none⟩), .int .i64 h] w fun e w' => e = .returned (.bool (decide (A.has h))) ∧ w = w' := by
  obtain ⟨ρ, hA⟩ := o.refar hm
  obtain ⟨nb, c, h0, -, -, -, -, HH, -⟩ := hA.look
  exact HH h w h0

/-- The lists of a description. -/
abbrev Asrt.lists (kv av : Value) (n : Nd) : Asrt := .hold (fun w => RInts w kv n.kids ∧ RAttrs w av n.attrs)

theorem Node_full {w0 w : World} {B b : Nat} {A : Ar} {l : List Asrt} {h : Int} {n : Nd} {er : Int} (o : Own w0 B l w) (hm : Asrt.arena b A ∈ l) (hS : A.Short) (hn : (if A.has h then A.get h else zeroNd) = n) (he : (if A.has h then (0 : Int) else 3) = er) :
    Calls Try.prog 22 #[.pointer (some ⟨b, 0, none⟩), .int .i64 h] w fun e w' => ∃ ka kc aa ac, e = .returned (.tuple #[.agg (n.cells (.slice ka n.kids.length kc) (.slice aa n.attrs.length ac)).toArray, .int .i64 er]) ∧ Own w0 B (.lists (.slice ka n.kids.length kc) (.slice aa n.attrs.length ac) n :: l) w' := by
  subst hn
  subst he
  obtain ⟨ρ, hA⟩ := o.arena hm
  refine (Node_any A ρ b h w hA hS).mono ?_
  rintro e w' ⟨hB, kv, av, rfl, h1, h2⟩
  obtain ⟨ka, kc, rfl⟩ := ownsForm h1
  obtain ⟨aa, ac, rfl⟩ := ownsForm h2
  exact ⟨ka, kc, aa, ac, rfl, o.keepNew hB (fun w'' hk => ⟨ints_reads (owns_keep h1 hk), ROwn_attr_reads (owns_keep h2 hk)⟩)⟩

set_option maxRecDepth 100000 in
set_option maxHeartbeats 1000000 in
theorem ArenaReads_big (v0 : Value) (i1 : Int) (i2 : Int) (l : List OpD) (w : World) (hv : ROps w v0 l) (hs : ¬ smallOps l 150) :
    Calls Try.prog 8 #[v0, .int .i64 i1, .int .i64 i2] w fun e w' => e = .returned (.bool true) ∧ Below w.heap.size w w' := by
  have HS := Lib.hid (Small_any v0 l 150 w hv)
  have HD := Lib.hid (show decide (smallOps l 150) = false from decide_eq_false hs)
  obtain ⟨av, cv, rfl, -⟩ := hv
  go_enter Try.func8, Try.ntmps8
  go_wp2_with fail
  refine HS.out.mono ?_
  rintro e w1 ⟨rfl, hB1⟩
  rw [HD.out]
  go_wp2_with fail
  refine (known_any w1).mono ?_
  rintro e w2 ⟨rfl, hB2⟩
  go_wp2
  go_ret
  exact ⟨rfl, hB1.trans (hB2.mono hB1.size)⟩

set_option maxRecDepth 100000 in
set_option maxHeartbeats 4000000 in
theorem ArenaReads_no (v : Value) (h k : Int) (l : List OpD) (w : World) (hv : ROps w v l) (hs : smallOps l 150) (hh : ¬ (runL l).has h) :
    Calls Try.prog 8 #[v, .int .i64 h, .int .i64 k] w fun e w' => e = .returned (.bool true) ∧ Below w.heap.size w w' := by
  have HS := Lib.hid (Small_any v l 150 w hv)
  have HD := Lib.hid (show decide (smallOps l 150) = true from decide_eq_true hs)
  obtain ⟨s1, s2⟩ := smallOps_get hs (by omega)
  obtain ⟨i1, i2⟩ := run_len s2
  have h150 := hs.1
  have HV := Lib.hid (fun W (o : Own w w.heap.size [] W) => hv.below o.low)
  have HP := Lib.hid (fun W (o : Own w w.heap.size [] W) => Play_own o v l HV.out s1 s2)
  have HI := Lib.hid (And.intro i1 (i1.short (show (runL l).ns.length ≤ 1000000 by omega)))
  have o0 := Own.start w
  obtain ⟨av, cv, rfl, -⟩ := hv
  clear hs HV
  generalize runL l = A at *
  obtain ⟨n, hn⟩ : ∃ n, (if A.has h then A.get h else zeroNd) = n := ⟨_, rfl⟩
  have hd : decide (A.has h) = false := by simp [hh]
  have he : (if A.has h then (0 : Int) else 3) = 3 := by simp [hh]
  have HN := Lib.hid (And.intro hn he)
  have HHH := Lib.hid hh
  have HLEN := Lib.hid i2
  clear hn he hh i1 i2
  go_enter Try.func8, Try.ntmps8
  go_wp2_with fail
  refine HS.out.mono ?_
  rintro e w1 ⟨rfl, hB1⟩
  rw [HD.out]
  have o1 := o0.read hB1
  clear o0 HS HD hB1
  go_wp2_with fail
  refine (HP.out _ o1).mono ?_
  rintro e w2 ⟨b, c, rfl, o2⟩
  clear o1
  go_wp2_with fail
  refine (Node_full o2 (b := b) (A := A) (by simp) HI.out.2 HN.out.1 HN.out.2).mono ?_
  rintro e w3 ⟨ka, kc, aa, ac, rfl, o3⟩
  clear o2
  have HT := Lib.hid (nodeBox_facts (w := w3) n ka kc aa ac n.kids.length n.attrs.length)
  have o4 := o3.nodeBox n (.slice ka n.kids.length kc) (.slice aa n.attrs.length ac)
  clear o3
  go_wp2_with ((with_reducible refine wpList_store_mid ?_ 36 (.tmp 10) (.tmp 26) ?_ w3.heap.size 0 (n.cells (.slice ka n.kids.length kc) (.slice aa n.attrs.length ac)).toArray ?_ ?_ ?_ ?_ ?_ ?_); exact rfl; exact rfl; exact rfl; exact rfl; exact HT.out.1; exact sizeNode _ _ _; exact all_oneCell_toArray HT.out.2; generalize hw4 : World.setCells _ _ _ _ = w4 at o4 ⊢; generalize hg3 : w3.heap.size = g3 at o4 ⊢; clear hw4 hg3)
  refine (Contains_own o4 (b := b) (A := A) (by simp) HI.out.1).mono ?_
  rintro e w5 ⟨rfl, o5⟩
  clear o4
  go_wp2_with fail
  refine (RContains_own o5 (b := c) (A := A) (by simp) HI.out.1).mono ?_
  rintro e w6 ⟨rfl, rfl⟩
  have hq1 : (A.contains h k != A.contains h k) = false := by simp
  go_wp2_with fail
  refine (Index_own o5 (b := b) (A := A) (by simp) HI.out.1 (i := A.index h) rfl).mono ?_
  rintro e w6 ⟨rfl, rfl⟩
  go_wp2_with fail
  refine (RIndex_own o5 (b := c) (A := A) (by simp) HI.out.1).mono ?_
  rintro e w6 ⟨rfl, o6⟩
  clear o5
  have hq2 : (A.index h != A.index h) = false := by simp
  go_wp2_with fail
  refine (Root_own o6 (b := b) (A := A) (by simp) HI.out.1).mono ?_
  rintro e w7 ⟨rfl, o7⟩
  clear o6
  go_wp2_with fail
  refine (RRoot_own o7 (b := c) (A := A) (by simp) HI.out.1).mono ?_
  rintro e w8 ⟨rfl, rfl⟩
  have hq3 : (A.root h != A.root h) = false := by simp
  go_wp2_with fail
  refine (Parent_own o7 (b := b) (A := A) (by simp)).mono ?_
  rintro e w8 ⟨rfl, rfl⟩
  go_wp2_with fail
  refine (RParent_own o7 (b := c) (A := A) (by simp)).mono ?_
  rintro e w8 ⟨rfl, rfl⟩
  have hq4 : (A.parentOf h != A.parentOf h) = false := by simp
  go_wp2_with fail
  refine (Kids_own o7 (b := b) (A := A) (by simp) HI.out.2).mono ?_
  rintro e w8 ⟨a8, c8, rfl, o8⟩
  clear o7
  go_wp2_with fail
  refine (RKids_own o8 (b := c) (A := A) (by simp) HI.out.2).mono ?_
  rintro e w9 ⟨a9, c9, rfl, o9⟩
  clear o8
  go_wp2_with fail
  refine (SameInts_own o9 (x := A.kidsOf h) (y := A.kidsOf h) (by simp) (by simp)).mono ?_
  rintro e w10 ⟨rfl, o10⟩
  clear o9
  rw [show decide (A.kidsOf h = A.kidsOf h) = true by simp]
  go_wp2_with fail
  refine (RHas_own o10 (b := c) (A := A) (h := h) (by simp)).mono ?_
  rintro e w11 ⟨rfl, rfl⟩
  rw [hd]
  have bx := o10.box (g := g3) (o := .cells (n.cells (.slice ka n.kids.length kc) (.slice aa n.attrs.length ac)).toArray 36 (0, 0)) (by simp)
  have hls := o10.held (Q := fun w => RInts w (.slice ka n.kids.length kc) n.kids ∧ RAttrs w (.slice aa n.attrs.length ac) n.attrs) (by simp)
  have hc : ∀ (j : Nat) (v : Value), (n.cells (.slice ka n.kids.length kc) (.slice aa n.attrs.length ac))[j]? = some v → w10.cell? ⟨g3, j, none⟩ = some v := fun j v hv => by rw [cell_of_row _ _ _ _ _ _ bx]; simpa using hv
  have y0 := hc 0 _ rfl; have y1 := hc 1 _ rfl; have y2 := hc 2 _ rfl; have y3 := hc 3 _ rfl; have y4 := hc 4 _ rfl; have y5 := hc 5 _ rfl; have y6 := hc 6 _ rfl
  have y7 := hc 7 _ rfl; have y8 := hc 8 _ rfl; have y9 := hc 9 _ rfl; have y10 := hc 10 _ rfl; have y11 := hc 11 _ rfl; have y12 := hc 12 _ rfl
  have HLS := Lib.hid hls
  clear hc bx hls
  have hz : n = zeroNd := by rw [← HN.out.1, if_neg HHH.out]
  have HSN := Lib.hid (SameNode_any n zeroNd (.slice ka n.kids.length kc) (.slice aa n.attrs.length ac) (.slice none 0 0) (.slice none 0 0) w10 HLS.out.1 (ints_reads (World.ownsRow_nil w10 0 _ _)) HLS.out.2 (ROwn_attr_reads (World.ownsRow_nil w10 0 _ _)))
  have HZ := Lib.hid hz
  clear hz
  have HO10 := Lib.hid o10
  clear o10
  unfold Nd.cells at HSN
  go_wp2_with fail
  refine HSN.out.mono ?_
  rintro e w12 ⟨rfl, hB12⟩
  rw [show decide (n = zeroNd) = true from decide_eq_true HZ.out]
  have o12 := HO10.out.read hB12
  clear hB12 y0 y1 y2 y3 y4 y5 y6 y7 y8 y9 y10 y11 y12
  go_wp2_with fail
  refine (known_any w12).mono ?_
  rintro e w13 ⟨rfl, hB13⟩
  have HB := Lib.hid (o12.back hB13)
  clear o12 hB13
  go_wp2
  go_ret
  exact ⟨rfl, HB.out⟩

set_option maxRecDepth 100000 in
set_option maxHeartbeats 4000000 in
theorem ArenaReads_has (v : Value) (h k : Int) (l : List OpD) (w : World) (hv : ROps w v l) (hs : smallOps l 150) (hh : (runL l).has h) :
    Calls Try.prog 8 #[v, .int .i64 h, .int .i64 k] w fun e w' => e = .returned (.bool true) ∧ Below w.heap.size w w' := by
  have HS := Lib.hid (Small_any v l 150 w hv)
  have HD := Lib.hid (show decide (smallOps l 150) = true from decide_eq_true hs)
  obtain ⟨s1, s2⟩ := smallOps_get hs (by omega)
  obtain ⟨i1, i2⟩ := run_len s2
  have h150 := hs.1
  have HV := Lib.hid (fun W (o : Own w w.heap.size [] W) => hv.below o.low)
  have HP := Lib.hid (fun W (o : Own w w.heap.size [] W) => Play_own o v l HV.out s1 s2)
  have HI := Lib.hid (And.intro i1 (i1.short (show (runL l).ns.length ≤ 1000000 by omega)))
  have o0 := Own.start w
  obtain ⟨av, cv, rfl, -⟩ := hv
  clear hs HV
  generalize runL l = A at *
  obtain ⟨n, hn⟩ : ∃ n, (if A.has h then A.get h else zeroNd) = n := ⟨_, rfl⟩
  have hd : decide (A.has h) = true := by simp [hh]
  have he : (if A.has h then (0 : Int) else 3) = 0 := by simp [hh]
  have HN := Lib.hid (And.intro hn he)
  have HHH := Lib.hid hh
  have HLEN := Lib.hid i2
  clear hn he hh i1 i2
  go_enter Try.func8, Try.ntmps8
  go_wp2_with fail
  refine HS.out.mono ?_
  rintro e w1 ⟨rfl, hB1⟩
  rw [HD.out]
  have o1 := o0.read hB1
  clear o0 HS HD hB1
  go_wp2_with fail
  refine (HP.out _ o1).mono ?_
  rintro e w2 ⟨b, c, rfl, o2⟩
  clear o1
  go_wp2_with fail
  refine (Node_full o2 (b := b) (A := A) (by simp) HI.out.2 HN.out.1 HN.out.2).mono ?_
  rintro e w3 ⟨ka, kc, aa, ac, rfl, o3⟩
  clear o2
  have HT := Lib.hid (nodeBox_facts (w := w3) n ka kc aa ac n.kids.length n.attrs.length)
  have o4 := o3.nodeBox n (.slice ka n.kids.length kc) (.slice aa n.attrs.length ac)
  clear o3
  go_wp2_with ((with_reducible refine wpList_store_mid ?_ 36 (.tmp 10) (.tmp 26) ?_ w3.heap.size 0 (n.cells (.slice ka n.kids.length kc) (.slice aa n.attrs.length ac)).toArray ?_ ?_ ?_ ?_ ?_ ?_); exact rfl; exact rfl; exact rfl; exact rfl; exact HT.out.1; exact sizeNode _ _ _; exact all_oneCell_toArray HT.out.2; generalize hw4 : World.setCells _ _ _ _ = w4 at o4 ⊢; generalize hg3 : w3.heap.size = g3 at o4 ⊢; clear hw4 hg3)
  refine (Contains_own o4 (b := b) (A := A) (by simp) HI.out.1).mono ?_
  rintro e w5 ⟨rfl, o5⟩
  clear o4
  go_wp2_with fail
  refine (RContains_own o5 (b := c) (A := A) (by simp) HI.out.1).mono ?_
  rintro e w6 ⟨rfl, rfl⟩
  have hq1 : (A.contains h k != A.contains h k) = false := by simp
  go_wp2_with fail
  refine (Index_own o5 (b := b) (A := A) (by simp) HI.out.1 (i := A.index h) rfl).mono ?_
  rintro e w6 ⟨rfl, rfl⟩
  go_wp2_with fail
  refine (RIndex_own o5 (b := c) (A := A) (by simp) HI.out.1).mono ?_
  rintro e w6 ⟨rfl, o6⟩
  clear o5
  have hq2 : (A.index h != A.index h) = false := by simp
  go_wp2_with fail
  refine (Root_own o6 (b := b) (A := A) (by simp) HI.out.1).mono ?_
  rintro e w7 ⟨rfl, o7⟩
  clear o6
  go_wp2_with fail
  refine (RRoot_own o7 (b := c) (A := A) (by simp) HI.out.1).mono ?_
  rintro e w8 ⟨rfl, rfl⟩
  have hq3 : (A.root h != A.root h) = false := by simp
  go_wp2_with fail
  refine (Parent_own o7 (b := b) (A := A) (by simp)).mono ?_
  rintro e w8 ⟨rfl, rfl⟩
  go_wp2_with fail
  refine (RParent_own o7 (b := c) (A := A) (by simp)).mono ?_
  rintro e w8 ⟨rfl, rfl⟩
  have hq4 : (A.parentOf h != A.parentOf h) = false := by simp
  go_wp2_with fail
  refine (Kids_own o7 (b := b) (A := A) (by simp) HI.out.2).mono ?_
  rintro e w8 ⟨a8, c8, rfl, o8⟩
  clear o7
  go_wp2_with fail
  refine (RKids_own o8 (b := c) (A := A) (by simp) HI.out.2).mono ?_
  rintro e w9 ⟨a9, c9, rfl, o9⟩
  clear o8
  go_wp2_with fail
  refine (SameInts_own o9 (x := A.kidsOf h) (y := A.kidsOf h) (by simp) (by simp)).mono ?_
  rintro e w10 ⟨rfl, o10⟩
  clear o9
  rw [show decide (A.kidsOf h = A.kidsOf h) = true by simp]
  go_wp2_with fail
  refine (RHas_own o10 (b := c) (A := A) (h := h) (by simp)).mono ?_
  rintro e w11 ⟨rfl, rfl⟩
  rw [hd]
  have bx := o10.box (g := g3) (o := .cells (n.cells (.slice ka n.kids.length kc) (.slice aa n.attrs.length ac)).toArray 36 (0, 0)) (by simp)
  have hls := o10.held (Q := fun w => RInts w (.slice ka n.kids.length kc) n.kids ∧ RAttrs w (.slice aa n.attrs.length ac) n.attrs) (by simp)
  have hc : ∀ (j : Nat) (v : Value), (n.cells (.slice ka n.kids.length kc) (.slice aa n.attrs.length ac))[j]? = some v → w10.cell? ⟨g3, j, none⟩ = some v := fun j v hv => by rw [cell_of_row _ _ _ _ _ _ bx]; simpa using hv
  have y0 := hc 0 _ rfl; have y1 := hc 1 _ rfl; have y2 := hc 2 _ rfl; have y3 := hc 3 _ rfl; have y4 := hc 4 _ rfl; have y5 := hc 5 _ rfl; have y6 := hc 6 _ rfl
  have y7 := hc 7 _ rfl; have y8 := hc 8 _ rfl; have y9 := hc 9 _ rfl; have y10 := hc 10 _ rfl; have y11 := hc 11 _ rfl; have y12 := hc 12 _ rfl
  have HLS := Lib.hid hls
  clear hc bx hls
  have hgn : A.get h = n := by rw [← HN.out.1, if_pos HHH.out]
  obtain ⟨ρ, hR⟩ := o10.refar (b := c) (A := A) (by simp)
  obtain ⟨nb, cc, h0, hm, hcc, hfn, hnb, -, hNN⟩ := hR.look
  obtain ⟨hp, hq, kvr, avr, F, hKr, hAr⟩ := hNN h HHH.out
  rw [hgn] at F hKr hAr
  have d0 := F.c0; have d1 := F.c1; have d2 := F.c2; have d3 := F.c3; have d4 := F.c4; have d5 := F.c5; have d6 := F.c6
  have d7 := F.c7; have d8 := F.c8; have d9 := F.c9; have d10 := F.c10; have d11 := F.c11; have d12 := F.c12
  have HSN := Lib.hid (fun W (hW : Below w10.heap.size w10 W) => SameNode_any n n (.slice ka n.kids.length kc) (.slice aa n.attrs.length ac) kvr avr W (RInts.below HLS.out.1 hW) (RInts.below hKr.reads hW) (RAttrs.below HLS.out.2 hW) (RAttrs.below hAr.reads hW) |>.mono (fun e w' (hh : e = .returned (.bool (decide (n = n))) ∧ Below W.heap.size W w') => show e = .returned (.bool true) ∧ Below W.heap.size W w' from ⟨by rw [hh.1]; simp, hh.2⟩))
  have hx0 : (0 : Int) ≤ h := by omega
  have hx1 : h < ((A.ns.length + 1 : Nat) : Int) := by omega
  have hx2 : h < (A.ns.length : Int) + 1 := by omega
  have HO10 := Lib.hid o10
  clear o10 hR hNN F hKr hAr hgn hfn
  unfold Nd.cells at HSN
  go_wp2
  go_region_with (first
    | (refine (HSN.out _ (Below.drewN (Below.refl _ _) _)).mono ?_; rintro e w12 ⟨rfl, hB12⟩; have o12 := HO10.out.read ((Below.drewN (Below.refl w10.heap.size w10) _).trans (hB12.mono (by simp))))
    | (refine (known_any w12).mono ?_; rintro e w13 ⟨rfl, hB13⟩; have HB := Lib.hid (o12.back hB13)))
  all_goals
    go_wp2
    go_ret
    exact ⟨rfl, HB.out⟩

/-- **ArenaReads: the walk.** -/
theorem ArenaReads_any (v : Value) (l : List OpD) (h k : Int) (w : World) (hv : ROps w v l) :
    Calls Try.prog 8 #[v, .int .i64 h, .int .i64 k] w fun e w' => e = .returned (.bool true) ∧ Below w.heap.size w w' := by
  by_cases hs : smallOps l 150
  · by_cases hh : (runL l).has h
    · exact ArenaReads_has v h k l w hv hs hh
    · exact ArenaReads_no v h k l w hv hs hh
  · exact ArenaReads_big v h k l w hv hs

end Go.Proofs.Ytnfdcfagdidmhaa
