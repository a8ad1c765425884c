/-
  The law ArenaCuts: the walk.
-/
import Derived.Test.YtnfdcfagdidmhaaGreatDoorQV
import Derived.Test.YtnfdcfagdidmhaaGreatDoorQF
import Derived.Test.YtnfdcfagdidmhaaGreatDoorT4
namespace Go.Proofs.YtnfdcfagdidmhaaGreatDoor
open Go.RowKit
set_option linter.unusedVariables false

theorem Kids_ownC {w0 w : World} {B b : Nat} {A : Ar} {l : List Asrt} {h : Int} (o : Own w0 B l w) (hm : Asrt.arena b A ∈ l) (hS : A.Short) {y : List Int} (hy : A.kidsOf h = y) :
    Calls Tryz.prog 15 #[.pointer (some ⟨b, 0, none⟩), .int .i64 h] w fun e w' => ∃ a c, e = .returned (.slice a y.length c) ∧ Own w0 B (.ints (.slice a y.length c) y :: l) w' := by
  subst hy; exact Kids_own o hm hS
theorem Index_ownC {w0 w : World} {B b : Nat} {A : Ar} {l : List Asrt} {h : Int} (o : Own w0 B l w) (hm : Asrt.arena b A ∈ l) (hI : A.Inv) {i : Int} (hi : A.index h = i) :
    Calls Tryz.prog 13 #[.pointer (some ⟨b, 0, none⟩), .int .i64 h] w fun e w' => e = .returned (.int .i64 i) ∧ w = w' := by
  subst hi
  obtain ⟨ρ, hA⟩ := o.arena hm
  exact Index_arena A ρ b h w hA (fun hh hp => (hI.wf.link h hh hp).1)
theorem Parent_ownC {w0 w : World} {B b : Nat} {A : Ar} {l : List Asrt} {h : Int} (o : Own w0 B l w) (hm : Asrt.arena b A ∈ l) {p : Int} (hp : A.parentOf h = p) :
    Calls Tryz.prog 12 #[.pointer (some ⟨b, 0, none⟩), .int .i64 h] w fun e w' => e = .returned (.int .i64 p) ∧ w = w' := by
  subst hp; exact Parent_own o hm
theorem Root_ownC {w0 w : World} {B b : Nat} {A : Ar} {l : List Asrt} {h : Int} (o : Own w0 B l w) (hm : Asrt.arena b A ∈ l) (hI : A.Inv) :
    Calls Tryz.prog 17 #[.pointer (some ⟨b, 0, none⟩), .int .i64 h] w fun e w' => e = .returned (.int .i64 (A.root h)) ∧ Own w0 B l w' := by
  obtain ⟨ρ, hA⟩ := o.arena hm
  refine (Root_all A ρ b h w hA hI.wf).mono ?_
  rintro e w' ⟨rfl, hB⟩
  exact ⟨rfl, o.read hB⟩

set_option maxRecDepth 100000 in
set_option maxHeartbeats 1000000 in
theorem ArenaCuts_big (v : Value) (l : List OpD) (node : Int) (w : World) (hv : ROps w v l) (hs : ¬ smallOps l 150) :
    Calls Tryz.prog 4 #[v, .int .i64 node] w fun e w' => e = .returned (.bool true) ∧ Below w.heap.size w w' := by
  have HS := Lib.hid (Small_any v l 150 w hv)
  have HD := Lib.hid (show decide (smallOps l 150) = false from decide_eq_false hs)
  obtain ⟨av, cv, rfl, -⟩ := hv
  go_enter Tryz.func4, Tryz.ntmps4
  go_wp2_with fail
  refine HS.out.mono ?_
  rintro e w1 ⟨rfl, hB1⟩
  rw [HD.out]
  go_wp2_with fail
  refine (known_any w1).mono ?_
  rintro e w2 ⟨rfl, hB2⟩
  go_wp2
  go_ret
  exact ⟨rfl, hB1.trans (hB2.mono hB1.size)⟩

set_option maxRecDepth 100000 in
set_option maxHeartbeats 4000000 in
theorem ArenaCuts_none (v : Value) (l : List OpD) (node : Int) (w : World) (hv : ROps w v l) (hs : smallOps l 150) (hn : ¬ (runL l).has node) :
    Calls Tryz.prog 4 #[v, .int .i64 node] w fun e w' => e = .returned (.bool true) ∧ Below w.heap.size w w' := by
  have HS := Lib.hid (Small_any v l 150 w hv)
  have HD := Lib.hid (show decide (smallOps l 150) = true from decide_eq_true hs)
  obtain ⟨s1, s2⟩ := smallOps_get hs (by omega)
  obtain ⟨i1, i2⟩ := run_len s2
  have HR := Lib.hid (fun (w0 w1 : World) (B : Nat) (o : Own w0 B [] w1) (hv1 : ROps w1 v l) => Run_own o v l hv1 s1 s2)
  have hN : (runL l).SmallN := run_smallN hs.2
  have hn1 : (runL l).ns.length ≤ 1000 := by have := hs.1; omega
  have o0 := Own.start w
  have HV := Lib.hid hv
  obtain ⟨av, cv, rfl, -⟩ := hv
  clear hs i2
  generalize runL l = A at *
  have HC := Lib.hid (show A.cutCall node = (3, A) from if_neg hn)
  have HPO := Lib.hid (show A.parentOf node = 0 from if_neg hn)
  have HIX := Lib.hid (show A.index node = -1 by unfold Ar.index; rw [if_neg (fun q => hn q.1)])
  obtain ⟨q, hq⟩ : ∃ q : ByteArray, ⟨(A.dump node 0).toArray⟩ = q := ⟨_, rfl⟩
  have HQ := Lib.hid hq
  have HK := Lib.hid (show A.kidsOf 0 = [] by unfold Ar.kidsOf; rw [if_neg (has_zero A)])
  have HI := Lib.hid (And.intro i1 (And.intro hN hn1))
  clear hn hq i1 hN hn1
  go_enter Tryz.func4, Tryz.ntmps4
  go_wp2_with fail
  refine HS.out.mono ?_
  rintro e w1 ⟨rfl, hB1⟩
  rw [HD.out]
  have o1 := o0.read hB1
  clear o0 HS HD
  go_wp2_with fail
  refine (HR.out _ _ _ o1 (HV.out.below hB1)).mono ?_
  rintro e w2 ⟨rfl, o2⟩
  generalize w1.heap.size = b at *
  clear o1 hB1 HV HR
  go_wp2_with fail
  refine (Parent_ownC o2 (b := b) (A := A) (by simp) HPO.out).mono ?_
  rintro e w3 ⟨rfl, rfl⟩
  go_wp2_with fail
  refine (Index_ownC o2 (b := b) (A := A) (by simp) HI.out.1 HIX.out).mono ?_
  rintro e w3 ⟨rfl, rfl⟩
  go_wp2_with fail
  refine (Dump_own o2 (b := b) (A := A) (by simp) HI.out.1 HI.out.2.1 (by have := HI.out.2.2; omega) HQ.out).mono ?_
  rintro e w3 ⟨rfl, o3⟩
  clear o2
  go_wp2_with fail
  refine (Nodes_own o3 (b := b) (A := A) (by simp) (HI.out.1.short (by have := HI.out.2.2; omega))).mono ?_
  rintro e w4 ⟨na, nc, rfl, o4⟩
  clear o3
  go_wp2_with fail
  refine (Kids_ownC o4 (b := b) (A := A) (by simp) (HI.out.1.short (by have := HI.out.2.2; omega)) HK.out).mono ?_
  rintro e w5 ⟨ka, kc, rfl, o5⟩
  clear o4
  have o5 := o5.rot3
  go_wp2_with fail
  refine (o5.callE (fun ρ hA => Cut_any A ρ _ node _ hA HI.out.1.wf) (A2 := A) (v' := .int .i64 3) (by rw [HC.out]) (by rw [HC.out])).mono ?_
  rintro e w6 ⟨rfl, o6⟩
  clear o5
  go_wp2_with fail
  refine (known_any w6).mono ?_
  rintro e w7 ⟨rfl, hB7⟩
  have HB := Lib.hid (o6.back hB7)
  clear o6 hB7
  go_wp2
  go_ret
  exact ⟨rfl, HB.out⟩

set_option maxRecDepth 100000 in
set_option maxHeartbeats 4000000 in
theorem ArenaCuts_root (v : Value) (l : List OpD) (node : Int) (w : World) (hv : ROps w v l) (hs : smallOps l 150) (hn : (runL l).has node) (hp : (runL l).parentOf node = 0) :
    Calls Tryz.prog 4 #[v, .int .i64 node] w fun e w' => e = .returned (.bool true) ∧ Below w.heap.size w w' := by
  have HS := Lib.hid (Small_any v l 150 w hv)
  have HD := Lib.hid (show decide (smallOps l 150) = true from decide_eq_true hs)
  obtain ⟨s1, s2⟩ := smallOps_get hs (by omega)
  obtain ⟨i1, i2⟩ := run_len s2
  have HR := Lib.hid (fun (w0 w1 : World) (B : Nat) (o : Own w0 B [] w1) (hv1 : ROps w1 v l) => Run_own o v l hv1 s1 s2)
  have hN : (runL l).SmallN := run_smallN hs.2
  have hn1 : (runL l).ns.length ≤ 1000 := by have := hs.1; omega
  have o0 := Own.start w
  have HV := Lib.hid hv
  obtain ⟨av, cv, rfl, -⟩ := hv
  clear hs i2
  generalize runL l = A at *
  obtain ⟨A', p, kids, kids', f1, f2, f3, f4, f5, f6, f7, f8, f9, f10, f11, f12, f13⟩ := cuts_facts i1 hn
  have hN' : A'.SmallN := by
    have e : A' = A.cut node := by
      have := congrArg Prod.snd f1
      simpa [Ar.cutCall, hn] using this.symm
    rw [e]; exact hN.cut node
  have hpp : A.parentOf node = p := f4
  have HC := Lib.hid f1
  have HPO := Lib.hid f4
  obtain ⟨q, hq⟩ : ∃ q : ByteArray, ⟨(A.dump node 0).toArray⟩ = q := ⟨_, rfl⟩
  have HQ := Lib.hid hq
  have HK := Lib.hid f8
  have HI := Lib.hid (And.intro i1 (And.intro hN hn1))
  have HI' := Lib.hid (And.intro f2 (And.intro hN' (show A'.ns.length ≤ 1000 by omega)))
  have H2 := Lib.hid (And.intro f5 (And.intro f6 (And.intro (show ⟨(A'.dump node 0).toArray⟩ = q by rw [f7]; exact hq) (And.intro f10 (And.intro f9 (show kids.length ≤ 1000 by omega))))))
  obtain rfl : 0 = p := hp.symm.trans hpp
  obtain ⟨g1, g2, g3⟩ := f12 rfl
  have HIX := Lib.hid g3
  have HNS := Lib.hid g1
  clear hn hp hq i1 hN hn1 hN' hpp f1 f2 f3 f4 f5 f6 f7 f8 f9 f10 f11 f12 f13 g1 g2 g3
  go_enter Tryz.func4, Tryz.ntmps4
  go_wp2_with fail
  refine HS.out.mono ?_
  rintro e w1 ⟨rfl, hB1⟩
  rw [HD.out]
  have o1 := o0.read hB1
  clear o0 HS HD
  go_wp2_with fail
  refine (HR.out _ _ _ o1 (HV.out.below hB1)).mono ?_
  rintro e w2 ⟨rfl, o2⟩
  generalize w1.heap.size = b at *
  clear o1 hB1 HV HR
  go_wp2_with fail
  refine (Parent_ownC o2 (b := b) (A := A) (by simp) HPO.out).mono ?_
  rintro e w3 ⟨rfl, rfl⟩
  go_wp2_with fail
  refine (Index_ownC o2 (b := b) (A := A) (by simp) HI.out.1 HIX.out).mono ?_
  rintro e w3 ⟨rfl, rfl⟩
  go_wp2_with fail
  refine (Dump_own o2 (b := b) (A := A) (by simp) HI.out.1 HI.out.2.1 (by have := HI.out.2.2; omega) HQ.out).mono ?_
  rintro e w3 ⟨rfl, o3⟩
  clear o2
  go_wp2_with fail
  refine (Nodes_own o3 (b := b) (A := A) (by simp) (HI.out.1.short (by have := HI.out.2.2; omega))).mono ?_
  rintro e w4 ⟨na, nc, rfl, o4⟩
  clear o3
  go_wp2_with fail
  refine (Kids_ownC o4 (b := b) (A := A) (by simp) (HI.out.1.short (by have := HI.out.2.2; omega)) HK.out).mono ?_
  rintro e w5 ⟨ka, kc, rfl, o5⟩
  clear o4
  have o5 := o5.rot3
  go_wp2_with fail
  refine (o5.callE (fun ρ hA => Cut_any A ρ _ node _ hA HI.out.1.wf) (A2 := A') (v' := .int .i64 0) (by rw [HC.out]) (by rw [HC.out])).mono ?_
  rintro e w6 ⟨rfl, o6⟩
  clear o5
  go_wp2_with fail
  refine (Parent_ownC o6 (b := b) (A := A') (by simp) H2.out.1).mono ?_
  rintro e w7 ⟨rfl, rfl⟩
  go_wp2_with fail
  refine (Root_ownC o6 (b := b) (A := A') (by simp) HI'.out.1).mono ?_
  rintro e w7 ⟨rfl, o7⟩
  rw [H2.out.2.1]
  clear o6
  go_wp2_with fail
  refine (Dump_own o7 (b := b) (A := A') (by simp) HI'.out.1 HI'.out.2.1 (by have := HI'.out.2.2; omega) H2.out.2.2.1).mono ?_
  rintro e w8 ⟨rfl, o8⟩
  clear o7
  go_wp2_with fail
  refine (Kids_ownC o8 (b := b) (A := A') (by simp) (HI'.out.1.short (by have := HI'.out.2.2; omega)) H2.out.2.2.2.1).mono ?_
  rintro e w9 ⟨k2a, k2c, rfl, o9⟩
  clear o8
  go_wp2_with fail
  refine (Without_own o9 (v := .slice ka kids.length kc) (x := kids) (by simp) (by have := H2.out.2.2.2.2.2; omega) H2.out.2.2.2.2.1).mono ?_
  rintro e w10 ⟨k3a, k3c, rfl, o10⟩
  clear o9
  go_wp2_with fail
  refine (SameInts_own o10 (v1 := .slice k2a kids'.length k2c) (x := kids') (v2 := .slice k3a kids'.length k3c) (y := kids') (by simp) (by simp)).mono ?_
  rintro e w11 ⟨rfl, o11⟩
  rw [show decide (kids' = kids') = true from by simp]
  clear o10
  go_wp2_with fail
  refine (Nodes_own o11 (b := b) (A := A') (by simp) (HI'.out.1.short (by have := HI'.out.2.2; omega))).mono ?_
  rintro e w12 ⟨n2a, n2c, rfl, o12⟩
  clear o11
  go_wp2_with fail
  refine (SameNodes_own o12 (v1 := .slice na A.ns.length nc) (x := A.ns) (v2 := .slice n2a A'.ns.length n2c) (y := A'.ns) (by simp) (by simp)).mono ?_
  rintro e w13 ⟨rfl, o13⟩
  rw [show decide (A.ns = A'.ns) = true from decide_eq_true HNS.out.symm]
  clear o12
  go_wp2_with fail
  refine (known_any w13).mono ?_
  rintro e w14 ⟨rfl, hB14⟩
  have HB := Lib.hid (o13.back hB14)
  clear o13 hB14
  go_wp2
  go_ret
  exact ⟨rfl, HB.out⟩

set_option maxRecDepth 100000 in
set_option maxHeartbeats 4000000 in
theorem ArenaCuts_some (v : Value) (l : List OpD) (node : Int) (w : World) (hv : ROps w v l) (hs : smallOps l 150) (hn : (runL l).has node) (hp : (runL l).parentOf node ≠ 0) :
    Calls Tryz.prog 4 #[v, .int .i64 node] w fun e w' => e = .returned (.bool true) ∧ Below w.heap.size w w' := by
  have HS := Lib.hid (Small_any v l 150 w hv)
  have HD := Lib.hid (show decide (smallOps l 150) = true from decide_eq_true hs)
  obtain ⟨s1, s2⟩ := smallOps_get hs (by omega)
  obtain ⟨i1, i2⟩ := run_len s2
  have HR := Lib.hid (fun (w0 w1 : World) (B : Nat) (o : Own w0 B [] w1) (hv1 : ROps w1 v l) => Run_own o v l hv1 s1 s2)
  have hN : (runL l).SmallN := run_smallN hs.2
  have hn1 : (runL l).ns.length ≤ 1000 := by have := hs.1; omega
  have o0 := Own.start w
  have HV := Lib.hid hv
  obtain ⟨av, cv, rfl, -⟩ := hv
  clear hs i2
  generalize runL l = A at *
  obtain ⟨A', p, kids, kids', f1, f2, f3, f4, f5, f6, f7, f8, f9, f10, f11, f12, f13⟩ := cuts_facts i1 hn
  have hN' : A'.SmallN := by
    have e : A' = A.cut node := by
      have := congrArg Prod.snd f1
      simpa [Ar.cutCall, hn] using this.symm
    rw [e]; exact hN.cut node
  have hpp : A.parentOf node = p := f4
  have HC := Lib.hid f1
  have HPO := Lib.hid f4
  obtain ⟨q, hq⟩ : ∃ q : ByteArray, ⟨(A.dump node 0).toArray⟩ = q := ⟨_, rfl⟩
  have HQ := Lib.hid hq
  have HK := Lib.hid f8
  have HI := Lib.hid (And.intro i1 (And.intro hN hn1))
  have HI' := Lib.hid (And.intro f2 (And.intro hN' (show A'.ns.length ≤ 1000 by omega)))
  have H2 := Lib.hid (And.intro f5 (And.intro f6 (And.intro (show ⟨(A'.dump node 0).toArray⟩ = q by rw [f7]; exact hq) (And.intro f10 (And.intro f9 (show kids.length ≤ 1000 by omega))))))
  have hp0 : p ≠ 0 := fun e => hp (hpp.trans e)
  obtain ⟨i, g1, g2, g3⟩ := f13 hp0
  have HIX := Lib.hid g1
  have HNX := Lib.hid g3
  have hpb : (p == 0) = false := by simp [hp0]
  have hpb' : (p != 0) = true := by simp [hp0]
  have hk1 : kids.length ≤ 1000 := by omega
  have hi1 : (i : Int) < kids.length := by omega
  clear hn hp hp0 hq i1 hN hn1 hN' hpp f1 f2 f3 f4 f5 f6 f7 f8 f9 f10 f11 f12 f13 g1 g3
  go_enter Tryz.func4, Tryz.ntmps4
  go_wp2_with fail
  refine HS.out.mono ?_
  rintro e w1 ⟨rfl, hB1⟩
  rw [HD.out]
  have o1 := o0.read hB1
  clear o0 HS HD
  go_wp2_with fail
  refine (HR.out _ _ _ o1 (HV.out.below hB1)).mono ?_
  rintro e w2 ⟨rfl, o2⟩
  generalize w1.heap.size = b at *
  clear o1 hB1 HV HR
  go_wp2_with fail
  refine (Parent_ownC o2 (b := b) (A := A) (by simp) HPO.out).mono ?_
  rintro e w3 ⟨rfl, rfl⟩
  go_wp2_with fail
  refine (Index_ownC o2 (b := b) (A := A) (by simp) HI.out.1 HIX.out).mono ?_
  rintro e w3 ⟨rfl, rfl⟩
  go_wp2_with fail
  refine (Dump_own o2 (b := b) (A := A) (by simp) HI.out.1 HI.out.2.1 (by have := HI.out.2.2; omega) HQ.out).mono ?_
  rintro e w3 ⟨rfl, o3⟩
  clear o2
  go_wp2_with fail
  refine (Nodes_own o3 (b := b) (A := A) (by simp) (HI.out.1.short (by have := HI.out.2.2; omega))).mono ?_
  rintro e w4 ⟨na, nc, rfl, o4⟩
  clear o3
  go_wp2_with fail
  refine (Kids_ownC o4 (b := b) (A := A) (by simp) (HI.out.1.short (by have := HI.out.2.2; omega)) HK.out).mono ?_
  rintro e w5 ⟨ka, kc, rfl, o5⟩
  clear o4
  have o5 := o5.rot3
  go_wp2_with fail
  refine (o5.callE (fun ρ hA => Cut_any A ρ _ node _ hA HI.out.1.wf) (A2 := A') (v' := .int .i64 0) (by rw [HC.out]) (by rw [HC.out])).mono ?_
  rintro e w6 ⟨rfl, o6⟩
  clear o5
  go_wp2_with fail
  refine (Parent_ownC o6 (b := b) (A := A') (by simp) H2.out.1).mono ?_
  rintro e w7 ⟨rfl, rfl⟩
  go_wp2_with fail
  refine (Root_ownC o6 (b := b) (A := A') (by simp) HI'.out.1).mono ?_
  rintro e w7 ⟨rfl, o7⟩
  rw [H2.out.2.1]
  clear o6
  go_wp2_with fail
  refine (Dump_own o7 (b := b) (A := A') (by simp) HI'.out.1 HI'.out.2.1 (by have := HI'.out.2.2; omega) H2.out.2.2.1).mono ?_
  rintro e w8 ⟨rfl, o8⟩
  clear o7
  go_wp2_with fail
  refine (Kids_ownC o8 (b := b) (A := A') (by simp) (HI'.out.1.short (by have := HI'.out.2.2; omega)) H2.out.2.2.2.1).mono ?_
  rintro e w9 ⟨k2a, k2c, rfl, o9⟩
  clear o8
  go_wp2_with fail
  refine (Without_own o9 (v := .slice ka kids.length kc) (x := kids) (by simp) (by have := H2.out.2.2.2.2.2; omega) H2.out.2.2.2.2.1).mono ?_
  rintro e w10 ⟨k3a, k3c, rfl, o10⟩
  clear o9
  go_wp2_with fail
  refine (SameInts_own o10 (v1 := .slice k2a kids'.length k2c) (x := kids') (v2 := .slice k3a kids'.length k3c) (y := kids') (by simp) (by simp)).mono ?_
  rintro e w11 ⟨rfl, o11⟩
  rw [show decide (kids' = kids') = true from by simp]
  clear o10
  have hsl := (o11.ints (v := .slice ka kids.length kc) (x := kids) (by simp)).form
  obtain ⟨ka', kc', hsl, hl1, hl2, hcell⟩ := hsl
  simp only [Value.slice.injEq] at hsl
  obtain ⟨rfl, -, rfl⟩ := hsl
  obtain ⟨g, oo, rfl, hcell2⟩ := hcell (by omega)
  have o11 := o11.rot3
  obtain ⟨nx, hnx⟩ : ∃ nx, nx = kids[i + 1]?.getD 0 := ⟨_, rfl⟩
  rw [← hnx] at HNX
  have HCALL := Lib.hid (o11.callE (fun ρ hA => Put_any A' ρ _ p node nx _ hA HI'.out.1.wf (by have := HI'.out.2.2; omega)) (A2 := A) (v' := .int .i64 0) (by rw [HNX.out]) (by rw [HNX.out]))
  by_cases hlt : i + 1 < kids.length
  all_goals
    first
      | (have q2 := hcell2 (i + 1) hlt
         rw [← hnx] at q2
         have hlt' : (i : Int) + 1 < kids.length := by omega)
      | (have hlt' : ¬ (i : Int) + 1 < kids.length := by omega
         have hnx0 : nx = 0 := by rw [hnx, List.getElem?_eq_none (by omega)]; rfl
         subst hnx0)
    clear hcell hcell2 hnx hlt
    go_wp2_with fail
    refine HCALL.out.mono ?_
    rintro e w12 ⟨rfl, o12⟩
    clear o11 HCALL
    try clear q2
    go_wp2_with fail
    refine (Nodes_own o12 (b := b) (A := A) (by simp) (HI.out.1.short (by have := HI.out.2.2; omega))).mono ?_
    rintro e w13 ⟨n2a, n2c, rfl, o13⟩
    clear o12
    go_wp2_with fail
    refine (SameNodes_own o13 (v1 := .slice na A.ns.length nc) (x := A.ns) (v2 := .slice n2a A.ns.length n2c) (y := A.ns) (by simp) (by simp)).mono ?_
    rintro e w14 ⟨rfl, o14⟩
    rw [show decide (A.ns = A.ns) = true from by simp]
    clear o13
    go_wp2_with fail
    refine (known_any w14).mono ?_
    rintro e w15 ⟨rfl, hB15⟩
    have HB := Lib.hid (o14.back hB15)
    clear o14 hB15
    go_wp2
    go_ret
    exact ⟨rfl, HB.out⟩

/-- **ArenaCuts: the walk.** -/
theorem ArenaCuts_any (v : Value) (l : List OpD) (node : Int) (w : World) (hv : ROps w v l) :
    Calls Tryz.prog 4 #[v, .int .i64 node] w fun e w' => e = .returned (.bool true) ∧ Below w.heap.size w w' := by
  by_cases hs : smallOps l 150
  · by_cases hn : (runL l).has node
    · by_cases hp : (runL l).parentOf node = 0
      · exact ArenaCuts_root v l node w hv hs hn hp
      · exact ArenaCuts_some v l node w hv hs hn hp
    · exact ArenaCuts_none v l node w hv hs hn
  · exact ArenaCuts_big v l node w hv hs

end Go.Proofs.YtnfdcfagdidmhaaGreatDoor
