/-
  The document's Dump: the same text as the program's.
-/
import Derived.Test.YtnfdcfagdidmhaaGreatDoorQE
import Derived.Test.YtnfdcfagdidmhaaGreatDoorQG
import Derived.Test.YtnfdcfagdidmhaaGreatDoorR4
namespace Go.Proofs.YtnfdcfagdidmhaaGreatDoor
open Go.RowKit
set_option linter.unusedVariables false

theorem pad2 {s : ByteArray} {d : Nat} (h : s = ⟨(List.replicate (2 * d) 32).toArray⟩) : s ++ ⟨#[32, 32]⟩ = ⟨(List.replicate (2 * (d + 1)) 32).toArray⟩ := by
  rw [h]
  apply ByteArray.ext
  rw [show 2 * (d + 1) = 2 * d + 2 by omega, ← List.replicate_append_replicate]
  simp [List.replicate]
theorem bytes_size (l : List UInt8) : (⟨l.toArray⟩ : ByteArray).size = l.length := by
  show l.toArray.size = _
  simp
theorem rline_held (W0 : World) (n : Nd) (kv av : Value) (hA : RAttrs W0 av n.attrs) (hs : (n.name.size ≤ 400 ∧ n.data.size ≤ 400 ∧ n.pub.size ≤ 400 ∧ n.sys.size ≤ 400) ∧ (n.attrs.length ≤ 20 ∧ ∀ a ∈ n.attrs, attrSmall a)) (hsp : 0 ≤ n.space ∧ n.space < 100) (hasp : ∀ a ∈ n.attrs, 0 ≤ a.1 ∧ a.1 < 100) :
    ∃ q : ByteArray, q.size = (lineL n).length ∧ Hid (q = ⟨(lineL n).toArray⟩) ∧ Hid (∀ W, Below W0.heap.size W0 W → Calls Tryz.prog 41 #[.agg (n.cells kv av).toArray] W fun e W' => e = .returned (.string q) ∧ Below W0.heap.size W0 W') := by
  refine ⟨_, bytes_size _, Lib.hid rfl, Lib.hid (fun W hW => (q_RLine n kv av W (hA.below hW) hs hsp hasp).mono ?_)⟩
  rintro e W' ⟨rfl, hB⟩
  exact ⟨rfl, hW.trans (hB.mono hW.size)⟩

/-- What the document's Dump answers. -/
def RDumpC (W0 : World) (b : Nat) (A : Ar) (h : Int) : Prop := ∀ (d : Nat) (s : ByteArray) (W : World), s = ⟨(List.replicate (2 * d) 32).toArray⟩ → Below W0.heap.size W0 W → (A.dump h d).length ≤ 140737488355328 →
  Calls Tryz.prog 10 #[.pointer (some ⟨b, 0, none⟩), .int .i64 h, .string s] W fun e W' => ∃ q : ByteArray, e = .returned (.string q) ∧ q.size = (A.dump h d).length ∧ Hid (q = ⟨(A.dump h d).toArray⟩) ∧ Hid (Below W0.heap.size W0 W')

set_option maxRecDepth 100000 in
set_option maxHeartbeats 8000000 in
theorem rdump_step (W0 : World) (ρ : Nat → Nat) (b : Nat) (A : Ar) (hI : A.Inv) (hA : RMem W0 ρ b A) (h : Int) (hh : A.has h)
    (hs : ((A.get h).name.size ≤ 400 ∧ (A.get h).data.size ≤ 400 ∧ (A.get h).pub.size ≤ 400 ∧ (A.get h).sys.size ≤ 400) ∧ ((A.get h).attrs.length ≤ 20 ∧ ∀ a ∈ (A.get h).attrs, attrSmall a)) (hsp : 0 ≤ (A.get h).space ∧ (A.get h).space < 100) (hasp : ∀ a ∈ (A.get h).attrs, 0 ≤ a.1 ∧ a.1 < 100)
    (hc : (A.get h).contents ≠ 0 → RDumpC W0 b A (A.get h).contents) (hk : ∀ k ∈ (A.get h).kids, RDumpC W0 b A k) : RDumpC W0 b A h := by
  intro d s W hs0 hW hlen
  obtain ⟨nb, c, h0, hm, hcap, hfn, hnb, HH0, hN⟩ := hA.look
  obtain ⟨hp, hq, kv, av, F, hK, hAt⟩ := hN h hh
  have hde := dump_eq hI hh d
  have hll : (lineD (A.get h) d).length = 2 * d + ((lineL (A.get h)).length + 1) := by unfold lineD; simp
  have hd2 : 2 * d + (lineL (A.get h)).length + 1 ≤ (A.dump h d).length := by rw [hde, List.length_append]; omega
  have hss : s.size = 2 * d := by rw [hs0, bytes_size]; simp
  have HPAD := Lib.hid (pad2 hs0)
  have hRA : RAttrs W0 av (A.get h).attrs := hAt.reads
  have hRK : RInts W0 kv (A.get h).kids := hK.reads
  obtain ⟨ql, hql, HQL, HLINE⟩ := rline_held W0 (A.get h) kv av hRA hs hsp hasp
  have HOLD := Lib.hid (fun (w : World) (q : Below W0.heap.size W0 w) (p : Addr) (v : Value) (e : W0.cell? p = some v) => Below.old q e)
  have HKR := Lib.hid (fun (w : World) (q : Below W0.heap.size W0 w) => RInts.below hRK q)
  obtain ⟨ka, kc, rfl, hk1, hk2, -⟩ := hRK.form
  obtain ⟨aa, ac, rfl, -⟩ := hRA.form
  have hkm : (A.get h).kids.length ≤ 9223372036854775807 := Nat.le_trans hk1 hk2
  have HF := Lib.hid (And.intro F (And.intro h0 hs0))
  have e0 := Below.old hW h0
  have HHAS := Lib.hid (HH0 h W e0)
  have hb : decide (A.has h) = true := decide_eq_true hh
  have k0 := Below.old hW F.c0; have k1 := Below.old hW F.c1; have k2 := Below.old hW F.c2; have k3 := Below.old hW F.c3; have k4 := Below.old hW F.c4; have k5 := Below.old hW F.c5; have k6 := Below.old hW F.c6; have k7 := Below.old hW F.c7; have k8 := Below.old hW F.c8; have k9 := Below.old hW F.c9; have k10 := Below.old hW F.c10; have k11 := Below.old hW F.c11; have k12 := Below.old hW F.c12
  have HW := Lib.hid hW
  have HLEN := Lib.hid (And.intro hlen hd2)
  have HDE := Lib.hid hde
  have HLL := Lib.hid hll
  have HC := Lib.hid hc; have HK := Lib.hid hk
  have a1 : ¬ 9223372036854775807 < s.size + ql.size := by omega
  have a2 : ¬ 9223372036854775807 < s.size + ql.size + 1 := by omega
  have a3 : ¬ 9223372036854775807 < s.size + 2 := by omega
  clear hW hlen hde hll hc hk hs hsp hasp hN hs0 hd2 HH0 hfn hK hAt hA F hk1 hk2 hRA hRK hh
  unfold Nd.cells at HLINE
  go_enter Tryz.func10, Tryz.ntmps10
  go_wp2_with fail
  refine HHAS.out.mono ?_
  rintro e w1 ⟨rfl, rfl⟩
  rw [hb]
  go_wp2_with fail
  refine (HLINE.out _ HW.out).mono ?_
  rintro e w1 ⟨rfl, hB1⟩
  have HB1 := Lib.hid hB1
  have g0 := HOLD.out w1 hB1 _ _ h0
  have g11 := HOLD.out w1 hB1 _ _ HF.out.1.c11
  clear hB1 e0 k0 k1 k2 k3 k4 k5 k6 k7 k8 k9 k10 k11 k12 HLINE
  obtain ⟨o1, ho1⟩ : ∃ o1 : ByteArray, o1 = s ++ ql ++ ⟨#[10]⟩ := ⟨_, rfl⟩
  have hz1 : o1.size = (lineD (A.get h) d).length := by
    rw [ho1, HLL.out]; simp only [ByteArray.size_append]
    show s.size + ql.size + 1 = _
    omega
  have HO1 : Hid (o1 = ⟨(lineD (A.get h) d).toArray⟩) := Lib.hid (by
    rw [ho1, HQL.out, HF.out.2.2]
    apply ByteArray.ext
    simp [lineD])
  have HOE := Lib.hid ho1
  clear ho1
  obtain ⟨ct, hct⟩ : ∃ ct, ct = (if (A.get h).contents ≠ 0 then A.dump (A.get h).contents (d + 1) else []) := ⟨_, rfl⟩
  have hde2 : A.dump h d = lineD (A.get h) d ++ (ct ++ (A.get h).kids.flatMap (fun k => A.dump k (d + 1))) := by rw [hct]; exact HDE.out
  have hlen2 : (lineD (A.get h) d).length + (ct.length + ((A.get h).kids.flatMap (fun k => A.dump k (d + 1))).length) ≤ 140737488355328 := by
    have := HLEN.out.1
    rw [hde2] at this; simpa [List.length_append] using this
  have HDE2 := Lib.hid hde2
  have HLEN2 := Lib.hid hlen2
  have HCT := Lib.hid hct
  clear hde2 hlen2 hct HDE
  go_upto_if 32 with fail
  rw [← HOE.out]
  have HZ1 := Lib.hid hz1
  clear hz1 hql hss a1 a2 hb
  go_cut [7, 32] from 32 to 46 (fun o _v wx => ∃ q : ByteArray, o = .string q ∧ q.size = (lineD (A.get h) d).length + ct.length ∧ Hid (q = ⟨(lineD (A.get h) d ++ ct).toArray⟩) ∧ Hid (Below W0.heap.size W0 wx))
  case first =>
    clear hm
    by_cases hz : (A.get h).contents = 0
    case pos =>
      have hze : ((A.get h).contents != 0) = false := by simp [hz]
      have hct0 : ct = [] := HCT.out.trans (if_neg (fun q => q hz))
      have HZ : Hid (o1.size = (lineD (A.get h) d).length + ct.length ∧ o1 = ⟨(lineD (A.get h) d ++ ct).toArray⟩) := Lib.hid (by
        rw [hct0, List.append_nil]; exact ⟨HZ1.out, HO1.out⟩)
      clear hz hct0
      go_wp2
      go_meet
      exact ⟨o1, rfl, HZ.out.1, Lib.hid HZ.out.2, HB1⟩
    case neg =>
      have hze : ((A.get h).contents != 0) = true := by simp [hz]
      have hcte : ct = A.dump (A.get h).contents (d + 1) := HCT.out.trans (if_pos hz)
      have HCC := Lib.hid (HC.out hz (d + 1) _ w1 HPAD.out HB1.out (by rw [← hcte]; have := HLEN2.out; omega))
      have HCTE := Lib.hid hcte
      clear hz hcte
      go_wp2_with fail
      refine HCC.out.mono ?_
      rintro e w6 ⟨q6, rfl, hz6, HQ6, HB6⟩
      rw [← HCTE.out] at hz6 HQ6
      have a4 : ¬ 9223372036854775807 < o1.size + q6.size := by have := HLEN2.out; have := HZ1.out; omega
      clear HCC
      go_wp2
      go_meet
      refine ⟨_, rfl, ?_, ?_, HB6⟩
      · rw [ByteArray.size_append, HZ1.out, hz6]
      · refine Lib.hid ?_
        rw [HO1.out, HQ6.out]
        apply ByteArray.ext
        simp
  case rest =>
  obtain ⟨o2, rfl, hz2, HO2, HB6⟩ := hcut
  obtain ⟨w6, hw⟩ : ∃ W, W = wc := ⟨_, rfl⟩
  subst hw
  clear g0 g11 HO1 HOE HZ1 HC HHAS HCT
  go_wp2_with fail
  go_loopw [7, 8] (fun o i wr => ∃ k : Nat, k ≤ (A.get h).kids.length ∧ i = .int .i64 k ∧ ∃ q : ByteArray, o = .string q ∧ q.size = (lineD (A.get h) d).length + ct.length + (((A.get h).kids.take k).flatMap (fun x => A.dump x (d + 1))).length ∧ Hid (q = ⟨(lineD (A.get h) d ++ ct ++ ((A.get h).kids.take k).flatMap (fun x => A.dump x (d + 1))).toArray⟩) ∧ Hid (Below W0.heap.size W0 wr)) (fun _ i _ => (A.get h).kids.length - (intOf i).toNat)
  case atStart => exact ⟨0, Nat.zero_le _, rfl, o2, rfl, by rw [List.take_zero, List.flatMap_nil]; simpa using hz2, Lib.hid (by rw [List.take_zero, List.flatMap_nil, List.append_nil]; exact HO2.out), HB6⟩
  case round =>
    obtain ⟨k, hkk, rfl, q, rfl, hzq, HQ, HB⟩ := hrel
    have r0 := HOLD.out wr HB.out _ _ HF.out.2.1
    have r2 := HOLD.out wr HB.out _ _ HF.out.1.c2
    by_cases hlt : k < (A.get h).kids.length
    · obtain ⟨b1, o1, rfl, -, hcs⟩ := RInts.cellsQ (HKR.out wr HB.out) (by omega)
      obtain ⟨x, hx⟩ : ∃ x, (A.get h).kids[k]? = some x := ⟨_, List.getElem?_eq_getElem hlt⟩
      have d1 := hcs k x hx
      have hst : ((A.get h).kids.take (k + 1)).flatMap (fun x => A.dump x (d + 1)) = ((A.get h).kids.take k).flatMap (fun x => A.dump x (d + 1)) ++ A.dump x (d + 1) := by
        rw [List.take_add_one, hx]; simp
      have hl2 : (((A.get h).kids.take (k + 1)).flatMap (fun x => A.dump x (d + 1))).length ≤ ((A.get h).kids.flatMap (fun x => A.dump x (d + 1))).length := by
        conv => rhs; rw [← List.take_append_drop (k + 1) (A.get h).kids, List.flatMap_append, List.length_append]
        omega
      rw [hst, List.length_append] at hl2
      have HL2 := Lib.hid hl2
      have HCC := Lib.hid (HK.out x (List.mem_of_getElem? hx) (d + 1) _ wr HPAD.out HB.out (by have := HLEN2.out; omega))
      have HST := Lib.hid hst
      clear hcs hx hst hl2
      go_wp2_with fail
      refine HCC.out.mono ?_
      rintro e w7 ⟨q7, rfl, hz7, HQ7, HB7⟩
      have a5 : ¬ 9223372036854775807 < q.size + q7.size := by have := HLEN2.out; have := HL2.out; omega
      clear HCC
      go_wp2
      refine ⟨⟨k + 1, hlt, by go_num, _, rfl, ?_, ?_, HB7⟩, by simp [intOf]; omega⟩
      · rw [ByteArray.size_append, hzq, hz7, HST.out, List.length_append]; omega
      · refine Lib.hid ?_
        rw [HQ.out, HQ7.out, HST.out]
        apply ByteArray.ext
        simp
    · have hke : (A.get h).kids.take k = (A.get h).kids := List.take_of_length_le (by omega)
      have HQE : Hid (q.size = (A.dump h d).length ∧ q = ⟨(A.dump h d).toArray⟩) := Lib.hid (by
        rw [HDE2.out]
        refine ⟨?_, ?_⟩
        · rw [hzq, hke]; simp only [List.length_append]; omega
        · rw [HQ.out, hke, List.append_assoc])
      clear hke
      go_wp2
      go_ret
      exact ⟨q, rfl, HQE.out.1, Lib.hid HQE.out.2, HB⟩

/-- The document's Dump, for every node or none. -/
theorem q_RDump (w : World) (ρ : Nat → Nat) (b : Nat) (A : Ar) (hI : A.Inv) (hA : RMem w ρ b A)
    (hs : ∀ x, A.has x → ((A.get x).name.size ≤ 400 ∧ (A.get x).data.size ≤ 400 ∧ (A.get x).pub.size ≤ 400 ∧ (A.get x).sys.size ≤ 400) ∧ ((A.get x).attrs.length ≤ 20 ∧ ∀ a ∈ (A.get x).attrs, attrSmall a))
    (hsp : ∀ x, A.has x → (0 ≤ (A.get x).space ∧ (A.get x).space < 100) ∧ ∀ a ∈ (A.get x).attrs, 0 ≤ a.1 ∧ a.1 < 100) (h : Int) (hlen : (A.dump h 0).length ≤ 140737488355328) :
    Calls Tryz.prog 10 #[.pointer (some ⟨b, 0, none⟩), .int .i64 h, .string ⟨#[]⟩] w fun e w' => e = .returned (.string ⟨(A.dump h 0).toArray⟩) ∧ Below w.heap.size w w' := by
  by_cases hh : A.has h
  · have key : ∀ h, A.has h → RDumpC w b A h := walk_ind hI (fun h hh hc hk => rdump_step w ρ b A hI hA h hh (hs h hh) (hsp h hh).1 (hsp h hh).2 hc hk)
    refine (key h hh 0 ⟨#[]⟩ w rfl (Below.refl _ _) hlen).mono ?_
    rintro e w' ⟨q, rfl, -, HQ, HB⟩
    exact ⟨by rw [HQ.out], HB.out⟩
  · obtain ⟨nb, c, h0, hm, hcap, hfn, hnb, HH0, hN⟩ := hA.look
    have HHAS := Lib.hid (HH0 h w h0)
    have hb : decide (A.has h) = false := decide_eq_false hh
    have hd : A.dump h 0 = [] := if_neg hh
    have HDE := Lib.hid hd
    clear hd hh hN HH0
    go_enter Tryz.func10, Tryz.ntmps10
    go_wp2_with fail
    refine HHAS.out.mono ?_
    rintro e w1 ⟨rfl, rfl⟩
    rw [hb]
    go_wp2
    go_ret
    exact ⟨by rw [HDE.out]; rfl, Below.refl _ _⟩
end Go.Proofs.YtnfdcfagdidmhaaGreatDoor
