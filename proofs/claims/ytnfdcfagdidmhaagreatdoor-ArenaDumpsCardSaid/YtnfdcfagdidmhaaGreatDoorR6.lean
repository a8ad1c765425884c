/-
  Contracts of the document's arena: InertOf.
-/
import Derived.Test.YtnfdcfagdidmhaaGreatDoorR5
namespace Go.Proofs.YtnfdcfagdidmhaaGreatDoor
open Go.RowKit
set_option linter.unusedVariables false

theorem inertOf_old {A : Ar} {d : Int} (h : A.inertAt d ≠ 0) : A.inertOf d = (A.inertAt d, A) := by unfold Ar.inertOf; rw [if_pos h]
theorem inertOf_new {A : Ar} {d : Int} (h : A.inertAt d = 0) : A.inertOf d = (A.n + 1, { A.document false with inert := ((A.document false).inert.set d.toNat (A.n + 1)).set (A.n + 1).toNat (A.n + 1) }) := by unfold Ar.inertOf; rw [if_neg (by simp [h])]

set_option maxRecDepth 100000 in
set_option maxHeartbeats 1000000 in
theorem RInertOf_any (A : Ar) (ρ : Nat → Nat) (b : Nat) (d : Int) (w : World) (hA : RMem w ρ b A) (hsmall : A.ns.length ≤ 1000000) (hh : A.has d) :
    Calls Tryz.prog 76 #[.pointer (some ⟨b, 0, none⟩), .int .i64 d] w (RAddR (A.inertOf d).2 ρ b w (.int .i64 (A.inertOf d).1)) := by
  obtain ⟨nb, c, ib, ic, h0, h1, hf, hlt, hm, hc, hic, hnb, hib, -, -, -, -, hI, -, -⟩ := hA.head
  have hp := hh.1; have hq := hh.2; unfold Ar.n at hq
  have e0 := hI d (by omega) hh.2
  by_cases hz : A.inertAt d = 0
  · rw [inertOf_new hz]
    rw [hz] at e0
    have HD := Lib.hid (RDocument_any A ρ b false w hA hsmall)
    have hn1 : (A.document false).ns.length = A.ns.length + 1 := by simp [Ar.document, Ar.add]
    have hn2 : (A.document false).n = A.n + 1 := by simp [Ar.n, hn1]
    have hi1 : (A.document false).inert.length = A.ns.length + 2 := by have := hA.2.2.1; simp [Ar.document, Ar.add, this]
    generalize A.document false = A1 at *
    clear hI hf hA hz
    go_enter Tryz.func76, Tryz.ntmps76
    go_wp2_with fail
    refine HD.out.mono ?_
    rintro e w1 ⟨rfl, ρ1, hA1, hT1⟩
    clear h0 h1 e0
    obtain ⟨nb1, c1, ib1, ic1, g0, g1, gf, glt, gm, gc, gic, gnb, gib, -, gibl, -, gfi, gI, -, -⟩ := hA1.head
    obtain ⟨-, nv, iv, hP⟩ := hA1.part
    have hiv : iv = .slice (some ⟨ib1, 0, none⟩) A1.inert.length ic1 := by
      have := hP.2.2.1
      rw [cell_of_row w1 b _ _ _ _ this] at g1
      simp at g1
      rw [g1, hi1, hn1]
    rw [hiv] at hP
    have hneb : ib1 ≠ b := fun e => by have := hA1.2.1; rw [← e, gib] at this; omega
    obtain ⟨hP2, hT2⟩ := hP.setI (i := d.toNat) (x := A.n + 1)
    rw [show A1.inert.length = (A1.inert.set d.toNat (A.n + 1)).length by simp] at hP2
    obtain ⟨hP3, hT3⟩ := hP2.setI (i := (A.n + 1).toNat) (x := A.n + 1)
    have hM := RPart.mem (A := { A1 with inert := (A1.inert.set d.toNat (A.n + 1)).set (A.n + 1).toNat (A.n + 1) }) (by simpa using hP3) (by simp [hi1, hn1])
    have HF := Lib.hid (And.intro hM ((hT1.trans hT2).trans hT3))
    have x0 := gI d (by omega) (by rw [hn2]; unfold Ar.n; omega)
    have x1 := gI (A.n + 1) (by unfold Ar.n; omega) (by rw [hn2]; omega)
    have hne : (A.n + 1).toNat ≠ d.toNat := by unfold Ar.n; omega
    have y1 : (w1.setCell ⟨ib1, d.toNat, none⟩ (.int .i64 (A.n + 1))).cell? ⟨b, 1, none⟩ = some (.slice (some ⟨ib1, 0, none⟩) (A1.ns.length + 1) ic1) := (World.cell?_setCell_other _ _ _ _ (fun e => hneb (congrArg Addr.block e))).trans g1
    have y2 : (w1.setCell ⟨ib1, d.toNat, none⟩ (.int .i64 (A.n + 1))).cell? ⟨ib1, (A.n + 1).toNat, none⟩ = some (.int .i64 (A1.inertAt (A.n + 1))) := (World.cell?_setCell_other _ _ _ _ (fun e => hne (congrArg Addr.off e).symm)).trans x1
    have yd : (w1.setCell ⟨ib1, d.toNat, none⟩ (.int .i64 (A.n + 1))).cell? ⟨ib1, d.toNat, none⟩ = some (.int .i64 (A.n + 1)) := World.cell?_setCell_same _ _ _ x0
    have z1 : ((w1.setCell ⟨ib1, d.toNat, none⟩ (.int .i64 (A.n + 1))).setCell ⟨ib1, (A.n + 1).toNat, none⟩ (.int .i64 (A.n + 1))).cell? ⟨b, 1, none⟩ = some (.slice (some ⟨ib1, 0, none⟩) (A1.ns.length + 1) ic1) := (World.cell?_setCell_other _ _ _ _ (fun e => hneb (congrArg Addr.block e))).trans y1
    have z2 : ((w1.setCell ⟨ib1, d.toNat, none⟩ (.int .i64 (A.n + 1))).setCell ⟨ib1, (A.n + 1).toNat, none⟩ (.int .i64 (A.n + 1))).cell? ⟨ib1, d.toNat, none⟩ = some (.int .i64 (A.n + 1)) := (World.cell?_setCell_other _ _ _ _ (fun e => hne (congrArg Addr.off e))).trans yd
    have b1 : 0 ≤ A.n + 1 := by unfold Ar.n; omega
    have b2 : A.n + 1 < A1.ns.length + 1 := by unfold Ar.n; omega
    have b3 : d < A1.ns.length + 1 := by omega
    have b4 : 0 ≤ d := by omega
    have f1 := gfi d.toNat
    have f2 : (w1.setCell ⟨ib1, d.toNat, none⟩ (.int .i64 (A.n + 1))).frozen? ⟨ib1, (A.n + 1).toNat, none⟩ = false := by have := gfi (A.n + 1).toNat; simpa using this
    clear hA1 hT1 gI gfi gf hP hP2 hP3 hT2 hT3 hM hn1 hn2 hi1 yd hiv hne g0
    generalize A.n + 1 = i at *
    go_wp2
    go_ret
    exact ⟨rfl, ρ1, HF.out.1, HF.out.2⟩
  · rw [inertOf_old hz]
    have hz1 : (A.inertAt d == 0) = false := by simp [hz]
    have HA := Lib.hid hA
    clear hI hf hA hz
    go_enter Tryz.func76, Tryz.ntmps76
    go_wp2
    go_ret
    exact raddr_same HA.out

end Go.Proofs.YtnfdcfagdidmhaaGreatDoor
