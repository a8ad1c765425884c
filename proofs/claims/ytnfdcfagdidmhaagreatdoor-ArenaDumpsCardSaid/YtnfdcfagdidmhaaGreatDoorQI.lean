/-
  The law ArenaDumps: the walk.
-/
import Derived.Test.YtnfdcfagdidmhaaGreatDoorQF
import Derived.Test.YtnfdcfagdidmhaaGreatDoorQH
import Derived.Test.YtnfdcfagdidmhaaGreatDoorPL3
namespace Go.Proofs.YtnfdcfagdidmhaaGreatDoor
open Go.RowKit
set_option linter.unusedVariables false

theorem RDump_own {w0 w : World} {B b : Nat} {A : Ar} {l : List Asrt} {h : Int} (o : Own w0 B l w) (hm : Asrt.refar b A ∈ l) (hI : A.Inv) (hS : A.SmallN) (hn : A.ns.length ≤ 100000) {q : ByteArray} (hq : ⟨(A.dump h 0).toArray⟩ = q) :
    Calls Tryz.prog 10 #[.pointer (some ⟨b, 0, none⟩), .int .i64 h, .string ⟨#[]⟩] w fun e w' => e = .returned (.string q) ∧ Own w0 B l w' := by
  subst hq
  obtain ⟨ρ, hA⟩ := o.refar hm
  refine (q_RDump w ρ b A hI hA (fun x hx => hS.at hx) (spaces_of hI) h (dump_bound hI (line_bound hI hS) hn h 0 (by omega))).mono ?_
  rintro e w' ⟨rfl, hB⟩
  exact ⟨rfl, o.read hB⟩

set_option maxRecDepth 100000 in
set_option maxHeartbeats 1000000 in
theorem ArenaDumps_big (v : Value) (l : List OpD) (h : Int) (w : World) (hv : ROps w v l) (hs : ¬ smallOps l 150) :
    Calls Tryz.prog 3 #[v, .int .i64 h] w fun e w' => e = .returned (.bool true) ∧ Below w.heap.size w w' := by
  have HS := Lib.hid (Small_any v l 150 w hv)
  have HD := Lib.hid (show decide (smallOps l 150) = false from decide_eq_false hs)
  obtain ⟨av, cv, rfl, -⟩ := hv
  go_enter Tryz.func3, Tryz.ntmps3
  go_wp2_with fail
  refine HS.out.mono ?_
  rintro e w1 ⟨rfl, hB1⟩
  rw [HD.out]
  go_wp2_with fail
  refine (known_any w1).mono ?_
  rintro e w2 ⟨rfl, hB2⟩
  go_wp2
  go_ret
  exact ⟨rfl, hB1.trans (hB2.mono hB1.size)⟩

set_option maxRecDepth 100000 in
set_option maxHeartbeats 1000000 in
theorem ArenaDumps_some (v : Value) (l : List OpD) (h : Int) (w : World) (hv : ROps w v l) (hs : smallOps l 150) :
    Calls Tryz.prog 3 #[v, .int .i64 h] w fun e w' => e = .returned (.bool true) ∧ Below w.heap.size w w' := by
  have HS := Lib.hid (Small_any v l 150 w hv)
  have HD := Lib.hid (show decide (smallOps l 150) = true from decide_eq_true hs)
  obtain ⟨s1, s2⟩ := smallOps_get hs (by omega)
  obtain ⟨i1, i2⟩ := run_len s2
  have hn1 : (runL l).ns.length ≤ 1000 := by have := hs.1; omega
  have HV := Lib.hid (fun W (o : Own w w.heap.size [] W) => hv.below o.low)
  have HP := Lib.hid (fun W (o : Own w w.heap.size [] W) => Play_own o v l HV.out s1 s2)
  have HI := Lib.hid (And.intro i1 (And.intro (run_smallN hs.2) hn1))
  have o0 := Own.start w
  obtain ⟨av, cv, rfl, -⟩ := hv
  clear hs HV i1 i2 hn1
  generalize runL l = A at *
  obtain ⟨q, hq⟩ : ∃ q : ByteArray, ⟨(A.dump h 0).toArray⟩ = q := ⟨_, rfl⟩
  have HQ := Lib.hid hq
  clear hq
  go_enter Tryz.func3, Tryz.ntmps3
  go_wp2_with fail
  refine HS.out.mono ?_
  rintro e w1 ⟨rfl, hB1⟩
  rw [HD.out]
  have o1 := o0.read hB1
  clear o0 HS HD hB1
  go_wp2_with fail
  refine (HP.out _ o1).mono ?_
  rintro e w2 ⟨b, c, rfl, o2⟩
  clear o1
  go_wp2_with fail
  refine (Dump_own o2 (b := b) (A := A) (by simp) HI.out.1 HI.out.2.1 (by have := HI.out.2.2; omega) HQ.out).mono ?_
  rintro e w3 ⟨rfl, o3⟩
  clear o2
  go_wp2_with fail
  refine (RDump_own o3 (b := c) (A := A) (by simp) HI.out.1 HI.out.2.1 (by have := HI.out.2.2; omega) HQ.out).mono ?_
  rintro e w4 ⟨rfl, o4⟩
  clear o3
  go_wp2_with fail
  refine (known_any w4).mono ?_
  rintro e w5 ⟨rfl, hB5⟩
  have HB := Lib.hid (o4.back hB5)
  clear o4 hB5
  go_wp2
  go_ret
  exact ⟨rfl, HB.out⟩

/-- **ArenaDumps: the walk.** -/
theorem ArenaDumps_any (v : Value) (l : List OpD) (h : Int) (w : World) (hv : ROps w v l) :
    Calls Tryz.prog 3 #[v, .int .i64 h] w fun e w' => e = .returned (.bool true) ∧ Below w.heap.size w w' := by
  by_cases hs : smallOps l 150
  · exact ArenaDumps_some v l h w hv hs
  · exact ArenaDumps_big v l h w hv hs

end Go.Proofs.YtnfdcfagdidmhaaGreatDoor
