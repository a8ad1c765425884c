/-
  The law ArenaMoves: the walk.
-/
import Derived.Test.YtnfdcfagdidmhaaM1
namespace Go.Proofs.Ytnfdcfagdidmhaa
open Go.RowKit
set_option linter.unusedVariables false

set_option maxRecDepth 100000 in
set_option maxHeartbeats 1000000 in
theorem ArenaMoves_big (v : Value) (l : List OpD) (parent node before : Int) (w : World) (hv : ROps w v l) (hs : ¬ smallOps l 150) :
    Calls Try.prog 9 #[v, .int .i64 parent, .int .i64 node, .int .i64 before] w fun e w' => e = .returned (.bool true) ∧ Below w.heap.size w w' := by
  have HS := Lib.hid (Small_any v l 150 w hv)
  have HD := Lib.hid (show decide (smallOps l 150) = false from decide_eq_false hs)
  obtain ⟨av, cv, rfl, -⟩ := hv
  go_enter Try.func9, Try.ntmps9
  go_wp2_with fail
  refine HS.out.mono ?_
  rintro e w1 ⟨rfl, hB1⟩
  rw [HD.out]
  go_wp2_with fail
  refine (known_any w1).mono ?_
  rintro e w2 ⟨rfl, hB2⟩
  go_wp2
  go_ret
  exact ⟨rfl, hB1.trans (hB2.mono hB1.size)⟩

set_option maxRecDepth 100000 in
set_option maxHeartbeats 1000000 in
theorem ArenaMoves_none (v : Value) (l : List OpD) (parent node before : Int) (w : World) (hv : ROps w v l) (hs : smallOps l 150) (he : ((runL l).put parent node before).1 ≠ 0) :
    Calls Try.prog 9 #[v, .int .i64 parent, .int .i64 node, .int .i64 before] w fun e w' => e = .returned (.bool true) ∧ Below w.heap.size w w' := by
  have HS := Lib.hid (Small_any v l 150 w hv)
  have HD := Lib.hid (show decide (smallOps l 150) = true from decide_eq_true hs)
  obtain ⟨s1, s2⟩ := smallOps_get hs (by omega)
  obtain ⟨i1, i2⟩ := run_len s2
  have HR := Lib.hid (fun (w0 w1 : World) (B : Nat) (o : Own w0 B [] w1) (hv1 : ROps w1 v l) => Run_own o v l hv1 s1 s2)
  have o0 := Own.start w
  have HV := Lib.hid hv
  obtain ⟨av, cv, rfl, -⟩ := hv
  clear hs
  have e2 := put_err he
  obtain ⟨r, hr⟩ : ∃ r, r = ((runL l).put parent node before).1 := ⟨_, rfl⟩
  have e1 : (r != 0) = true := by rw [hr]; simpa using he
  have HP := Lib.hid (show (runL l).put parent node before = (r, runL l) from Prod.ext hr.symm e2)
  have HI := Lib.hid (And.intro i1 i2)
  generalize runL l = A at *
  clear he e2 hr i1 i2
  go_enter Try.func9, Try.ntmps9
  go_wp2_with fail
  refine HS.out.mono ?_
  rintro e w1 ⟨rfl, hB1⟩
  rw [HD.out]
  have o1 := o0.read hB1
  clear o0 HS HD
  go_wp2_with fail
  refine (HR.out _ _ _ o1 (HV.out.below hB1)).mono ?_
  rintro e w2 ⟨rfl, o2⟩
  generalize w1.heap.size = b at *
  clear o1 hB1 HV
  go_wp2_with fail
  refine (Parent_own o2 (b := b) (A := A) (by simp)).mono ?_
  rintro e w3 ⟨rfl, rfl⟩
  go_wp2_with fail
  refine (Kids_own o2 (b := b) (A := A) (by simp) (HI.out.1.short (by have := HI.out.2; omega))).mono ?_
  rintro e w3 ⟨a3, c3, rfl, o3⟩
  clear o2
  go_wp2_with fail
  refine (Kids_own o3 (b := b) (A := A) (by simp) (HI.out.1.short (by have := HI.out.2; omega))).mono ?_
  rintro e w4 ⟨a4, c4, rfl, o4⟩
  clear o3
  have o4 := o4.rot3
  go_wp2_with fail
  refine (o4.callE (fun ρ hA => Put_any A ρ _ parent node before _ hA HI.out.1.wf (by have := HI.out.2; omega)) (A2 := A) (v' := .int .i64 r) (by rw [HP.out]) (by rw [HP.out])).mono ?_
  rintro e w5 ⟨rfl, o5⟩
  clear o4
  go_wp2_with fail
  refine (known_any w5).mono ?_
  rintro e w6 ⟨rfl, hB6⟩
  have HB := Lib.hid (o5.back hB6)
  clear o5 hB6
  go_wp2
  go_ret
  exact ⟨rfl, HB.out⟩

end Go.Proofs.Ytnfdcfagdidmhaa
