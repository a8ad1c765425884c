/-
  The law ArenaSound: the walk.
-/
import Derived.Test.YtnfdcfagdidmhaaAS4
import Derived.Test.YtnfdcfagdidmhaaSR
import Derived.Test.YtnfdcfagdidmhaaL2
namespace Go.Proofs.Ytnfdcfagdidmhaa
open Go.RowKit Classical
set_option linter.unusedVariables false

set_option maxRecDepth 100000 in
set_option maxHeartbeats 1000000 in
theorem ArenaSound_big (v0 : Value) (l : List OpD) (w : World) (hv : ROps w v0 l) (hs : ¬ smallOps l 150) :
    Calls Try.prog 16 #[v0] w fun e w' => e = .returned (.bool true) ∧ Below w.heap.size w w' := by
  have HS := Lib.hid (Small_any v0 l 150 w hv)
  have HD := Lib.hid (show decide (smallOps l 150) = false from decide_eq_false hs)
  obtain ⟨av, cv, rfl, -⟩ := hv
  go_enter Try.func16, Try.ntmps16
  go_wp2_with fail
  refine HS.out.mono ?_
  rintro e w1 ⟨rfl, hB1⟩
  rw [show (decide (smallOps l 150)) = false from decide_eq_false hs]
  go_wp2_with fail
  refine (known_any w1).mono ?_
  rintro e w2 ⟨rfl, hB2⟩
  go_wp2
  go_ret
  exact ⟨rfl, hB1.trans (hB2.mono hB1.size)⟩

set_option maxRecDepth 100000 in
set_option maxHeartbeats 4000000 in
theorem ArenaSound_some (v : Value) (l : List OpD) (w : World) (hv : ROps w v l) (hs : smallOps l 150) :
    Calls Try.prog 16 #[v] w fun e w' => e = .returned (.bool true) ∧ Below w.heap.size w w' := by
  have HS := Lib.hid (Small_any v l 150 w hv)
  have HD := Lib.hid (show decide (smallOps l 150) = true from decide_eq_true hs)
  obtain ⟨s1, s2⟩ := smallOps_get hs (by omega)
  have hll := hs.1
  obtain ⟨i1, i2⟩ := run_len s2
  have HR := Lib.hid (fun (w0 w1 : World) (B : Nat) (o : Own w0 B [] w1) (hv1 : ROps w1 v l) => Run_own o v l hv1 s1 s2)
  have o0 := Own.start w
  have HV := Lib.hid hv
  obtain ⟨av, cv, rfl, -⟩ := hv
  clear hs
  generalize runL l = A at *
  have hlen : A.ns.length ≤ 10000 := by omega
  have HSND := Lib.hid i1.sound
  have HSH := Lib.hid (i1.short (by omega))
  have HAT := Lib.hid (fun x (hx : A.has x) => show (A.get x).attrs.length ≤ 1000000 from Nat.le_trans (i1.loc x hx).at3 (by omega))
  have HATN := Lib.hid (show ∀ n ∈ A.ns, n.attrs.length ≤ 1000000 from fun n hn => (HSH.out.2 n hn).2)
  clear i1 i2 s1 s2
  go_enter Try.func16, Try.ntmps16
  go_wp2_with fail
  refine HS.out.mono ?_
  rintro e w1 ⟨rfl, hB1⟩
  rw [HD.out]
  have o1 := o0.read hB1
  clear o0 HS HD
  go_wp2_with fail
  refine (HR.out _ _ _ o1 (HV.out.below hB1)).mono ?_
  rintro e w2 ⟨rfl, o2⟩
  generalize w1.heap.size = b at *
  clear o1 hB1 HV HR
  go_wp2_with fail
  refine (Nodes_own o2 (b := b) (A := A) (by simp) HSH.out).mono ?_
  rintro e w3 ⟨na, nc, rfl, o3⟩
  have hN := o3.nlist (v := .slice na A.ns.length nc) (ns := A.ns) (by simp)
  have HN := Lib.hid hN
  have HO := Lib.hid o3
  clear o2 o3 hN
  go_wp2_with fail
  refine (ASound_any A (.slice na A.ns.length nc) w3 HN.out (by omega) HAT.out).mono ?_
  rintro e w4 ⟨rfl, hB4⟩
  rw [decide_eq_true HSND.out]
  have HB4 := Lib.hid hB4
  clear hB4
  go_wp2_with fail
  refine (RSound_any A (.slice na A.ns.length nc) w4 (HN.out.below HB4.out) (by omega) HATN.out).mono ?_
  rintro e w5 ⟨rfl, hB5⟩
  rw [decide_eq_true HSND.out]
  have HB5 := Lib.hid (HB4.out.trans (hB5.mono HB4.out.size))
  clear hB5
  go_wp2_with fail
  refine (known_any _).mono ?_
  rintro e w6 ⟨rfl, hB6⟩
  have HB6 := Lib.hid (HB5.out.trans (hB6.mono HB5.out.size))
  clear hB6
  go_wp2
  go_ret
  exact ⟨rfl, HO.out.back HB6.out⟩

theorem ArenaSound_any (v : Value) (l : List OpD) (w : World) (hv : ROps w v l) :
    Calls Try.prog 16 #[v] w fun e w' => e = .returned (.bool true) ∧ Below w.heap.size w w' := by
  by_cases hs : smallOps l 150
  · exact ArenaSound_some v l w hv hs
  · exact ArenaSound_big v l w hv hs

end Go.Proofs.Ytnfdcfagdidmhaa
