/-
  The law ArenaPlays.
-/
import Derived.Test.YtnfdcfagdidmhaaPL1
import Derived.Test.YtnfdcfagdidmhaaPL2
import Derived.Test.YtnfdcfagdidmhaaT4
namespace Go.Proofs.Ytnfdcfagdidmhaa
open Go.RowKit
set_option linter.unusedVariables false

theorem RNodes_own {w0 w : World} {B b : Nat} {A : Ar} {l : List Asrt} (o : Own w0 B l w) (hm : Asrt.refar b A ∈ l) (hS : A.Short) :
    Calls Try.prog 76 #[.pointer (some ⟨b, 0, none⟩)] w fun e w' => ∃ a c, e = .returned (.slice a A.ns.length c) ∧ Own w0 B (.nlist (.slice a A.ns.length c) A.ns :: l) w' := by
  obtain ⟨ρ, hA⟩ := o.refar hm
  refine (RNodes_any A ρ b w hA hS).mono ?_
  rintro e w' ⟨hB, a, c, rfl, hN⟩
  exact ⟨a, c, rfl, o.keepNew hB (fun w'' hk => ⟨_, hN.keep hk⟩)⟩
theorem RLen_own {w0 w : World} {B b : Nat} {A : Ar} {l : List Asrt} (o : Own w0 B l w) (hm : Asrt.refar b A ∈ l) :
    Calls Try.prog 75 #[.pointer (some ⟨b, 0, none⟩)] w fun e w' => e = .returned (.int .i64 A.ns.length) ∧ w = w' := by
  obtain ⟨ρ, hA⟩ := o.refar hm
  obtain ⟨nb, c, h0, hm, -⟩ := hA.look
  exact RLen_any A b _ c w h0 hm

set_option maxRecDepth 100000 in
set_option maxHeartbeats 1000000 in
theorem Matches_own {w0 w : World} {B b c : Nat} {A : Ar} {l : List Asrt} (o : Own w0 B l w) (h1 : Asrt.arena b A ∈ l) (h2 : Asrt.refar c A ∈ l) (hS : A.Short) :
    Calls Try.prog 25 #[.pointer (some ⟨b, 0, none⟩), .pointer (some ⟨c, 0, none⟩)] w fun e w' => e = .returned (.bool true) ∧ Own w0 B l w' := by
  go_enter Try.func25, Try.ntmps25
  go_wp2_with fail
  refine (Len_own o (b := b) (A := A) h1).mono ?_
  rintro e w1 ⟨rfl, rfl⟩
  go_wp2_with fail
  refine (RLen_own o (b := c) (A := A) h2).mono ?_
  rintro e w1 ⟨rfl, rfl⟩
  have hnn : ((A.ns.length : Int) == A.ns.length) = true := by simp
  go_wp2_with fail
  refine (Nodes_own o (b := b) (A := A) h1 hS).mono ?_
  rintro e w2 ⟨a2, c2, rfl, o2⟩
  go_wp2_with fail
  refine (RNodes_own o2 (b := c) (A := A) (by simp [h2]) hS).mono ?_
  rintro e w3 ⟨a3, c3, rfl, o3⟩
  go_wp2_with fail
  refine (SameNodes_own o3 (x := A.ns) (y := A.ns) (by simp) (by simp)).mono ?_
  rintro e w4 ⟨rfl, o4⟩
  have hd : decide (A.ns = A.ns) = true := by simp
  rw [hd]
  have HO := Lib.hid o4.drop.drop
  clear o o2 o3 o4 hd
  go_wp2
  go_ret
  exact ⟨rfl, HO.out⟩

set_option maxRecDepth 100000 in
set_option maxHeartbeats 1000000 in
theorem ArenaPlays_big (v0 : Value) (l : List OpD) (w : World) (hv : ROps w v0 l) (hs : ¬ smallOps l 150) :
    Calls Try.prog 4 #[v0] w fun e w' => e = .returned (.bool true) ∧ Below w.heap.size w w' := by
  have HS := Lib.hid (Small_any v0 l 150 w hv)
  have HD := Lib.hid (show decide (smallOps l 150) = false from decide_eq_false hs)
  obtain ⟨av, cv, rfl, -⟩ := hv
  go_enter Try.func4, Try.ntmps4
  go_wp2_with fail
  refine HS.out.mono ?_
  rintro e w1 ⟨rfl, hB1⟩
  rw [HD.out]
  go_wp2_with fail
  refine (known_any w1).mono ?_
  rintro e w2 ⟨rfl, hB2⟩
  go_wp2
  go_ret
  exact ⟨rfl, hB1.trans (hB2.mono hB1.size)⟩

set_option maxRecDepth 100000 in
set_option maxHeartbeats 1000000 in
theorem ArenaPlays_some (v : Value) (l : List OpD) (w : World) (hv : ROps w v l) (hs : smallOps l 150) :
    Calls Try.prog 4 #[v] w fun e w' => e = .returned (.bool true) ∧ Below w.heap.size w w' := by
  have HS := Lib.hid (Small_any v l 150 w hv)
  have HD := Lib.hid (show decide (smallOps l 150) = true from decide_eq_true hs)
  obtain ⟨s1, s2⟩ := smallOps_get hs (by omega)
  obtain ⟨i1, i2⟩ := run_len s2
  have h150 := hs.1
  have HV := Lib.hid (fun W (o : Own w w.heap.size [] W) => hv.below o.low)
  have HP := Lib.hid (fun W (o : Own w w.heap.size [] W) => Play_own o v l HV.out s1 s2)
  have HI := Lib.hid (i1.short (show (runL l).ns.length ≤ 1000000 by omega))
  have o0 := Own.start w
  obtain ⟨av, cv, rfl, -⟩ := hv
  clear hs HV
  generalize runL l = A at *
  go_enter Try.func4, Try.ntmps4
  go_wp2_with fail
  refine HS.out.mono ?_
  rintro e w1 ⟨rfl, hB1⟩
  rw [HD.out]
  have o1 := o0.read hB1
  clear o0 HS HD hB1
  go_wp2_with fail
  refine (HP.out _ o1).mono ?_
  rintro e w2 ⟨b, c, rfl, o2⟩
  clear o1
  go_wp2_with fail
  refine (Matches_own o2 (b := b) (c := c) (A := A) (by simp) (by simp) HI.out).mono ?_
  rintro e w3 ⟨rfl, o3⟩
  clear o2
  go_wp2_with fail
  refine (known_any w3).mono ?_
  rintro e w4 ⟨rfl, hB4⟩
  have HB := Lib.hid (o3.back hB4)
  clear o3 hB4
  go_wp2
  go_ret
  exact ⟨rfl, HB.out⟩

/-- **ArenaPlays: the walk.** -/
theorem ArenaPlays_any (v : Value) (l : List OpD) (w : World) (hv : ROps w v l) :
    Calls Try.prog 4 #[v] w fun e w' => e = .returned (.bool true) ∧ Below w.heap.size w w' := by
  by_cases hs : smallOps l 150
  · exact ArenaPlays_some v l w hv hs
  · exact ArenaPlays_big v l w hv hs

end Go.Proofs.Ytnfdcfagdidmhaa
