/-
  The law ArenaSame.
-/
import Derived.Test.YtnfdcfagdidmhaaRS1
import Derived.Test.YtnfdcfagdidmhaaAS2
import Derived.Test.YtnfdcfagdidmhaaRD
namespace Go.Proofs.Ytnfdcfagdidmhaa
open Go.RowKit Classical
set_option linter.unusedVariables false

theorem Same_own {w0 w : World} {D b c : Nat} {A B : Ar} {l : List Asrt} {h k : Int} {r : Bool} (o : Own w0 D l w) (h1 : Asrt.arena b A ∈ l) (h2 : Asrt.arena c B ∈ l) (hI : A.Inv) (hJ : B.Inv) (hr : decide (AlkP A B h k) = r) :
    Calls Try.prog 55 #[.pointer (some ⟨b, 0, none⟩), .int .i64 h, .pointer (some ⟨c, 0, none⟩), .int .i64 k] w fun e w' => e = .returned (.bool r) ∧ Own w0 D l w' := by
  obtain ⟨ρ, hA⟩ := o.arena h1
  obtain ⟨σ, hB⟩ := o.arena h2
  refine (Same_any A B ρ σ b c hI hJ h k w hA hB).mono ?_
  rintro e w' ⟨rfl, m, rfl⟩
  exact ⟨by rw [hr], o.read (Below.drewN (Below.refl _ _) _)⟩
theorem RSame_own {w0 w : World} {D b c : Nat} {A B : Ar} {l : List Asrt} {h k : Int} {r : Bool} (o : Own w0 D l w) (h1 : Asrt.refar b A ∈ l) (h2 : Asrt.refar c B ∈ l) (hI : A.Inv) (hJ : B.Inv) (hr : decide (AlkP A B h k) = r) :
    Calls Try.prog 56 #[.pointer (some ⟨b, 0, none⟩), .int .i64 h, .pointer (some ⟨c, 0, none⟩), .int .i64 k] w fun e w' => e = .returned (.bool r) ∧ Own w0 D l w' := by
  obtain ⟨ρ, hA⟩ := o.refar h1
  obtain ⟨σ, hB⟩ := o.refar h2
  refine (RSame_any A B ρ σ b c hI hJ h k w hA hB).mono ?_
  rintro e w' ⟨rfl, hB⟩
  exact ⟨by rw [hr], o.read hB⟩

set_option maxRecDepth 100000 in
set_option maxHeartbeats 1000000 in
theorem ArenaSame_no (v0 v1 : Value) (h k : Int) (l m : List OpD) (w : World) (hv : ROps w v0 l) (hv' : ROps w v1 m) (hs : ¬ (smallOps l 80 ∧ smallOps m 80)) :
    Calls Try.prog 13 #[v0, v1, .int .i64 h, .int .i64 k] w fun e w' => e = .returned (.bool true) ∧ Below w.heap.size w w' := by
  have HS := Lib.hid (Small_any v0 l 80 w hv)
  have HS' := Lib.hid (fun W (hB : Below w.heap.size w W) => Small_any v1 m 80 W (hv'.below hB))
  by_cases h1 : smallOps l 80
  · have h2 : ¬ smallOps m 80 := fun q => hs ⟨h1, q⟩
    have HD := Lib.hid (show decide (smallOps l 80) = true from decide_eq_true h1)
    have HD' := Lib.hid (show decide (smallOps m 80) = false from decide_eq_false h2)
    obtain ⟨av, cv, rfl, -⟩ := hv
    obtain ⟨av', cv', rfl, -⟩ := hv'
    clear hs h1 h2
    go_enter Try.func13, Try.ntmps13
    go_wp2_with fail
    refine HS.out.mono ?_
    rintro e w1 ⟨rfl, hB1⟩
    rw [HD.out]
    go_wp2_with fail
    refine (HS'.out _ hB1).mono ?_
    rintro e w2 ⟨rfl, hB2⟩
    rw [HD'.out]
    go_wp2_with fail
    refine (known_any w2).mono ?_
    rintro e w3 ⟨rfl, hB3⟩
    have hX : Below w.heap.size w w3 := (hB1.trans (hB2.mono hB1.size)).trans (hB3.mono (Nat.le_trans hB1.size hB2.size))
    have HX := Lib.hid hX
    clear hB1 hB2 hB3 hX
    go_wp2
    go_ret
    exact ⟨rfl, HX.out⟩
  · have HD := Lib.hid (show decide (smallOps l 80) = false from decide_eq_false h1)
    obtain ⟨av, cv, rfl, -⟩ := hv
    obtain ⟨av', cv', rfl, -⟩ := hv'
    clear hs h1
    go_enter Try.func13, Try.ntmps13
    go_wp2_with fail
    refine HS.out.mono ?_
    rintro e w1 ⟨rfl, hB1⟩
    rw [HD.out]
    go_wp2_with fail
    refine (known_any w1).mono ?_
    rintro e w3 ⟨rfl, hB3⟩
    have HX := Lib.hid (hB1.trans (hB3.mono hB1.size))
    clear hB1 hB3
    go_wp2
    go_ret
    exact ⟨rfl, HX.out⟩

set_option maxRecDepth 100000 in
set_option maxHeartbeats 2000000 in
theorem ArenaSame_some (v0 v1 : Value) (h k : Int) (l m : List OpD) (w : World) (hv : ROps w v0 l) (hv' : ROps w v1 m) (hs : smallOps l 80) (hs' : smallOps m 80) :
    Calls Try.prog 13 #[v0, v1, .int .i64 h, .int .i64 k] w fun e w' => e = .returned (.bool true) ∧ Below w.heap.size w w' := by
  have HS := Lib.hid (Small_any v0 l 80 w hv)
  have HS' := Lib.hid (fun W (hB : Below w.heap.size w W) => Small_any v1 m 80 W (hv'.below hB))
  have HD := Lib.hid (show decide (smallOps l 80) = true from decide_eq_true hs)
  have HD' := Lib.hid (show decide (smallOps m 80) = true from decide_eq_true hs')
  obtain ⟨s1, s2⟩ := smallOps_get hs (by omega)
  obtain ⟨s1', s2'⟩ := smallOps_get hs' (by omega)
  obtain ⟨i1, i2⟩ := run_len s2
  obtain ⟨j1, j2⟩ := run_len s2'
  have HP := Lib.hid (fun W (o : Own w w.heap.size [] W) => Play_own o v0 l (fun W o => hv.below o.low) s1 s2)
  have HP' := Lib.hid (fun W (ll : List Asrt) (o : Own w w.heap.size ll W) => Play_own o v1 m (fun W o => hv'.below o.low) s1' s2')
  have HI := Lib.hid i1
  have HJ := Lib.hid j1
  have o0 := Own.start w
  obtain ⟨av, cv, rfl, -⟩ := hv
  obtain ⟨av', cv', rfl, -⟩ := hv'
  clear hs hs' i1 j1 i2 j2 s1 s2 s1' s2'
  generalize runL l = A at *
  generalize runL m = B at *
  obtain ⟨r, hr⟩ : ∃ r : Bool, decide (AlkP A B h k) = r := ⟨_, rfl⟩
  have hr' : decide (AlkP B A k h) = r := by rw [← hr, decide_eq_decide]; exact AlkP.iff_symm
  obtain ⟨q, hq⟩ : ∃ q : Bool, decide (AlkP A A h k) = q := ⟨_, rfl⟩
  obtain ⟨p, hp⟩ : ∃ p : Bool, decide (AlkP A A h h) = p := ⟨_, rfl⟩
  have hp' : decide (A.has h) = p := by
    rw [← hp, decide_eq_decide]
    exact ⟨fun hh => AlkP.refl HI.out h hh, fun hh => hh.inv.1⟩
  have HR := Lib.hid hr
  have HR' := Lib.hid hr'
  have HQ := Lib.hid hq
  have HP1 := Lib.hid hp
  have HP2 := Lib.hid hp'
  have er : (r == r) = true := by simp
  have eq : (q == q) = true := by simp
  have ep : (p == p) = true := by simp
  clear hr hr' hq hp hp'
  go_enter Try.func13, Try.ntmps13
  go_wp2_with fail
  refine HS.out.mono ?_
  rintro e w1 ⟨rfl, hB1⟩
  rw [HD.out]
  have o1 := o0.read hB1
  clear o0 HS HD
  go_wp2_with fail
  refine (HS'.out _ o1.low).mono ?_
  rintro e w2 ⟨rfl, hB2⟩
  rw [HD'.out]
  have o2 := o1.read hB2
  clear o1 hB1 hB2 HS' HD'
  go_wp2_with fail
  refine (HP.out _ o2).mono ?_
  rintro e w3 ⟨b, c, rfl, o3⟩
  clear o2
  go_wp2_with fail
  refine (HP'.out _ _ o3).mono ?_
  rintro e w4 ⟨b', c', rfl, o4⟩
  clear o3
  go_wp2_with fail
  refine (Same_own o4 (b := b) (c := b') (A := A) (B := B) (by simp) (by simp) HI.out HJ.out HR.out).mono ?_
  rintro e w5 ⟨rfl, o5⟩
  clear o4
  go_wp2_with fail
  refine (RSame_own o5 (b := c) (c := c') (A := A) (B := B) (by simp) (by simp) HI.out HJ.out HR.out).mono ?_
  rintro e w6 ⟨rfl, o6⟩
  clear o5
  go_wp2_with fail
  refine (Same_own o6 (b := b') (c := b) (A := B) (B := A) (by simp) (by simp) HJ.out HI.out HR'.out).mono ?_
  rintro e w7 ⟨rfl, o7⟩
  clear o6
  go_wp2_with fail
  refine (RSame_own o7 (b := c) (c := c') (A := A) (B := B) (by simp) (by simp) HI.out HJ.out HR.out).mono ?_
  rintro e w8 ⟨rfl, o8⟩
  clear o7
  go_wp2_with fail
  refine (Same_own o8 (b := b) (c := b) (A := A) (B := A) (by simp) (by simp) HI.out HI.out HQ.out).mono ?_
  rintro e w9 ⟨rfl, o9⟩
  clear o8
  go_wp2_with fail
  refine (RSame_own o9 (b := c) (c := c) (A := A) (B := A) (by simp) (by simp) HI.out HI.out HQ.out).mono ?_
  rintro e w10 ⟨rfl, o10⟩
  clear o9
  go_wp2_with fail
  refine (Same_own o10 (b := b) (c := b) (A := A) (B := A) (by simp) (by simp) HI.out HI.out HP1.out).mono ?_
  rintro e w11 ⟨rfl, o11⟩
  clear o10
  go_wp2_with fail
  refine (RHas_own o11 (b := c) (A := A) (by simp)).mono ?_
  rintro e w12 ⟨rfl, rfl⟩
  rw [HP2.out]
  go_wp2_with fail
  refine (known_any w11).mono ?_
  rintro e w13 ⟨rfl, hB13⟩
  have HB := Lib.hid (o11.back hB13)
  clear o11 hB13
  go_wp2
  go_ret
  exact ⟨rfl, HB.out⟩

/-- **ArenaSame: the walk.** -/
theorem ArenaSame_any (v0 : Value) (l : List OpD) (v1 : Value) (m : List OpD) (h k : Int) (w : World) (hv : ROps w v0 l) (hv' : ROps w v1 m) :
    Calls Try.prog 13 #[v0, v1, .int .i64 h, .int .i64 k] w fun e w' => e = .returned (.bool true) ∧ Below w.heap.size w w' := by
  by_cases hs : smallOps l 80 ∧ smallOps m 80
  · exact ArenaSame_some v0 v1 h k l m w hv hv' hs.1 hs.2
  · exact ArenaSame_no v0 v1 h k l m w hv hv' hs

end Go.Proofs.Ytnfdcfagdidmhaa
