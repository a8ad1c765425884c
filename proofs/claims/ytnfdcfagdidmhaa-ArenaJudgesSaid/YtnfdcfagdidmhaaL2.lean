/-
  The law ArenaInert: the walk.
-/
import Derived.Test.YtnfdcfagdidmhaaL1
namespace Go.Proofs.Ytnfdcfagdidmhaa
open Go.RowKit
set_option linter.unusedVariables false

theorem beq_false_of {a b : Int} (h : a ≠ b) : (a == b) = false := by simp [h]

/-- The law's first test fails: it answers by 'known'. -/
theorem Own.back {w0 w w' : World} {B : Nat} {l : List Asrt} (h : Own w0 B l w) (hb : Below w.heap.size w w') : Below B w0 w' := h.low.trans (hb.mono h.big)

/-- 'Run' beside other things. -/
theorem Run_own {w0 w : World} {B : Nat} {l : List Asrt} (o : Own w0 B l w) (v : Value) (ops : List OpD) (hv : ROps w v ops) (hlen : ops.length ≤ 1000) (hsm : ∀ x ∈ ops, x.attrs.length ≤ 20) :
    Calls Try.prog 19 #[v] w fun e w' => e = .returned (.pointer (some ⟨w.heap.size, 0, none⟩)) ∧ Own w0 B (.arena w.heap.size (runL ops) :: l) w' := by
  refine (Run_any v ops w hv hlen hsm).mono ?_
  rintro e w' ⟨rfl, h⟩
  exact ⟨rfl, o.fresh h.low (h.get (by simp))⟩

set_option maxRecDepth 100000 in
set_option maxHeartbeats 1000000 in
theorem ArenaInert_big (v : Value) (l : List OpD) (doc : Int) (w : World) (hv : ROps w v l) (hs : ¬ smallOps l 100) :
    Calls Try.prog 3 #[v, .int .i64 doc] w fun e w' => e = .returned (.bool true) ∧ Below w.heap.size w w' := by
  have HS := Lib.hid (Small_any v l 100 w hv)
  have HD := Lib.hid (show decide (smallOps l 100) = false from decide_eq_false hs)
  obtain ⟨av, cv, rfl, -⟩ := hv
  go_enter Try.func3, Try.ntmps3
  go_wp2_with fail
  refine HS.out.mono ?_
  rintro e w1 ⟨rfl, hB1⟩
  rw [HD.out]
  go_wp2_with fail
  refine (known_any w1).mono ?_
  rintro e w2 ⟨rfl, hB2⟩
  go_wp2
  go_ret
  exact ⟨rfl, hB1.trans (hB2.mono hB1.size)⟩

theorem smallOps_get {l : List OpD} {m : Int} (h : smallOps l m) (hm : m ≤ 1000) : l.length ≤ 1000 ∧ ∀ x ∈ l, x.attrs.length ≤ 20 := ⟨by have := h.1; omega, fun x hx => (h.2 x hx).2.2.2.1⟩
theorem run_len {l : List OpD} (h : ∀ x ∈ l, x.attrs.length ≤ 20) : (runL l).Inv ∧ (runL l).ns.length ≤ 3 * l.length := by
  have := run_inv (k := l.length) h (Nat.le_refl _)
  rwa [List.take_length] at this

set_option maxRecDepth 100000 in
set_option maxHeartbeats 1000000 in
theorem ArenaInert_none (v : Value) (l : List OpD) (doc : Int) (w : World) (hv : ROps w v l) (hs : smallOps l 100) (he : (runL l).ofDoc doc ≠ 0) :
    Calls Try.prog 3 #[v, .int .i64 doc] w fun e w' => e = .returned (.bool true) ∧ Below w.heap.size w w' := by
  have HS := Lib.hid (Small_any v l 100 w hv)
  have HD := Lib.hid (show decide (smallOps l 100) = true from decide_eq_true hs)
  obtain ⟨s1, s2⟩ := smallOps_get hs (by omega)
  obtain ⟨i1, i2⟩ := run_len s2
  have e1 : ((runL l).ofDoc doc != 0) = true := by simp [he]
  have hcall : (runL l).inertCall doc = ((0, (runL l).ofDoc doc), runL l) := by simp [Ar.inertCall, he]
  have o0 := Own.start w
  have HV := Lib.hid hv
  obtain ⟨av, cv, rfl, -⟩ := hv
  have HO := Lib.hid (And.intro i1 hcall)
  clear i1 hcall hs
  go_enter Try.func3, Try.ntmps3
  go_wp2_with fail
  refine HS.out.mono ?_
  rintro e w1 ⟨rfl, hB1⟩
  rw [HD.out]
  have o1 := o0.read hB1
  clear o0 HS HD
  go_wp2_with fail
  refine (Run_own o1 _ l (HV.out.below hB1) s1 s2).mono ?_
  rintro e w2 ⟨rfl, o2⟩
  generalize w1.heap.size = b at *
  clear o1 hB1 HV
  go_wp2_with fail
  obtain ⟨ρ2, hA2⟩ := o2.arena (b := b) (A := runL l) (by simp)
  obtain ⟨a2, c2, mv2, h02, -⟩ := hA2.head
  refine (len_any (runL l) _ a2 c2 w2 h02).mono ?_
  rintro e w3 ⟨rfl, rfl⟩
  clear hA2 h02
  go_wp2_with fail
  refine (o2.callE (fun ρ hA => Inert_any (runL l) ρ _ doc _ hA (by omega)) (A2 := runL l) (v' := pairV (0, (runL l).ofDoc doc)) (by rw [HO.out.2]) (by rw [HO.out.2])).mono ?_
  rintro e w3 ⟨rfl, o3⟩
  clear o2
  unfold pairV
  go_wp2_with fail
  refine (known_any w3).mono ?_
  rintro e w4 ⟨rfl, hB4⟩
  have HB := Lib.hid (o3.back hB4)
  clear o3 hB4
  go_wp2
  go_ret
  exact ⟨rfl, HB.out⟩

end Go.Proofs.Ytnfdcfagdidmhaa
