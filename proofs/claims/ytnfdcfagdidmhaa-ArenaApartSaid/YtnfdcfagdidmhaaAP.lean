/-
  The law ArenaApart.
-/
import Derived.Test.YtnfdcfagdidmhaaRCY
import Derived.Test.YtnfdcfagdidmhaaST
namespace Go.Proofs.Ytnfdcfagdidmhaa
open Go.RowKit Classical
set_option linter.unusedVariables false

theorem RCopy_own {w0 w : World} {B b : Nat} {A : Ar} {l : List Asrt} (o : Own w0 B l w) (hm : Asrt.refar b A ∈ l) (hS : A.Short) (hs : A.ns.length ≤ 100000) :
    Calls Try.prog 61 #[.pointer (some ⟨b, 0, none⟩)] w fun e w' => ∃ bo, e = .returned (.pointer (some ⟨bo, 0, none⟩)) ∧ Own w0 B (.refar bo A :: l) w' := by
  obtain ⟨ρ, hA⟩ := o.refar hm
  refine (RCopy_any A ρ b w hA hS hs).mono ?_
  rintro e w' ⟨hB, bo, σ, rfl, hC, hσ⟩
  exact ⟨bo, rfl, o.fresh hB ⟨fun k => σ k ≠ 0, ⟨σ, hC, fun _ => Iff.rfl⟩, fun k hk => hσ k hk⟩⟩
theorem REqual_own {w0 w : World} {D b c : Nat} {A B : Ar} {l : List Asrt} {r : Bool} (o : Own w0 D l w) (h1 : Asrt.refar b A ∈ l) (h2 : Asrt.refar c B ∈ l) (hS : A.Short) (hS' : B.Short) (hr : decide (A = B) = r) :
    Calls Try.prog 63 #[.pointer (some ⟨b, 0, none⟩), .pointer (some ⟨c, 0, none⟩)] w fun e w' => e = .returned (.bool r) ∧ Own w0 D l w' := by
  obtain ⟨ρ, hA⟩ := o.refar h1
  obtain ⟨σ, hB⟩ := o.refar h2
  refine (REqual_any A B ρ σ b c w hA hB hS hS').mono ?_
  rintro e w' ⟨rfl, hB⟩
  exact ⟨by rw [hr], o.read hB⟩

set_option maxRecDepth 100000 in
set_option maxHeartbeats 1000000 in
theorem ArenaApart_no (v0 v1 : Value) (l m : List OpD) (w : World) (hv : ROps w v0 l) (hv' : ROps w v1 m) (hs : ¬ (smallOps l 100 ∧ smallOps m 50)) :
    Calls Try.prog 15 #[v0, v1] w fun e w' => e = .returned (.bool true) ∧ Below w.heap.size w w' := by
  have HS := Lib.hid (Small_any v0 l 100 w hv)
  have HS' := Lib.hid (fun W (hB : Below w.heap.size w W) => Small_any v1 m 50 W (hv'.below hB))
  by_cases h1 : smallOps l 100
  · have h2 : ¬ smallOps m 50 := fun q => hs ⟨h1, q⟩
    have HD := Lib.hid (show decide (smallOps l 100) = true from decide_eq_true h1)
    have HD' := Lib.hid (show decide (smallOps m 50) = false from decide_eq_false h2)
    obtain ⟨av, cv, rfl, -⟩ := hv
    obtain ⟨av', cv', rfl, -⟩ := hv'
    clear hs h1 h2
    go_enter Try.func15, Try.ntmps15
    go_wp2_with fail
    refine HS.out.mono ?_
    rintro e w1 ⟨rfl, hB1⟩
    rw [HD.out]
    go_wp2_with fail
    refine (HS'.out _ hB1).mono ?_
    rintro e w2 ⟨rfl, hB2⟩
    rw [HD'.out]
    go_wp2_with fail
    refine (known_any w2).mono ?_
    rintro e w3 ⟨rfl, hB3⟩
    have hX : Below w.heap.size w w3 := (hB1.trans (hB2.mono hB1.size)).trans (hB3.mono (Nat.le_trans hB1.size hB2.size))
    have HX := Lib.hid hX
    clear hB1 hB2 hB3 hX
    go_wp2
    go_ret
    exact ⟨rfl, HX.out⟩
  · have HD := Lib.hid (show decide (smallOps l 100) = false from decide_eq_false h1)
    obtain ⟨av, cv, rfl, -⟩ := hv
    obtain ⟨av', cv', rfl, -⟩ := hv'
    clear hs h1
    go_enter Try.func15, Try.ntmps15
    go_wp2_with fail
    refine HS.out.mono ?_
    rintro e w1 ⟨rfl, hB1⟩
    rw [HD.out]
    go_wp2_with fail
    refine (known_any w1).mono ?_
    rintro e w3 ⟨rfl, hB3⟩
    have HX := Lib.hid (hB1.trans (hB3.mono hB1.size))
    clear hB1 hB3
    go_wp2
    go_ret
    exact ⟨rfl, HX.out⟩

theorem pair_take {l m : List OpD} {k : Nat} {x : OpD} (hx : m[k]? = some x) : (l ++ m)[l.length + k]? = some x := by
  rw [List.getElem?_append_right (by omega), Nat.add_sub_cancel_left]; exact hx

set_option maxRecDepth 100000 in
set_option maxHeartbeats 4000000 in
theorem ArenaApart_some (v0 v1 : Value) (l m : List OpD) (w : World) (hv : ROps w v0 l) (hv' : ROps w v1 m) (hs : smallOps l 100) (hs' : smallOps m 50) :
    Calls Try.prog 15 #[v0, v1] w fun e w' => e = .returned (.bool true) ∧ Below w.heap.size w w' := by
  have HS := Lib.hid (Small_any v0 l 100 w hv)
  have HS' := Lib.hid (fun W (hB : Below w.heap.size w W) => Small_any v1 m 50 W (hv'.below hB))
  have HD := Lib.hid (show decide (smallOps l 100) = true from decide_eq_true hs)
  have HD' := Lib.hid (show decide (smallOps m 50) = true from decide_eq_true hs')
  obtain ⟨s1, s2⟩ := smallOps_get hs (by omega)
  obtain ⟨s1', s2'⟩ := smallOps_get hs' (by omega)
  have hml := hs'.1
  have hll := hs.1
  have hsm : ∀ x ∈ l ++ m, x.attrs.length ≤ 20 := fun x hx => (List.mem_append.1 hx).elim (s2 x) (s2' x)
  obtain ⟨i1, i2⟩ := run_len s2
  have HP := Lib.hid (fun W (o : Own w w.heap.size [] W) => Play_own o v0 l (fun W o => hv.below o.low) s1 s2)
  have HI := Lib.hid i1
  have HSH := Lib.hid (i1.short (show (runL l).ns.length ≤ 1000000 by omega))
  have hAn : (runL l).ns.length ≤ 300 := by omega
  have o0 := Own.start w
  obtain ⟨av, cv, rfl, -⟩ := hv
  have HV := Lib.hid (fun W (hB : Below w.heap.size w W) => hv'.below hB)
  obtain ⟨av', cv', rfl, hc1, hc2, -⟩ := id hv'
  have HSM := Lib.hid hsm
  have HK0 := Lib.hid (show runL ((l ++ m).take (l.length + 0)) = runL l by simp)
  have HKE := Lib.hid (show runL ((l ++ m).take (l.length + m.length)) = runL (l ++ m) by rw [← List.length_append, List.take_length])
  have HRI := Lib.hid (fun k (hk : k ≤ m.length) => run_inv (k := l.length + k) (l := l ++ m) hsm (by simp; omega))
  clear hs hs' i1 i2 s1 s2 s1' hsm hv'
  generalize hA : runL l = A at *
  have HA := Lib.hid hA
  clear hA
  go_enter Try.func15, Try.ntmps15
  go_wp2_with fail
  refine HS.out.mono ?_
  rintro e w1 ⟨rfl, hB1⟩
  rw [HD.out]
  have o1 := o0.read hB1
  clear o0 HS HD
  go_wp2_with fail
  refine (HS'.out _ o1.low).mono ?_
  rintro e w2 ⟨rfl, hB2⟩
  rw [HD'.out]
  have o2 := o1.read hB2
  clear o1 hB1 hB2 HS' HD'
  go_wp2_with fail
  refine (HP.out _ o2).mono ?_
  rintro e w3 ⟨b, c, rfl, o3⟩
  clear o2 HP
  go_wp2_with fail
  refine (Copy_own o3 (b := b) (A := A) (by simp) HSH.out).mono ?_
  rintro e w4 ⟨bo, rfl, o4⟩
  clear o3
  go_wp2_with fail
  refine (Equal_own o4 (b := b) (c := bo) (A := A) (B := A) (r := true) (by simp) (by simp) HI.out HI.out (by omega) (by omega) (by simp)).mono ?_
  rintro e w5 ⟨rfl, o5⟩
  clear o4
  go_wp2_with fail
  refine (Equal_own o5 (b := bo) (c := b) (A := A) (B := A) (r := true) (by simp) (by simp) HI.out HI.out (by omega) (by omega) (by simp)).mono ?_
  rintro e w6 ⟨rfl, o6⟩
  clear o5
  go_wp2_with fail
  refine (RCopy_own o6 (b := c) (A := A) (by simp) HSH.out (by omega)).mono ?_
  rintro e w7 ⟨co, rfl, o7⟩
  have HO := Lib.hid o7
  clear o6 o7
  go_wp2
  go_loopw [10] (fun i wr => ∃ k : Nat, k ≤ m.length ∧ i = .int .i64 k ∧ Hid (Own w w.heap.size [.refar co (runL ((l ++ m).take (l.length + k))), .arena bo (runL ((l ++ m).take (l.length + k))), .arena b A, .refar c A] wr)) (fun i _ => m.length - (intOf i).toNat)
  case atStart => exact ⟨0, Nat.zero_le _, rfl, by rw [HK0.out]; exact HO.out⟩
  case round =>
    obtain ⟨k, hk, rfl, hT⟩ := hrel
    by_cases hlt : k < m.length
    · obtain ⟨a', c', e', -, -, hc3⟩ := HV.out wr hT.out.low
      simp only [Value.slice.injEq, true_and] at e'
      obtain ⟨rfl, rfl⟩ := e'
      obtain ⟨b1, o1, rfl, hcs⟩ := hc3 (by omega)
      obtain ⟨x, hx⟩ : ∃ x, m[k]? = some x := ⟨_, List.getElem?_eq_getElem hlt⟩
      obtain ⟨xv, F⟩ := hcs k x hx
      have hxat := F.at'
      obtain ⟨aa, ac, rfl, -⟩ := F.at'.form
      obtain ⟨c0, c1, c2, c3, c4, c5, c6, c7, c8, c9⟩ := F.facts
      obtain ⟨q1, q2⟩ := HRI.out k (Nat.le_of_lt hlt)
      have hxs := s2' x (List.mem_of_getElem? hx)
      have HX := Lib.hid (And.intro hx (run_take (pair_take (l := l) hx)))
      have HC := Lib.hid (hT.out.swap.call (fun ρ hA => Do_any _ ρ _ x _ wr hA q1.wf F.at' (by omega) (by omega)))
      have HQ := Lib.hid (And.intro q1 q2)
      clear hcs F q1 q2 hx hT hc3 hxat
      go_wp2_with fail
      refine HC.out.mono ?_
      rintro e w8 ⟨rfl, o3⟩
      clear HC c0 c1 c2 c3 c4 c5 c6 c7 c8 c9
      obtain ⟨a', c', e', -, -, hc3⟩ := HV.out w8 o3.low
      simp only [Value.slice.injEq, true_and] at e'
      obtain ⟨rfl, rfl⟩ := e'
      obtain ⟨b2, o2', e', hcs⟩ := hc3 (by omega)
      simp only [Option.some.injEq, Addr.mk.injEq, and_true] at e'
      obtain ⟨rfl, rfl⟩ := e'
      obtain ⟨xv, F⟩ := hcs k x HX.out.1
      obtain ⟨aa', ac', rfl, -⟩ := F.at'.form
      obtain ⟨c0, c1, c2, c3, c4, c5, c6, c7, c8, c9⟩ := F.facts
      have HC := Lib.hid (o3.swap.callR (fun ρ hA => Model_any _ ρ _ x _ w8 hA HQ.out.1.wf F.at' (by have := HQ.out.2; omega) (by omega)))
      clear hcs F hc3 o3
      unfold pairV
      generalize (Ar.step (runL ((l ++ m).take (l.length + k))) x).1 = R at *
      obtain ⟨r1, r2⟩ := R
      go_wp2_with fail
      refine HC.out.mono ?_
      rintro e w9 ⟨rfl, o4⟩
      clear HC c0 c1 c2 c3 c4 c5 c6 c7 c8 c9
      rw [← HX.out.2] at o4
      have HO4 := Lib.hid o4
      have hr1 : (r1 != r1) = false := by simp
      have hr2 : (r2 != r2) = false := by simp
      clear o4
      unfold pairV
      go_wp2
      go_roundw
      case rel => exact ⟨k + 1, hlt, by go_num, by rw [show l.length + (k + 1) = l.length + k + 1 by omega]; exact HO4.out⟩
      case measure => simp [intOf]; omega
    · have hkm : k = m.length := by omega
      have ho := hT.out
      obtain ⟨q1, q2⟩ := HRI.out k (by omega)
      rw [hkm, HKE.out] at ho
      rw [hkm, HKE.out] at q1 q2
      have HQ := Lib.hid q1
      have hBn : (runL (l ++ m)).ns.length ≤ 450 := by omega
      have HSB := Lib.hid (q1.short (show (runL (l ++ m)).ns.length ≤ 1000000 by omega))
      clear hT hkm q1 q2
      generalize runL (l ++ m) = B at *
      obtain ⟨r, hr⟩ : ∃ r : Bool, decide (A = B) = r := ⟨_, rfl⟩
      have HR := Lib.hid hr
      have er : (r == r) = true := by simp
      clear hr
      go_wp2_with fail
      refine (Matches_own ho (b := b) (c := c) (A := A) (by simp) (by simp) HSH.out).mono ?_
      rintro e w8 ⟨rfl, o8⟩
      clear ho
      go_wp2_with fail
      refine (Matches_own o8 (b := bo) (c := co) (A := B) (by simp) (by simp) HSB.out).mono ?_
      rintro e w9 ⟨rfl, o9⟩
      clear o8
      go_wp2_with fail
      refine (Equal_own o9 (b := b) (c := bo) (A := A) (B := B) (by simp) (by simp) HI.out HQ.out (by omega) (by omega) HR.out).mono ?_
      rintro e w10 ⟨rfl, o10⟩
      clear o9
      go_wp2_with fail
      refine (REqual_own o10 (b := c) (c := co) (A := A) (B := B) (by simp) (by simp) HSH.out HSB.out HR.out).mono ?_
      rintro e w11 ⟨rfl, o11⟩
      clear o10
      go_wp2_with fail
      refine (known_any w11).mono ?_
      rintro e w12 ⟨rfl, hB12⟩
      have HB := Lib.hid (o11.back hB12)
      clear o11 hB12
      go_wp2
      go_ret
      exact ⟨rfl, HB.out⟩

/-- **ArenaApart: the walk.** -/
theorem ArenaApart_any (v0 : Value) (l : List OpD) (v1 : Value) (m : List OpD) (w : World) (hv : ROps w v0 l) (hv' : ROps w v1 m) :
    Calls Try.prog 15 #[v0, v1] w fun e w' => e = .returned (.bool true) ∧ Below w.heap.size w w' := by
  by_cases hs : smallOps l 100 ∧ smallOps m 50
  · exact ArenaApart_some v0 v1 l m w hv hv' hs.1 hs.2
  · exact ArenaApart_no v0 v1 l m w hv hv' hs

end Go.Proofs.Ytnfdcfagdidmhaa
