/-
  The law ArenaWalks.
-/
import Derived.Test.YtnfdcfagdidmhaaRD
import Derived.Test.YtnfdcfagdidmhaaW5
namespace Go.Proofs.Ytnfdcfagdidmhaa
open Go.RowKit
set_option linter.unusedVariables false

theorem RWalk_own {w0 w : World} {B b : Nat} {A : Ar} {l : List Asrt} {h : Int} {L : List Int} (o : Own w0 B l w) (hm : Asrt.refar b A ∈ l) (hI : A.Inv) (hn : A.ns.length ≤ 100000) (hL : A.walk h = L) :
    Calls Try.prog 51 #[.pointer (some ⟨b, 0, none⟩), .int .i64 h] w fun e w' => ∃ a c, e = .returned (.slice a L.length c) ∧ Own w0 B (.ints (.slice a L.length c) L :: l) w' := by
  subst hL
  obtain ⟨ρ, hA⟩ := o.refar hm
  refine (RWalk_any A ρ b h w hA hI hn).mono ?_
  rintro e w' ⟨hB, v, rfl, ho⟩
  obtain ⟨a, c, rfl⟩ := ownsForm ho
  exact ⟨a, c, rfl, o.newRow hB ho⟩
theorem walk_own' {w0 w : World} {B b : Nat} {A : Ar} {l : List Asrt} {h most : Int} {L : List Int} (o : Own w0 B l w) (hm : Asrt.arena b A ∈ l) (hI : A.Inv) (hsm : A.ns.length ≤ 100000) (hL : walkTo A h most = L) :
    Calls Try.prog 52 #[.pointer (some ⟨b, 0, none⟩), .int .i64 h, .int .i64 most] w fun e w' => ∃ a c, e = .returned (.tuple #[.slice a L.length c, .bool true]) ∧ Own w0 B (.ints (.slice a L.length c) L :: l) w' := by
  subst hL; exact walk_own o hm hI hsm

/-- The first m of a list. -/
theorem RInts.prefix {w : World} {a : Option Addr} {n c m : Nat} {l : List Int} (h : RInts w (.slice a n c) l) (hm : m ≤ l.length) : RInts w (.slice a m c) (l.take m) := by
  obtain ⟨a', c', e, h2, h3, h4⟩ := h.form
  simp at e
  obtain ⟨rfl, rfl, rfl⟩ := e
  have hl : (l.take m).length = m := by simp; omega
  refine ⟨by simp, a, c, by rw [hl], by omega, by unfold maxLen; omega, fun hp => ?_⟩
  obtain ⟨b, o, h5, h6⟩ := h4 (by omega)
  refine ⟨b, o, h5, fun j x hx => ?_⟩
  rw [List.getElem?_map, List.getElem?_take] at hx
  split at hx
  · have := h6 j (by omega)
    cases hj : l[j]? with
    | none => rw [hj] at hx; simp at hx
    | some y => rw [hj] at hx this; simp [intv] at hx this; rw [← hx]; exact this
  · simp at hx

theorem SamePre_own {w0 w : World} {B : Nat} {v : Value} {a : Option Addr} {c n : Nat} {L : List Int} {l : List Asrt} (o : Own w0 B l w) (h1 : Asrt.ints v (L.take n) ∈ l) (h2 : Asrt.ints (.slice a L.length c) L ∈ l) (hn : n ≤ L.length) :
    Calls Try.prog 45 #[v, .slice a n c] w fun e w' => e = .returned (.bool true) ∧ Own w0 B l w' := by
  refine (SameInts_any v _ (L.take n) (L.take n) w (o.ints h1) ((o.ints h2).prefix hn)).mono ?_
  rintro e w' ⟨rfl, hB⟩
  exact ⟨by simp, o.read hB⟩

set_option maxRecDepth 100000 in
set_option maxHeartbeats 1000000 in
theorem ArenaWalks_big (v0 : Value) (i1 : Int) (i2 : Int) (l : List OpD) (w : World) (hv : ROps w v0 l) (hs : ¬ smallOps l 150) :
    Calls Try.prog 10 #[v0, .int .i64 i1, .int .i64 i2] w fun e w' => e = .returned (.bool true) ∧ Below w.heap.size w w' := by
  have HS := Lib.hid (Small_any v0 l 150 w hv)
  have HD := Lib.hid (show decide (smallOps l 150) = false from decide_eq_false hs)
  obtain ⟨av, cv, rfl, -⟩ := hv
  go_enter Try.func10, Try.ntmps10
  go_wp2_with fail
  refine HS.out.mono ?_
  rintro e w1 ⟨rfl, hB1⟩
  rw [HD.out]
  go_wp2_with fail
  refine (known_any w1).mono ?_
  rintro e w2 ⟨rfl, hB2⟩
  go_wp2
  go_ret
  exact ⟨rfl, hB1.trans (hB2.mono hB1.size)⟩

set_option maxRecDepth 100000 in
set_option maxHeartbeats 4000000 in
theorem ArenaWalks_some (v : Value) (h most : Int) (l : List OpD) (w : World) (hv : ROps w v l) (hs : smallOps l 150) :
    Calls Try.prog 10 #[v, .int .i64 h, .int .i64 most] w fun e w' => e = .returned (.bool true) ∧ Below w.heap.size w w' := by
  have HS := Lib.hid (Small_any v l 150 w hv)
  have HD := Lib.hid (show decide (smallOps l 150) = true from decide_eq_true hs)
  obtain ⟨s1, s2⟩ := smallOps_get hs (by omega)
  obtain ⟨i1, i2⟩ := run_len s2
  have h150 := hs.1
  have HV := Lib.hid (fun W (o : Own w w.heap.size [] W) => hv.below o.low)
  have HP := Lib.hid (fun W (o : Own w w.heap.size [] W) => Play_own o v l HV.out s1 s2)
  have i3 : (runL l).ns.length ≤ 450 := by omega
  have HI := Lib.hid i1
  have o0 := Own.start w
  obtain ⟨av, cv, rfl, -⟩ := hv
  clear hs HV
  generalize runL l = A at *
  have hwl := walk_len i1 h
  have hwt : ∀ m : Int, walkTo A h m = (A.walk h).take m.toNat := fun m => rfl
  have hwa : walkTo A h 1000 = A.walk h := List.take_of_length_le (by simp; omega)
  have HWT := Lib.hid hwt
  have HWA := Lib.hid hwa
  obtain ⟨L, hL⟩ : ∃ L, A.walk h = L := ⟨_, rfl⟩
  have HL := Lib.hid hL
  rw [hL] at hwl
  clear hL hwa hwt i1 i2
  have hm : ∃ m : Int, ((most < 0 ∨ (L.length : Int) < most) ∧ m = L.length) ∨ (0 ≤ most ∧ most ≤ L.length ∧ m = most) := by
    by_cases h1 : most < 0
    · exact ⟨_, .inl ⟨.inl h1, rfl⟩⟩
    · by_cases h2 : (L.length : Int) < most
      · exact ⟨_, .inl ⟨.inr h2, rfl⟩⟩
      · exact ⟨_, .inr ⟨by omega, by omega, rfl⟩⟩
  obtain ⟨m, hm⟩ := hm
  have hmb : 0 ≤ m ∧ m ≤ L.length := by omega
  have hmb0 := hmb.1
  have hmb1 := hmb.2
  clear hmb
  go_enter Try.func10, Try.ntmps10
  go_wp2_with fail
  refine HS.out.mono ?_
  rintro e w1 ⟨rfl, hB1⟩
  rw [HD.out]
  have o1 := o0.read hB1
  clear o0 HS HD hB1
  go_wp2_with fail
  refine (HP.out _ o1).mono ?_
  rintro e w2 ⟨b, c, rfl, o2⟩
  clear o1
  go_wp2_with fail
  refine (RWalk_own o2 (b := c) (A := A) (by simp) HI.out (by omega) HL.out).mono ?_
  rintro e w3 ⟨a3, c3, rfl, o3⟩
  clear o2
  go_wp2_with fail
  refine (walk_own' o3 (b := b) (A := A) (by simp) HI.out (by omega) (HWA.out.trans HL.out)).mono ?_
  rintro e w4 ⟨a4, c4, rfl, o4⟩
  clear o3
  go_wp2_with fail
  refine (SameInts_own o4 (x := L) (y := L) (by simp) (by simp)).mono ?_
  rintro e w5 ⟨rfl, o5⟩
  rw [show decide (L = L) = true by simp]
  clear o4
  have HM := Lib.hid hm
  clear hm
  rcases HM.out with ⟨hm1, hm2⟩ | ⟨hm1, hm2, hm3⟩
  · subst hm2
    rcases hm1 with hm1 | hm1
    all_goals
      go_wp2_with fail
      refine (walk_own' o5 (b := b) (A := A) (L := L) (by simp) HI.out (by omega) (by rw [HWT.out, HL.out]; simp)).mono ?_
      rintro e w6 ⟨a6, c6, rfl, o6⟩
      clear o5
      go_wp2_with fail
      refine (walk_own' o6 (b := b) (A := A) (by simp) HI.out (by omega) (HWA.out.trans HL.out)).mono ?_
      rintro e w7 ⟨a7, c7, rfl, o7⟩
      clear o6
      have hcap : L.length ≤ c3 ∧ c3 ≤ 9223372036854775807 := by
        obtain ⟨a', c', e, q1, q2, -⟩ := (o7.ints (v := .slice a3 L.length c3) (x := L) (by simp)).form
        simp at e; rw [e.2]; exact ⟨q1, q2⟩
      have hcap1 := hcap.1
      have hcap2 := hcap.2
      clear hcap
      go_wp2_with fail
      refine (SamePre_own o7 (n := L.length) (a := a3) (c := c3) (L := L) (by simp) (by simp) (Nat.le_refl _)).mono ?_
      rintro e w8 ⟨rfl, o8⟩
      clear o7
      go_wp2_with fail
      refine (SameInts_own o8 (x := L) (y := L) (by simp) (by simp)).mono ?_
      rintro e w9 ⟨rfl, o9⟩
      rw [show decide (L = L) = true by simp]
      have HB := Lib.hid o9.low
      clear o8
      go_wp2_with fail
      refine (known_any w9).mono ?_
      rintro e w10 ⟨rfl, hB10⟩
      have HB10 := Lib.hid (HB.out.trans (hB10.mono HB.out.size))
      clear hB10
      go_wp2
      go_ret
      exact ⟨rfl, HB10.out⟩
  · subst hm3
    obtain ⟨n, rfl⟩ : ∃ n : Nat, m = n := ⟨m.toNat, by omega⟩
    have hnl : n ≤ L.length := by omega
    have hlm : (L.take n).length = n := by simp; omega
    obtain ⟨P, hP⟩ : ∃ P, L.take n = P := ⟨_, rfl⟩
    rw [hP] at hlm
    have HLM := Lib.hid hlm
    have HPP := Lib.hid hP
    clear hlm hP
    go_wp2_with fail
    refine (walk_own' o5 (b := b) (A := A) (L := P) (by simp) HI.out (by omega) (by rw [HWT.out, HL.out]; exact HPP.out)).mono ?_
    rintro e w6 ⟨a6, c6, rfl, o6⟩
    clear o5
    go_wp2_with fail
    refine (walk_own' o6 (b := b) (A := A) (by simp) HI.out (by omega) (HWA.out.trans HL.out)).mono ?_
    rintro e w7 ⟨a7, c7, rfl, o7⟩
    clear o6
    have hcap : L.length ≤ c3 ∧ c3 ≤ 9223372036854775807 := by
      obtain ⟨a', c', e, q1, q2, -⟩ := (o7.ints (v := .slice a3 L.length c3) (x := L) (by simp)).form
      simp at e; rw [e.2]; exact ⟨q1, q2⟩
    have hcap1 := hcap.1
    have hcap2 := hcap.2
    clear hcap
    go_wp2_with fail
    refine (SamePre_own o7 (n := n) (a := a3) (c := c3) (L := L) (by simp [HPP.out]) (by simp) hnl).mono ?_
    rintro e w8 ⟨rfl, o8⟩
    clear o7
    go_wp2_with fail
    refine (SameInts_own o8 (x := L) (y := L) (by simp) (by simp)).mono ?_
    rintro e w9 ⟨rfl, o9⟩
    rw [show decide (L = L) = true by simp]
    have HB := Lib.hid o9.low
    clear o8
    go_wp2_with fail
    refine (known_any w9).mono ?_
    rintro e w10 ⟨rfl, hB10⟩
    have HB10 := Lib.hid (HB.out.trans (hB10.mono HB.out.size))
    clear hB10
    go_wp2
    go_ret
    exact ⟨rfl, HB10.out⟩

/-- **ArenaWalks: the walk.** -/
theorem ArenaWalks_any (v : Value) (l : List OpD) (h most : Int) (w : World) (hv : ROps w v l) :
    Calls Try.prog 10 #[v, .int .i64 h, .int .i64 most] w fun e w' => e = .returned (.bool true) ∧ Below w.heap.size w w' := by
  by_cases hs : smallOps l 150
  · exact ArenaWalks_some v h most l w hv hs
  · exact ArenaWalks_big v h most l w hv hs

end Go.Proofs.Ytnfdcfagdidmhaa
