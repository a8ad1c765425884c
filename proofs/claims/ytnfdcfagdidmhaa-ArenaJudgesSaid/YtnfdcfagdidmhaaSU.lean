/-
  The document's Sound: steps up, and whether a node is above itself.
-/
import Derived.Test.YtnfdcfagdidmhaaSD
import Derived.Test.YtnfdcfagdidmhaaN1
import Derived.Test.YtnfdcfagdidmhaaR4
namespace Go.Proofs.Ytnfdcfagdidmhaa
open Go.RowKit Classical
set_option linter.unusedVariables false

/-- An arena of the document's of which the nodes alone are known. -/
def RN (w : World) (b : Nat) (A : Ar) : Prop := ∃ nb o c, w.cell? ⟨b, 0, none⟩ = some (.slice (some ⟨nb, o, none⟩) (A.ns.length + 1) c) ∧ A.ns.length + 1 ≤ c ∧ c ≤ 9223372036854775807 ∧
  ∀ x, A.has x → 1 ≤ x ∧ x ≤ A.ns.length ∧ ∃ kv av, NodeF w nb (o + x.toNat * 13) (A.get x) kv av ∧ RInts w kv (A.get x).kids ∧ RAttrs w av (A.get x).attrs
theorem RN.below {w w' : World} {b : Nat} {A : Ar} (h : RN w b A) (hb : Below w.heap.size w w') : RN w' b A := by
  obtain ⟨nb, o, c, h0, h1, h2, h3⟩ := h
  refine ⟨nb, o, c, Below.old hb h0, h1, h2, fun x hx => ?_⟩
  obtain ⟨q1, q2, kv, av, F, hK, hA⟩ := h3 x hx
  exact ⟨q1, q2, kv, av, F.below hb, hK.below hb, hA.below hb⟩

set_option maxRecDepth 100000 in
set_option maxHeartbeats 400000 in
theorem RUp_any (A : Ar) (b : Nat) (h : Int) (w : World) (hA : RN w b A) (hh : A.has h) :
    Calls Try.prog 99 #[.pointer (some ⟨b, 0, none⟩), .int .i64 h] w fun e w' => e = .returned (.int .i64 (A.up h)) ∧ w = w' := by
  obtain ⟨nb, o, c, h0, h1, h2, h3⟩ := hA
  obtain ⟨q1, q2, kv, av, F, -, -⟩ := h3 h hh
  have k1 := F.c1
  have k12 := F.c12
  by_cases hp : (A.get h).parent = 0
  · have hu : A.up h = (A.get h).host := by unfold Ar.up; simp [hp]
    have e : ((A.get h).parent != 0) = false := by simp [hp]
    rw [hu]
    clear hu hp F h3 hh
    go_enter Try.func99, Try.ntmps99
    go_wp2
    go_ret
    exact ⟨rfl, rfl⟩
  · have hu : A.up h = (A.get h).parent := by unfold Ar.up; simp [hp]
    have e : ((A.get h).parent != 0) = true := by simp [hp]
    rw [hu]
    clear hu hp F h3 hh
    go_enter Try.func99, Try.ntmps99
    go_wp2
    go_ret
    exact ⟨rfl, rfl⟩

set_option maxRecDepth 100000 in
set_option maxHeartbeats 1000000 in
theorem Circular_any (A : Ar) (b : Nat) (h : Int) (w : World) (hA : RN w b A) (hh : A.has h) (hC : A.UpOK) :
    Calls Try.prog 97 #[.pointer (some ⟨b, 0, none⟩), .int .i64 h] w fun e w' => e = .returned (.bool (decide (∃ j : Nat, 1 ≤ j ∧ j ≤ A.ns.length + 1 ∧ upI A j h = h))) ∧ w = w' := by
  have HU := Lib.hid (fun x hx => RUp_any A b x w hA hx)
  obtain ⟨nb, o, c, h0, h1, h2, -⟩ := hA
  have HH := Lib.hid hh
  have HC := Lib.hid hC
  have hu1 : upI A 1 h = A.up h := upI_one (has_ne hh)
  have HU1 := Lib.hid hu1
  clear hh hC hu1
  go_enter Try.func97, Try.ntmps97
  go_wp2_with fail
  refine (HU.out h HH.out).mono ?_
  rintro e w' ⟨rfl, rfl⟩
  rw [← HU1.out]
  go_wp2
  go_loop [5, 6] (fun at' s => ∃ k : Nat, k ≤ A.ns.length + 1 ∧ s = .int .i64 k ∧ at' = .int .i64 (upI A (k + 1) h) ∧ Hid (∀ j : Nat, 1 ≤ j → j ≤ k → upI A j h ≠ h)) (fun _ s => A.ns.length + 1 - (intOf s).toNat)
  case atStart => exact ⟨0, Nat.zero_le _, rfl, rfl, fun j h1 h2 => by omega⟩
  case round =>
    obtain ⟨k, hk, rfl, rfl, hT⟩ := hrel
    by_cases hz : upI A (k + 1) h = 0
    · have hz' : (upI A (k + 1) h != 0) = false := by simp [hz]
      have HN : Hid (¬ ∃ j : Nat, 1 ≤ j ∧ j ≤ A.ns.length + 1 ∧ upI A j h = h) := Lib.hid (by
        rintro ⟨j, j1, j2, e⟩
        by_cases hjk : j ≤ k
        · exact hT.out j j1 hjk e
        · have : upI A j h = 0 := by
            rw [show j = (k + 1) + (j - (k + 1)) by omega, upI_add, hz, upI_zero]
          rw [this] at e
          exact has_ne HH.out e.symm)
      clear hz hT
      go_wp2
      go_ret
      exact ⟨ret_bool (decide_eq_false HN.out).symm, rfl⟩
    · have hz' : (upI A (k + 1) h != 0) = true := by simp [hz]
      have hhas : A.has (upI A (k + 1) h) := by
        rcases upI_has HC.out HH.out (k + 1) with q | q
        · exact absurd q hz
        · exact q
      have hst : upI A (k + 1 + 1) h = A.up (upI A (k + 1) h) := by
        show (if upI A (k + 1) h = 0 then 0 else A.up (upI A (k + 1) h)) = _
        rw [if_neg hz]
      have HST := Lib.hid hst
      have HHAS := Lib.hid hhas
      clear hz hst hhas
      by_cases hlt : k < A.ns.length + 1
      · by_cases he : upI A (k + 1) h = h
        · have he' : (upI A (k + 1) h == h) = true := by simp [he]
          have HE := Lib.hid he
          clear he hT
          go_wp2
          go_ret
          exact ⟨ret_bool (decide_eq_true ⟨k + 1, by omega, by omega, HE.out⟩).symm, rfl⟩
        · have he' : (upI A (k + 1) h == h) = false := by simp [he]
          have HE := Lib.hid he
          clear he
          go_wp2_with fail
          refine (HU.out _ HHAS.out).mono ?_
          rintro e w' ⟨rfl, rfl⟩
          rw [← HST.out]
          go_wp2
          go_round
          case rel => exact ⟨k + 1, by omega, by go_num, rfl, fun j j1 j2 => by
            by_cases hjk : j ≤ k
            · exact hT.out j j1 hjk
            · have : j = k + 1 := by omega
              rw [this]; exact HE.out⟩
          case measure => simp [intOf]; omega
      · have HN : Hid (¬ ∃ j : Nat, 1 ≤ j ∧ j ≤ A.ns.length + 1 ∧ upI A j h = h) := Lib.hid (by
          rintro ⟨j, j1, j2, e⟩
          exact hT.out j j1 (by omega) e)
        clear hT
        go_wp2
        go_ret
        exact ⟨ret_bool (decide_eq_false HN.out).symm, rfl⟩

end Go.Proofs.Ytnfdcfagdidmhaa
