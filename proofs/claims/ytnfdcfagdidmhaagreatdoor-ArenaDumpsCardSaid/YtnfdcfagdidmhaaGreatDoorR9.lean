/-
  Contracts of the document's arena: up, Contains, Root, Parent, Index.
-/
import Derived.Test.YtnfdcfagdidmhaaGreatDoorR8
namespace Go.Proofs.YtnfdcfagdidmhaaGreatDoor
open Go.RowKit
set_option linter.unusedVariables false

set_option maxRecDepth 100000 in
theorem RUp_any (A : Ar) (ρ : Nat → Nat) (b : Nat) (h : Int) (w : World) (hA : RMem w ρ b A) (hh : A.has h) :
    Calls Tryz.prog 127 #[.pointer (some ⟨b, 0, none⟩), .int .i64 h] w fun e w' => e = .returned (.int .i64 (A.up h)) ∧ w = w' := by
  obtain ⟨nb, c, h0, hm, hc, hfn, hnb, HH0, hN⟩ := hA.look
  obtain ⟨hp, hq, kv, av, F, -, -⟩ := hN h hh
  have c1 := F.c1
  have c12 := F.c12
  have hu : A.up h = if (A.get h).parent ≠ 0 then (A.get h).parent else (A.get h).host := rfl
  by_cases hz : (A.get h).parent = 0
  · rw [if_neg (by simp [hz])] at hu
    have hz1 : ((A.get h).parent != 0) = false := by simp [hz]
    have HU := Lib.hid hu
    clear hu hz F hN HH0 hfn hA hh
    go_enter Tryz.func127, Tryz.ntmps127
    go_wp2
    go_ret
    exact ⟨ret_int HU.out.symm, rfl⟩
  · rw [if_pos hz] at hu
    have hz1 : ((A.get h).parent != 0) = true := by simpa using hz
    have HU := Lib.hid hu
    clear hu hz F hN HH0 hfn hA hh
    go_enter Tryz.func127, Tryz.ntmps127
    go_wp2
    go_ret
    exact ⟨ret_int HU.out.symm, rfl⟩

theorem way_nil {A : Ar} {up : Int → Int} {rest : List Int} (h : A.Way up 0 rest) : rest = [] := by
  cases rest with
  | nil => rfl
  | cons x l => obtain ⟨rfl, h1, _⟩ := h; exact absurd h1 (has_zero A)
theorem way_cons {A : Ar} {up : Int → Int} {y : Int} {rest : List Int} (h : A.Way up y rest) (hy : y ≠ 0) : ∃ r, rest = y :: r ∧ A.has y ∧ A.Way up (up y) r := by
  cases rest with
  | nil => exact absurd h hy
  | cons x l => obtain ⟨rfl, h1, h2⟩ := h; exact ⟨l, rfl, h1, h2⟩
theorem way_depth_len {A : Ar} {y : Int} {rest : List Int} (h : A.Way (upStep A true) y rest) : A.depth y = rest.length := by
  unfold Ar.depth Ar.waySt; rw [wayF_eq h (way_len h)]
theorem wayp_len {A : Ar} {y : Int} {rest : List Int} (h : A.Way (upStep A false) y rest) : (A.waySt false y).length = rest.length := by
  unfold Ar.waySt; rw [wayF_eq h (way_len h)]

set_option maxRecDepth 100000 in
set_option maxHeartbeats 1000000 in
theorem RContains_any (A : Ar) (ρ : Nat → Nat) (b : Nat) (u h : Int) (w : World) (hA : RMem w ρ b A) (hW : A.WF) :
    Calls Tryz.prog 117 #[.pointer (some ⟨b, 0, none⟩), .int .i64 u, .int .i64 h] w fun e w' => e = .returned (.bool (A.contains u h)) ∧ w = w' := by
  obtain ⟨nb, c, h0, hm, hc, hfn, hnb, HH0, hN⟩ := hA.look
  have HH := Lib.hid HH0
  have HU := Lib.hid (fun x hx => RUp_any A ρ b x w hA hx)
  clear HH0 hN hfn
  by_cases hu : A.has u
  · have hd : decide (A.has u) = true := by simp [hu]
    by_cases hh : A.has h
    · have hd2 : decide (A.has h) = true := by simp [hh]
      have hway := hW.wayOf hh
      have hfin : A.contains u h = decide (u ∈ A.waySt true h) := by unfold Ar.contains; simp [hu, hh]
      rw [hfin]
      generalize A.waySt true h = path at *
      have HW := Lib.hid hway
      clear hfin hway hu hh hA
      go_enter Tryz.func117, Tryz.ntmps117
      go_wp2_with fail
      refine (HH.out _ _ h0).mono ?_
      rintro e w' ⟨rfl, rfl⟩
      rw [hd]
      go_wp2_with fail
      refine (HH.out _ _ h0).mono ?_
      rintro e w' ⟨rfl, rfl⟩
      rw [hd2]
      go_wp2
      go_loop [2] (fun x => ∃ (y : Int) (pre rest : List Int), x = .int .i64 y ∧ Hid (A.Way (upStep A true) y rest ∧ path = pre ++ rest ∧ u ∉ pre)) (fun x => A.depth (intOf x))
      case atStart => exact ⟨h, [], path, rfl, HW.out, rfl, by simp⟩
      case round =>
        obtain ⟨y, pre, rest, rfl, hT⟩ := hrel
        by_cases hy : y = 0
        · subst hy
          have hfin : decide (u ∈ path) = false := by
            have e := hT.out.2.1
            rw [way_nil hT.out.1, List.append_nil] at e
            rw [e]; simpa using hT.out.2.2
          have HF := Lib.hid hfin
          clear hfin
          go_wp2
          go_ret
          exact ⟨ret_bool HF.out.symm, rfl⟩
        · have hy1 : (y != 0) = true := by simpa using hy
          obtain ⟨r, hr, hyh, hw2⟩ := way_cons hT.out.1 hy
          have hdl := way_depth_len hT.out.1
          have hdl2 := way_depth_len hw2
          have hus : upStep A true y = A.up y := by simp [upStep]
          rw [hus] at hw2 hdl2
          by_cases hyu : y = u
          · subst hyu
            have HF : Hid (decide (y ∈ path) = true) := Lib.hid (by rw [hT.out.2.1, hr]; simp)
            clear hdl hdl2 hw2 hus hyh hr hT hy
            go_wp2
            go_ret
            exact ⟨ret_bool HF.out.symm, rfl⟩
          · have hyu1 : (y == u) = false := by simpa using hyu
            have HR : Hid (A.Way (upStep A true) (A.up y) r ∧ path = (pre ++ [y]) ++ r ∧ u ∉ pre ++ [y]) := Lib.hid ⟨hw2, by rw [hT.out.2.1, hr]; simp, by simp; exact ⟨hT.out.2.2, fun e => hyu e.symm⟩⟩
            have HM : Hid (A.depth (A.up y) < A.depth y) := Lib.hid (by rw [hdl, hdl2, hr]; simp)
            have HYH := Lib.hid hyh
            clear hdl hdl2 hw2 hus hr hT hy hyu hyh
            go_wp2_with fail
            refine (HU.out y HYH.out).mono ?_
            rintro e w' ⟨rfl, rfl⟩
            go_wp2
            go_round
            case rel => exact ⟨A.up y, pre ++ [y], r, rfl, HR⟩
            case measure => exact HM.out
    · have hd2 : decide (A.has h) = false := by simp [hh]
      have hfin : A.contains u h = false := by unfold Ar.contains; simp [hh]
      rw [hfin]
      clear hfin hu hh hA
      go_enter Tryz.func117, Tryz.ntmps117
      go_wp2_with fail
      refine (HH.out _ _ h0).mono ?_
      rintro e w' ⟨rfl, rfl⟩
      rw [hd]
      go_wp2_with fail
      refine (HH.out _ _ h0).mono ?_
      rintro e w' ⟨rfl, rfl⟩
      rw [hd2]
      go_wp2
      go_ret
      exact ⟨rfl, rfl⟩
  · have hd : decide (A.has u) = false := by simp [hu]
    have hfin : A.contains u h = false := by unfold Ar.contains; simp [hu]
    rw [hfin]
    clear hfin hu hA
    go_enter Tryz.func117, Tryz.ntmps117
    go_wp2_with fail
    refine (HH.out _ _ h0).mono ?_
    rintro e w' ⟨rfl, rfl⟩
    rw [hd]
    go_wp2
    go_ret
    exact ⟨rfl, rfl⟩

end Go.Proofs.YtnfdcfagdidmhaaGreatDoor
