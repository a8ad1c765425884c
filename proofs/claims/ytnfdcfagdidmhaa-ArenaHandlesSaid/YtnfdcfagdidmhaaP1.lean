/-
  Contracts of the small functions of the program's arena.
-/
import Derived.Test.YtnfdcfagdidmhaaRows
import Derived.Test.YtnfdcfagdidmhaaArM
import Derived.Deep.QuietTactic
import Derived.BigQuiet
import Derived.Deep.RegionHeld3
import Derived.Deep.DeepFit
import Derived.Deep.LoopGhost
namespace Go.Proofs.Ytnfdcfagdidmhaa
open Go.RowKit

theorem ret_bool {a b : Bool} (h : a = b) : Ending.returned (.bool a) = .returned (.bool b) := by rw [h]
theorem ret_int {a b : Int} (h : a = b) : Ending.returned (.int .i64 a) = .returned (.int .i64 b) := by rw [h]

/-- 'has' at an arena. -/
theorem has_any (A : Ar) (b : Nat) (a : Option Addr) (c : Nat) (h : Int) (w : World) (h0 : w.cell? ⟨b, 0, none⟩ = some (.slice a A.ns.length c)) :
    Calls Try.prog 87 #[.pointer (some ⟨b, 0, none⟩), .int .i64 h] w fun e w' => e = .returned (.bool (decide (A.has h))) ∧ w = w' := by
  by_cases h1 : 1 ≤ h
  · go_enter Try.func87, Try.ntmps87
    go_wp2
    go_ret
    exact ⟨ret_bool (by simp [Ar.has, Ar.n, h1]), rfl⟩
  · go_enter Try.func87, Try.ntmps87
    go_wp2
    go_ret
    exact ⟨ret_bool (decide_eq_false (fun hc => by have := hc.1; omega)).symm, rfl⟩

theorem len_any (A : Ar) (b : Nat) (a : Option Addr) (c : Nat) (w : World) (h0 : w.cell? ⟨b, 0, none⟩ = some (.slice a A.ns.length c)) :
    Calls Try.prog 20 #[.pointer (some ⟨b, 0, none⟩)] w fun e w' => e = .returned (.int .i64 A.n) ∧ w = w' := by
  go_enter Try.func20, Try.ntmps20
  go_wp2
  go_ret
  exact ⟨rfl, rfl⟩

/-- 'at': the pointer to a node. -/
theorem at_any (b nb : Nat) (n c : Nat) (h : Int) (w : World) (h0 : w.cell? ⟨b, 0, none⟩ = some (.slice (some ⟨nb, 0, none⟩) n c)) (h1 : 1 ≤ h) (h2 : h ≤ n) (hm : (n : Int) ≤ 9223372036854775807) :
    Calls Try.prog 68 #[.pointer (some ⟨b, 0, none⟩), .int .i64 h] w fun e w' => e = .returned (.pointer (some ⟨nb, (h.toNat - 1) * 13, none⟩)) ∧ w = w' := by
  go_enter Try.func68, Try.ntmps68
  go_wp2
  go_ret
  exact ⟨by simp, rfl⟩

/-- The first handle of a list that is none: ErrHandle. -/
def checkL (A : Ar) (l : List Int) : Int := if ∀ h ∈ l, A.has h then 0 else 3

theorem check_any (A : Ar) (b : Nat) (a : Option Addr) (c : Nat) (v : Value) (l : List Int) (w : World) (h0 : w.cell? ⟨b, 0, none⟩ = some (.slice a A.ns.length c)) (hv : RInts w v l) :
    Calls Try.prog 67 #[.pointer (some ⟨b, 0, none⟩), v] w fun e w' => e = .returned (.int .i64 (checkL A l)) ∧ w = w' := by
  obtain ⟨av, cv, rfl, hc1, hc2, hc3⟩ := hv.form
  go_enter Try.func67, Try.ntmps67
  go_wp2
  go_loop [11] (fun i => ∃ k : Nat, k ≤ l.length ∧ i = .int .i64 k ∧ Hid (∀ j, j < k → A.has (l[j]?.getD 0))) (fun i => l.length - (intOf i).toNat)
  case atStart => exact ⟨0, Nat.zero_le _, rfl, fun j hj => by omega⟩
  case round =>
    obtain ⟨k, hk, rfl, hT⟩ := hrel
    by_cases hlt : k < l.length
    · obtain ⟨b1, o1, rfl, hcs⟩ := hc3 (by omega)
      have hck := hcs k hlt
      clear hc3 hcs
      generalize hx : l[k]?.getD 0 = x at hck
      have HX := Lib.hid hx
      clear hx
      by_cases hh : A.has x
      · have hd : decide (A.has x) = true := by simp [hh]
        have HH := Lib.hid hh
        clear hh
        go_wp2_with (go_at_call 87; refine (has_any A b a c _ _ h0).mono ?_; rintro e w' ⟨rfl, rfl⟩)
        go_round
        case rel => exact ⟨k + 1, hlt, by go_num, fun j hj => by
          by_cases hjk : j < k
          · exact hT.out j hjk
          · have : j = k := by omega
            rw [this, HX.out]; exact HH.out⟩
        case measure => simp [intOf]; omega
      · have hd : decide (A.has x) = false := by simp [hh]
        have HH := Lib.hid hh
        clear hh
        go_wp2_with (go_at_call 87; refine (has_any A b a c _ _ h0).mono ?_; rintro e w' ⟨rfl, rfl⟩)
        go_ret
        refine ⟨ret_int ?_, rfl⟩
        have : ¬ ∀ h ∈ l, A.has h := fun hall => HH.out (by rw [← HX.out]; simp only [List.getElem?_eq_getElem hlt, Option.getD_some]; exact hall _ (List.getElem_mem hlt))
        rw [checkL, if_neg this]
    · go_wp2
      go_ret
      refine ⟨ret_int ?_, rfl⟩
      have : ∀ h ∈ l, A.has h := by
        intro h hh
        obtain ⟨j, hj, rfl⟩ := List.getElem_of_mem hh
        have := hT.out j (by omega)
        simpa [hj] using this
      rw [checkL, if_pos this]

end Go.Proofs.Ytnfdcfagdidmhaa
