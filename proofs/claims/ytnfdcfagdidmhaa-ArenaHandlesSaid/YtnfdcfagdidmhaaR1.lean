/-
  The law's Run.
-/
import Derived.Test.YtnfdcfagdidmhaaArX
import Derived.Test.YtnfdcfagdidmhaaO2
import Derived.Test.YtnfdcfagdidmhaaSp
namespace Go.Proofs.Ytnfdcfagdidmhaa
open Go.RowKit
set_option linter.unusedVariables false

/-- A call on the arena at the front. -/
theorem Own.call {w0 w : World} {B b : Nat} {A A' : Ar} {l : List Asrt} {v : Value} {f : Nat} {args : Array Value} (h : Own w0 B (.arena b A :: l) w) (hc : ∀ ρ, AMem w ρ b A → Calls Try.prog f args w (AddR A' ρ b w v)) :
    Calls Try.prog f args w fun e w' => e = .returned v ∧ Own w0 B (.arena b A' :: l) w' := by
  obtain ⟨S, ⟨ρ, hA, hS⟩, hf⟩ := h.front
  refine (hc ρ hA).mono ?_
  rintro e w' ⟨rfl, ρ', hA', hT⟩
  exact ⟨rfl, hf w' _ ⟨fun k => ρ' k ≠ 0, ⟨ρ', hA', fun _ => Iff.rfl⟩, hT.upd.mono (fun k _ hk => (hS k).2 hk), fun k hk hp => (hS k).2 (by rw [← hT.role k hk]; exact hp)⟩⟩
theorem Own.newArena {w0 w : World} {B : Nat} {l : List Asrt} (h : Own w0 B l w) : Own w0 B (.arena w.heap.size Ar.new :: l) (w.alloc (.cells #[.slice none 0 0, .map none] 92)) :=
  h.fresh (below_alloc w _) ⟨fun k => newRoles w.heap.size k ≠ 0, ⟨newRoles w.heap.size, AMem.new w, fun _ => Iff.rfl⟩, fun k hk => by
    dsimp only [newRoles] at hk
    by_cases e : k = w.heap.size
    · omega
    · rw [if_neg e] at hk; exact absurd rfl hk⟩

theorem Run_any (v : Value) (l : List OpD) (w : World) (hv : ROps w v l) (hlen : l.length ≤ 1000) (hsm : ∀ x ∈ l, x.attrs.length ≤ 20) :
    Calls Try.prog 19 #[v] w fun e w' => e = .returned (.pointer (some ⟨w.heap.size, 0, none⟩)) ∧ Own w w.heap.size [.arena w.heap.size (runL l)] w' := by
  obtain ⟨av, cv, rfl, hc1, hc2, hc3⟩ := id hv
  have HN := Lib.hid (New_any w)
  go_enter Try.func19, Try.ntmps19
  go_wp2_with fail
  refine HN.out.mono ?_
  rintro e w1 ⟨rfl, hw1⟩
  have hO := Lib.hid (Own.start w).newArena
  rw [← hw1] at hO
  clear hw1 HN
  go_wp2
  go_loopw [4] (fun i wr => ∃ k : Nat, k ≤ l.length ∧ i = .int .i64 k ∧ Hid (Own w w.heap.size [.arena w.heap.size (runL (l.take k))] wr)) (fun i _ => l.length - (intOf i).toNat)
  case atStart => exact ⟨0, Nat.zero_le _, rfl, hO⟩
  case round =>
    obtain ⟨k, hk, rfl, hT⟩ := hrel
    by_cases hlt : k < l.length
    · obtain ⟨b1, o1, rfl, hcs⟩ := hc3 (by omega)
      obtain ⟨x, hx⟩ : ∃ x, l[k]? = some x := ⟨_, List.getElem?_eq_getElem hlt⟩
      obtain ⟨av, F⟩ := hcs k x hx
      have F := F.below hT.out.low
      obtain ⟨aa, ac, rfl, -⟩ := F.at'.form
      obtain ⟨c0, c1, c2, c3, c4, c5, c6, c7, c8, c9⟩ := F.facts
      obtain ⟨q1, q2⟩ := run_inv hsm (Nat.le_of_lt hlt)
      have hxs := hsm x (List.mem_of_getElem? hx)
      have HC := Lib.hid (hT.out.call (fun ρ hA => Do_any _ ρ _ x _ wr hA q1.wf F.at' (by omega) (by omega)))
      have HX := Lib.hid (run_take hx)
      clear hc3 hcs F q1 q2 hx hT
      go_wp2_with fail
      refine HC.out.mono ?_
      rintro e w2 ⟨rfl, hO2⟩
      rw [← HX.out] at hO2
      have HO2 := Lib.hid hO2
      clear hO2
      unfold pairV
      go_wp2
      go_roundw
      case rel => exact ⟨k + 1, hlt, by go_num, HO2⟩
      case measure => simp [intOf]; omega
    · have hO2 := hT.out
      have : k = l.length := by omega
      rw [this, List.take_length] at hO2
      have HO2 := Lib.hid hO2
      clear hO2 hT this
      go_wp2
      go_ret
      exact ⟨rfl, HO2.out⟩

end Go.Proofs.Ytnfdcfagdidmhaa
