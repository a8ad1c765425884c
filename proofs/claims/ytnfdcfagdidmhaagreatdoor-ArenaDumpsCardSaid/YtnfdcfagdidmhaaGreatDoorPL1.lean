/-
  The law's Play: both arenas.
-/
import Derived.Test.YtnfdcfagdidmhaaGreatDoorR13
namespace Go.Proofs.YtnfdcfagdidmhaaGreatDoor
open Go.RowKit
set_option linter.unusedVariables false

theorem Own.callR {w0 w : World} {B b : Nat} {A A' : Ar} {l : List Asrt} {v : Value} {f : Nat} {args : Array Value} (h : Own w0 B (.refar b A :: l) w) (hc : ∀ ρ, RMem w ρ b A → Calls Tryz.prog f args w (RAddR A' ρ b w v)) :
    Calls Tryz.prog f args w fun e w' => e = .returned v ∧ Own w0 B (.refar b A' :: l) w' := by
  obtain ⟨S, ⟨ρ, hA, hS⟩, hf⟩ := h.front
  refine (hc ρ hA).mono ?_
  rintro e w' ⟨rfl, ρ', hA', hT⟩
  exact ⟨rfl, hf w' _ ⟨fun k => ρ' k ≠ 0, ⟨ρ', hA', fun _ => Iff.rfl⟩, hT.upd.mono (fun k _ hk => (hS k).2 hk), fun k hk hp => (hS k).2 (by rw [← hT.role k hk]; exact hp)⟩⟩
theorem RNew_own {w0 w : World} {B : Nat} {l : List Asrt} (o : Own w0 B l w) :
    Calls Tryz.prog 35 #[] w fun e w' => e = .returned (.pointer (some ⟨w.heap.size + 2, 0, none⟩)) ∧ Own w0 B (.refar (w.heap.size + 2) Ar.new :: l) w' := by
  refine (RNew_any w).mono ?_
  rintro e w' ⟨rfl, hB, ρ, hR, hρ⟩
  exact ⟨rfl, o.fresh hB ⟨fun k => ρ k ≠ 0, ⟨ρ, hR, fun _ => Iff.rfl⟩, fun k hk => hρ k hk⟩⟩
theorem Own.refar {w0 w : World} {B b : Nat} {A : Ar} {l : List Asrt} (h : Own w0 B l w) (hm : Asrt.refar b A ∈ l) : ∃ ρ, RMem w ρ b A := by
  obtain ⟨S, ⟨ρ, h1, _⟩, _⟩ := h.get hm
  exact ⟨ρ, h1⟩

set_option maxRecDepth 100000 in
set_option maxHeartbeats 1000000 in
theorem Play_own {w0 w : World} {B : Nat} {ll : List Asrt} (o : Own w0 B ll w) (v : Value) (l : List OpD) (hv : ∀ W, Own w0 B ll W → ROps W v l) (hlen : l.length ≤ 1000) (hsm : ∀ x ∈ l, x.attrs.length ≤ 20) :
    Calls Tryz.prog 8 #[v] w fun e w' => ∃ b c, e = .returned (.tuple #[.pointer (some ⟨b, 0, none⟩), .pointer (some ⟨c, 0, none⟩), .bool true]) ∧ Own w0 B (.arena b (runL l) :: .refar c (runL l) :: ll) w' := by
  have hv0 := hv w o
  have HV := Lib.hid hv
  obtain ⟨av, cv, rfl, hc1, hc2, -⟩ := id hv0
  have HN := Lib.hid (New_any w)
  clear hv hv0
  go_enter Tryz.func8, Tryz.ntmps8
  go_wp2_with fail
  refine HN.out.mono ?_
  rintro e w1 ⟨rfl, hw1⟩
  have o1 := o.newArena
  rw [← hw1] at o1
  have HB := Lib.hid (show Below w.heap.size w w1 by rw [hw1]; exact below_alloc _ _)
  clear hw1 HN o
  generalize w.heap.size = ba at *
  go_wp2_with fail
  refine (RNew_own o1).mono ?_
  rintro e w2 ⟨rfl, o2⟩
  generalize w1.heap.size + 2 = bc at *
  have HO := Lib.hid o2
  clear o1 o2
  go_wp2
  go_loopw [7] (fun i wr => ∃ k : Nat, k ≤ l.length ∧ i = .int .i64 k ∧ Hid (Own w0 B (.refar bc (runL (l.take k)) :: .arena ba (runL (l.take k)) :: ll) wr)) (fun i _ => l.length - (intOf i).toNat)
  case atStart => exact ⟨0, Nat.zero_le _, rfl, HO.out⟩
  case round =>
    obtain ⟨k, hk, rfl, hT⟩ := hrel
    by_cases hlt : k < l.length
    · obtain ⟨a', c', e', -, -, hc3⟩ := HV.out wr hT.out.drop.drop
      simp only [Value.slice.injEq, true_and] at e'
      obtain ⟨rfl, rfl⟩ := e'
      obtain ⟨b1, o1, rfl, hcs⟩ := hc3 (by omega)
      obtain ⟨x, hx⟩ : ∃ x, l[k]? = some x := ⟨_, List.getElem?_eq_getElem hlt⟩
      obtain ⟨xv, F⟩ := hcs k x hx
      have hxat := F.at'
      obtain ⟨aa, ac, rfl, -⟩ := F.at'.form
      obtain ⟨c0, c1, c2, c3, c4, c5, c6, c7, c8, c9⟩ := F.facts
      obtain ⟨q1, q2⟩ := run_inv hsm (Nat.le_of_lt hlt)
      have hxs := hsm x (List.mem_of_getElem? hx)
      have HX := Lib.hid (And.intro hx (run_take hx))
      have HC := Lib.hid (hT.out.swap.call (fun ρ hA => Do_any _ ρ _ x _ wr hA q1.wf F.at' (by omega) (by omega)))
      have HQ := Lib.hid (And.intro q1 q2)
      clear hcs F q1 q2 hx hT hc3 hxat
      go_wp2_with fail
      refine HC.out.mono ?_
      rintro e w3 ⟨rfl, o3⟩
      clear HC c0 c1 c2 c3 c4 c5 c6 c7 c8 c9
      obtain ⟨a', c', e', -, -, hc3⟩ := HV.out w3 o3.drop.drop
      simp only [Value.slice.injEq, true_and] at e'
      obtain ⟨rfl, rfl⟩ := e'
      obtain ⟨b2, o2', e', hcs⟩ := hc3 (by omega)
      simp only [Option.some.injEq, Addr.mk.injEq, and_true] at e'
      obtain ⟨rfl, rfl⟩ := e'
      obtain ⟨xv, F⟩ := hcs k x HX.out.1
      obtain ⟨aa', ac', rfl, -⟩ := F.at'.form
      obtain ⟨c0, c1, c2, c3, c4, c5, c6, c7, c8, c9⟩ := F.facts
      have HC := Lib.hid (o3.swap.callR (fun ρ hA => Model_any _ ρ _ x _ w3 hA HQ.out.1.wf F.at' (by have := HQ.out.2; omega) (by omega)))
      clear hcs F hc3 o3
      unfold pairV
      generalize (Ar.step (runL (l.take k)) x).1 = R at *
      obtain ⟨r1, r2⟩ := R
      go_wp2_with fail
      refine HC.out.mono ?_
      rintro e w4 ⟨rfl, o4⟩
      clear HC c0 c1 c2 c3 c4 c5 c6 c7 c8 c9
      rw [← HX.out.2] at o4
      have HO4 := Lib.hid o4
      have hr1 : (r1 != r1) = false := by simp
      have hr2 : (r2 != r2) = false := by simp
      clear o4
      unfold pairV
      go_wp2
      go_roundw
      case rel => exact ⟨k + 1, hlt, by go_num, HO4⟩
      case measure => simp [intOf]; omega
    · have hkl : l.take k = l := List.take_of_length_le (by omega)
      have ho := hT.out
      rw [hkl] at ho
      have HO4 := Lib.hid ho.swap
      clear ho hT hkl
      go_wp2
      exact bodyPost_ret (v := .tuple #[.pointer (some ⟨ba, 0, none⟩), .pointer (some ⟨bc, 0, none⟩), .bool true]) (by simp [results, Tryz.f8, go_sem]) rfl ⟨ba, bc, rfl, HO4.out⟩

end Go.Proofs.YtnfdcfagdidmhaaGreatDoor
