/-
  The law ArenaHandles: the walk.
-/
import Derived.Test.YtnfdcfagdidmhaaN1
import Derived.Test.YtnfdcfagdidmhaaH1
namespace Go.Proofs.Ytnfdcfagdidmhaa
open Go.RowKit
set_option linter.unusedVariables false

set_option maxRecDepth 100000 in
set_option maxHeartbeats 1000000 in
theorem ArenaHandles_big (v0 : Value) (l : List OpD) (w : World) (hv : ROps w v0 l) (hs : ¬ smallOps l 150) :
    Calls Try.prog 5 #[v0] w fun e w' => e = .returned (.bool true) ∧ Below w.heap.size w w' := by
  have HS := Lib.hid (Small_any v0 l 150 w hv)
  have HD := Lib.hid (show decide (smallOps l 150) = false from decide_eq_false hs)
  obtain ⟨av, cv, rfl, -⟩ := hv
  go_enter Try.func5, Try.ntmps5
  go_wp2_with fail
  refine HS.out.mono ?_
  rintro e w1 ⟨rfl, hB1⟩
  rw [HD.out]
  go_wp2_with fail
  refine (known_any w1).mono ?_
  rintro e w2 ⟨rfl, hB2⟩
  go_wp2
  go_ret
  exact ⟨rfl, hB1.trans (hB2.mono hB1.size)⟩

theorem Len_own {w0 w : World} {B b : Nat} {A : Ar} {l : List Asrt} (o : Own w0 B l w) (hm : Asrt.arena b A ∈ l) :
    Calls Try.prog 20 #[.pointer (some ⟨b, 0, none⟩)] w fun e w' => e = .returned (.int .i64 A.ns.length) ∧ w = w' := by
  obtain ⟨ρ, hA⟩ := o.arena hm
  obtain ⟨a, c, mv, h0, -⟩ := hA.head
  exact len_any A b a c w h0

/-- The cell of a node's kind. -/
theorem RNodes.kind {w : World} {a : Option Addr} {n c : Nat} {ns : List Nd} (h : RNodes w (.slice a n c) ns) (hp : 0 < ns.length) : ∃ b o, a = some ⟨b, o, none⟩ ∧ n = ns.length ∧ ∀ i m, ns[i]? = some m → w.cell? ⟨b, o + i * 13, none⟩ = some (.int .i64 m.kind) := by
  obtain ⟨a', c', e, h2, h3, h4⟩ := h
  simp at e
  obtain ⟨rfl, rfl, rfl⟩ := e
  obtain ⟨b, o, h5, h6⟩ := h4 hp
  refine ⟨b, o, h5, rfl, fun i m hi => ?_⟩
  obtain ⟨kv, av, F, -⟩ := h6 i m hi
  exact F.c0

set_option maxRecDepth 100000 in
set_option maxHeartbeats 4000000 in
theorem ArenaHandles_some (v : Value) (l : List OpD) (w : World) (hv : ROps w v l) (hs : smallOps l 150) :
    Calls Try.prog 5 #[v] w fun e w' => e = .returned (.bool true) ∧ Below w.heap.size w w' := by
  have HS := Lib.hid (Small_any v l 150 w hv)
  have HD := Lib.hid (show decide (smallOps l 150) = true from decide_eq_true hs)
  obtain ⟨s1, s2⟩ := smallOps_get hs (by omega)
  have HV := Lib.hid hv
  have HM := Lib.hid s2
  obtain ⟨av, cv, rfl, hc1, hc2, hc3⟩ := hv
  have HC3 := Lib.hid hc3
  clear hs hc3 s2
  go_enter Try.func5, Try.ntmps5
  go_wp2_with fail
  refine HS.out.mono ?_
  rintro e w1 ⟨rfl, hB1⟩
  rw [HD.out]
  have HB1 := Lib.hid hB1
  have o1 := ((Own.start w).read hB1).newArena
  clear hB1 HS HD
  go_wp2_with fail
  refine (New_any w1).mono ?_
  rintro e w2 ⟨rfl, hw2⟩
  rw [← hw2] at o1
  have HO := Lib.hid o1
  clear hw2 o1
  go_wp2
  go_loopw [4] (fun i wr => ∃ k : Nat, k ≤ l.length ∧ i = .int .i64 k ∧ Hid (Own w w.heap.size [.arena w1.heap.size (runL (l.take k))] wr)) (fun i _ => l.length - (intOf i).toNat)
  case atStart => exact ⟨0, Nat.zero_le _, rfl, HO⟩
  case round =>
    obtain ⟨k, hk, rfl, hT⟩ := hrel
    by_cases hlt : k < l.length
    · obtain ⟨b1, o1, rfl, hcs⟩ := HC3.out (by omega)
      obtain ⟨x, hx⟩ : ∃ x, l[k]? = some x := ⟨_, List.getElem?_eq_getElem hlt⟩
      obtain ⟨av, F0⟩ := hcs k x hx
      obtain ⟨q1, q2⟩ := run_inv HM.out (Nat.le_of_lt hlt)
      obtain ⟨p1, p2⟩ := run_inv HM.out (Nat.succ_le_of_lt hlt)
      have hxs := HM.out x (List.mem_of_getElem? hx)
      rw [run_take hx] at p1 p2
      have hlaw := handles_law q1 x
      have hext := q1.ext_step x
      have HX := Lib.hid (run_take hx)
      have HF0 := Lib.hid F0
      have oa := hT.out
      clear hcs hx hT F0
      generalize runL (l.take k) = A at *
      obtain ⟨r, hr⟩ : ∃ r, r = A.step x := ⟨_, rfl⟩
      obtain ⟨⟨h, e⟩, A'⟩ := r
      rw [← hr] at hlaw p1 p2 hext HX
      simp only at hlaw p1 p2 hext HX
      have HQ := Lib.hid (And.intro q1 (And.intro p1 (And.intro hlaw (And.intro hext hr))))
      have hle : A.ns.length ≤ A'.ns.length := hext.le
      clear q1 p1 hlaw hext hr
      go_wp2_with fail
      refine (Nodes_own oa (b := w1.heap.size) (A := A) (by simp) (HQ.out.1.short (by omega))).mono ?_
      rintro e3 w3 ⟨a3, c3, rfl, o3⟩
      clear oa
      have F := HF0.out.below o3.low
      obtain ⟨aa, ac, rfl, -⟩ := F.at'.form
      obtain ⟨f0, f1, f2, f3, f4, f5, f6, f7, f8, f9⟩ := F.facts
      have HC := Lib.hid (o3.swap.call (fun ρ hA => Do_any A ρ _ x _ w3 hA HQ.out.1.wf F.at' (by omega) (by omega)))
      clear F
      go_wp2_with fail
      refine HC.out.mono ?_
      rintro e4 w4 ⟨rfl, o4⟩
      rw [← HQ.out.2.2.2.2] at o4 ⊢
      clear o3 HC f0 f1 f2 f3 f4 f5 f6 f7 f8 f9
      unfold pairV
      simp only at o4 ⊢
      go_wp2_with fail
      refine (Nodes_own o4 (b := w1.heap.size) (A := A') (by simp) (HQ.out.2.1.short (by omega))).mono ?_
      rintro e5 w5 ⟨a5, c5, rfl, o5⟩
      clear o4
      go_wp2_with fail
      refine (Len_own o5 (b := w1.heap.size) (A := A') (by simp)).mono ?_
      rintro e6 w6 ⟨rfl, rfl⟩
      have hnn : ((A'.ns.length : Int) != A'.ns.length) = false := by simp
      have HKD := Lib.hid (And.intro (o5.nlist (v := .slice a3 A.ns.length c3) (ns := A.ns) (by simp)) (o5.nlist (v := .slice a5 A'.ns.length c5) (ns := A'.ns) (by simp)))
      have HO5 := Lib.hid o5
      clear o5
      have hsz5 : A.ns.length ≤ 4000 := by omega
      have hsz6 : A'.ns.length ≤ 4000 := by omega
      go_wp2
      go_loopw [9] (fun j wr2 => ∃ jj : Nat, jj ≤ A.ns.length ∧ j = .int .i64 jj ∧ Hid (Below w5.heap.size w5 wr2)) (fun j _ => A.ns.length - (intOf j).toNat)
      case atStart => exact ⟨0, Nat.zero_le _, rfl, Below.refl _ _⟩
      case round =>
        obtain ⟨jj, hj, rfl, hB⟩ := hrel
        by_cases hlt2 : jj < A.ns.length
        · obtain ⟨n, n', hn, hn', hkk⟩ := ext_kinds HQ.out.2.2.2.1 hlt2
          obtain ⟨b3, o3, rfl, -, g3⟩ := HKD.out.1.kind (by omega)
          obtain ⟨b5, o5, rfl, -, g5⟩ := HKD.out.2.kind (by omega)
          have d3 := Below.old hB.out (g3 jj n hn)
          have d5 := Below.old hB.out (g5 jj n' hn')
          rw [hkk] at d5
          have hne : (n.kind != n.kind) = false := by simp
          have HBB := Lib.hid (fun q => Below.drewN hB.out q)
          clear g3 g5 hn hn' hkk hB
          generalize n.kind = nk at *
          go_wp2_with (go_quiet (fail))
          go_wp2
          go_roundw
          case rel => exact ⟨jj + 1, hlt2, by go_num, HBB.out _⟩
          case measure => simp [intOf]; omega
        · have o7 := (HO5.out.read hB.out).drop.swap.drop
          have F := HF0.out.below o7.low
          have f0 := F.facts.1
          have HO7 := Lib.hid (show Own w w.heap.size [.arena w1.heap.size (runL (l.take (k + 1)))] wr by rw [HX.out]; exact o7)
          have hlw := HQ.out.2.2.1
          unfold createdP at hlw
          clear hB HO5 o7 F HF0 HKD
          have hcases : (x.kind < 1 ∧ x.kind ≠ 7 ∧ A'.ns.length = A.ns.length) ∨ (6 < x.kind ∧ x.kind = 7) ∨ (6 < x.kind ∧ x.kind ≠ 7 ∧ A'.ns.length = A.ns.length) ∨ (1 ≤ x.kind ∧ x.kind ≤ 6 ∧ e ≠ 0 ∧ A'.ns.length = A.ns.length) ∨ (1 ≤ x.kind ∧ x.kind ≤ 6 ∧ e = 0 ∧ h = A.ns.length + 1 ∧ h ≤ A'.ns.length) := by
            by_cases hk1 : x.kind < 1
            · exact .inl ⟨hk1, by omega, hlw.2 (fun q => by have := q.1; omega) (by omega)⟩
            · by_cases hk6 : 6 < x.kind
              · by_cases hk7 : x.kind = 7
                · exact .inr (.inl ⟨hk6, hk7⟩)
                · exact .inr (.inr (.inl ⟨hk6, hk7, hlw.2 (fun q => by have := q.2.1; omega) hk7⟩))
              · by_cases he0 : e = 0
                · obtain ⟨q1, q2⟩ := hlw.1 ⟨by omega, by omega, he0⟩
                  exact .inr (.inr (.inr (.inr ⟨by omega, by omega, he0, q1, by rw [q1]; exact q2⟩)))
                · exact .inr (.inr (.inr (.inl ⟨by omega, by omega, he0, hlw.2 (fun q => he0 q.2.2) (by omega)⟩)))
          clear hlw
          generalize x.kind = xk at *
          rcases hcases with ⟨k1, k7, kl⟩ | ⟨k6, k7⟩ | ⟨k6, k7, kl⟩ | ⟨k1, k6, k0, kl⟩ | ⟨k1, k6, k0, kh, kl⟩
          · have t7 : (xk != 7) = true := by simpa using k7
            have tl : ((A'.ns.length : Int) != A.ns.length) = false := by simp [kl]
            have KL := Lib.hid kl
            clear kl k7
            go_wp2
            go_roundw
            case rel => exact ⟨k + 1, hlt, by go_num, HO7⟩
            case measure => simp [intOf]; omega
          · subst k7
            go_wp2
            go_roundw
            case rel => exact ⟨k + 1, hlt, by go_num, HO7⟩
            case measure => simp [intOf]; omega
          · have t7 : (xk != 7) = true := by simpa using k7
            have tl : ((A'.ns.length : Int) != A.ns.length) = false := by simp [kl]
            have KL := Lib.hid kl
            clear kl k7
            go_wp2
            go_roundw
            case rel => exact ⟨k + 1, hlt, by go_num, HO7⟩
            case measure => simp [intOf]; omega
          · have t7 : (xk != 7) = true := by simp; omega
            have t0 : (e == 0) = false := by simpa using k0
            have tl : ((A'.ns.length : Int) != A.ns.length) = false := by simp [kl]
            have KL := Lib.hid kl
            clear kl k0
            go_wp2
            go_roundw
            case rel => exact ⟨k + 1, hlt, by go_num, HO7⟩
            case measure => simp [intOf]; omega
          · subst k0
            have th : (h != (A.ns.length : Int) + 1) = false := by simp [kh]
            have KH := Lib.hid kh
            clear kh
            go_wp2
            go_roundw
            case rel => exact ⟨k + 1, hlt, by go_num, HO7⟩
            case measure => simp [intOf]; omega
    · have hlow := hT.out.low
      have HL := Lib.hid hlow
      clear hT hlow
      go_wp2_with fail
      refine (known_any wr).mono ?_
      rintro e w6 ⟨rfl, hB6⟩
      have HB := Lib.hid (HL.out.trans (hB6.mono HL.out.size))
      clear hB6
      go_wp2
      go_ret
      exact ⟨rfl, HB.out⟩

/-- **ArenaHandles: the walk.** -/
theorem ArenaHandles_any (v : Value) (l : List OpD) (w : World) (hv : ROps w v l) :
    Calls Try.prog 5 #[v] w fun e w' => e = .returned (.bool true) ∧ Below w.heap.size w w' := by
  by_cases hs : smallOps l 150
  · exact ArenaHandles_some v l w hv hs
  · exact ArenaHandles_big v l w hv hs

end Go.Proofs.Ytnfdcfagdidmhaa
