/-
  Walk, and the law's walk.
-/
import Derived.Test.YtnfdcfagdidmhaaW2
import Derived.Test.YtnfdcfagdidmhaaRG
namespace Go.Proofs.Ytnfdcfagdidmhaa
open Go.RowKit Go.Shelf
set_option linter.unusedVariables false

attribute [local go_sem] Oper.semAt_some

theorem Walk_any (b : Nat) (h : Int) (w : World) : Calls Try.prog 54 #[.pointer (some ⟨b, 0, none⟩), .int .i64 h] w fun e w' =>
      e = .returned (.func (.func 104) #[] #[.pointer (some ⟨w.heap.size, 0, none⟩), .pointer (some ⟨w.heap.size + 1, 0, none⟩)]) ∧
      w' = (w.alloc (.cells #[.pointer (some ⟨b, 0, none⟩)] 25)).alloc (.cells #[.int .i64 h] 3) := by
  go_enter Try.func54, Try.ntmps54
  go_wp2
  go_ret
  exact ⟨rfl, rfl⟩

set_option maxRecDepth 100000 in
set_option maxHeartbeats 1000000 in
theorem Walk1_seq (A : Ar) (ρ : Nat → Nat) (b ab hb : Nat) (h : Int) (n : Nat) (hn : 1 ≤ n) (w : World) (hA : AMem w ρ b A) (hI : A.Inv) (hsm : A.ns.length ≤ 100000)
    (h1 : w.heap[ab]? = some (.cells #[.pointer (some ⟨b, 0, none⟩)] 25 (0, 0))) (h2 : w.heap[hb]? = some (.cells #[.int .i64 h] 3 (0, 0))) :
    SeqR Fence.wide n Try.prog 104 #[.pointer (some ⟨ab, 0, none⟩), .pointer (some ⟨hb, 0, none⟩)] (fun x : Int => #[Value.int .i64 x]) (fun ys => ys = A.walk h) (fun pre => ∃ rest, A.walk h = pre ++ rest) w := by
  intro l J Jx W hB hj hY
  have k1 := box_cell ((hB.block _ (lt_of_block h1)).trans h1)
  have k2 := box_cell ((hB.block _ (lt_of_block h2)).trans h2)
  have hA1 := hA.below hB
  obtain ⟨a, c, mv, g0, -⟩ := hA1.head
  have HJ := Lib.hid hj
  have HY := Lib.hid hY
  clear hj hY
  refine callsIn_of_wp Try.func104 rfl trivial ?_ rfl
  simp only [Try.ntmps104, List.size_toArray, List.length_cons, List.length_nil, Nat.reduceAdd, Nat.reduceSub, Array.replicate_succ, Array.replicate_zero, List.push_toArray, List.append_toArray, List.nil_append, List.cons_append]
  by_cases hh : A.has h
  · have hd : decide (A.has h) = true := by simp [hh]
    have HH := Lib.hid hh
    clear hh
    gi_wp2_with fail
    refine ⟨trivial, ?_⟩
    refine (callsIn_wide.2 (has_any A b a c h _ g0)).mono ?_
    rintro e w2 ⟨rfl, rfl⟩
    rw [hd]
    gi_wp2_with fail
    refine ⟨trivial, ?_⟩
    refine (callsIn_wide.2 (preorder_any A ρ b W.heap.size hI (fun k hk => hA1.1 k hk) hsm h HH.out (.slice none 0 0) [] W hA1 (Nat.le_refl _) (World.ownsRow_nil _ _ _ _) (by have := walk_len hI h; simp; omega))).mono ?_
    rintro e W0 ⟨hB0, v', rfl, hO⟩
    simp only [List.nil_append] at hO
    have hJ0 := HJ.out W0 hB0
    obtain ⟨va, vc, rfl⟩ := ownsForm hO
    have hwl := walk_len hI h
    have HO := Lib.hid hO
    have HJ0 := Lib.hid hJ0
    clear hO hJ0
    gi_wp2
    gi_loopw [14] (fun i wr => ∃ (k : Nat), k ≤ (A.walk h).length ∧ i = .int .i64 k ∧ Hid (J W0.heap.size ((A.walk h).take k) wr ∧ ∀ q, W.heap.size ≤ q → q < W0.heap.size → wr.heap[q]? = W0.heap[q]?)) (fun i _ => (A.walk h).length - (intOf i).toNat)
    case atStart => exact ⟨0, Nat.zero_le _, rfl, HJ0.out, fun _ _ _ => rfl⟩
    case round =>
      obtain ⟨k, hk, rfl, hT⟩ := hrel
      by_cases hlt : k < (A.walk h).length
      · obtain ⟨y, hy⟩ : ∃ y, (A.walk h)[k]? = some y := ⟨_, List.getElem?_eq_getElem hlt⟩
        obtain ⟨b1, o1, rfl, -, hcs⟩ := (ints_reads (owns_keep HO.out hT.out.2)).cells (by omega)
        have d1 := hcs k y hy
        have hst : (A.walk h).take (k + 1) = (A.walk h).take k ++ [y] := by
          rw [List.take_succ_eq_append_getElem hlt, (List.getElem?_eq_some_iff.1 hy).2]
        have hrest : ∃ rest, A.walk h = (A.walk h).take (k + 1) ++ rest := ⟨(A.walk h).drop (k + 1), (List.take_append_drop _ _).symm⟩
        have HT := Lib.hid (And.intro hst hrest)
        clear hcs hy hst hrest
        obtain ⟨fn, tmps, assign, body, hy, hR⟩ := HY.out W0.heap.size _ y wr (by rw [← HT.out.1]; exact HT.out.2) hT.out.1
        gi_wp2
        refine hR.mono ?_
        rintro e W3 (⟨rfl, hJ3, hU3⟩ | ⟨rfl, hJx3⟩)
        · have hrel : Hid (J W0.heap.size ((A.walk h).take (k + 1)) W3 ∧ ∀ q, W.heap.size ≤ q → q < W0.heap.size → W3.heap[q]? = W0.heap[q]?) := Lib.hid ⟨by rw [HT.out.1]; exact hJ3, fun q h1 h2 => (hU3 q h1 h2).trans (hT.out.2 q h1 h2)⟩
          clear hJ3 hU3 hT hy hR
          gi_wp2
          go_roundw
          case rel => exact ⟨k + 1, hlt, by go_num, hrel⟩
          case measure => simp [intOf]; omega
        · have hfin := Lib.hid (And.intro HT.out.2 (show Jx W0.heap.size ((A.walk h).take (k + 1)) W3 by rw [HT.out.1]; exact hJx3))
          clear hJx3 hT hy hR
          gi_wp2
          refine bodyPost_ret (results_none rfl _ _ _) rfl ?_
          exact ⟨⟨_, rfl⟩, .inr ⟨_, _, hfin.out.1, hfin.out.2⟩⟩
      · have hkl : (A.walk h).take k = A.walk h := List.take_of_length_le (by omega)
        have hfin := Lib.hid hT.out.1
        rw [hkl] at hfin
        clear hT hkl
        gi_wp2
        go_end0
        exact ⟨⟨_, rfl⟩, .inl ⟨_, _, rfl, hfin.out⟩⟩
  · have hd : decide (A.has h) = false := by simp [hh]
    have HH := Lib.hid hh
    clear hh
    gi_wp2_with fail
    refine ⟨trivial, ?_⟩
    refine (callsIn_wide.2 (has_any A b a c h _ g0)).mono ?_
    rintro e w2 ⟨rfl, rfl⟩
    rw [hd]
    gi_wp2
    refine bodyPost_ret (results_none rfl _ _ _) rfl ?_
    exact ⟨⟨_, rfl⟩, .inl ⟨[], _, (walk_no HH.out).symm, HJ.out W (Below.refl _ _)⟩⟩

end Go.Proofs.Ytnfdcfagdidmhaa
