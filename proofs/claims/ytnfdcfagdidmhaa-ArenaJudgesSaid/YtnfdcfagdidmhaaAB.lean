/-
  slices.Backward's iterator; what the program's rooted keeps in memory; steps up, followed.
-/
import Derived.Test.YtnfdcfagdidmhaaAL
namespace Go.Proofs.Ytnfdcfagdidmhaa
open Go.RowKit Go.Shelf Classical
set_option linter.unusedVariables false

attribute [local go_sem] Oper.semAt_some

/-- A list from its end, with the indexes. -/
def backL (L : List Int) : List { p : Int × Int // p.2 ∈ L } := List.ofFn (fun t : Fin L.length => ⟨((L.length : Int) - 1 - (t : Nat), L[L.length - 1 - (t : Nat)]'(by omega)), List.getElem_mem _⟩)
theorem backL_len (L : List Int) : (backL L).length = L.length := by simp [backL]
theorem backL_get {L : List Int} {t : Nat} {y : Int} (h : t < L.length) (hy : L[L.length - 1 - t]? = some y) : ∃ hm, (backL L)[t]? = some ⟨((L.length : Int) - 1 - t, y), hm⟩ := by
  obtain ⟨hi, rfl⟩ := List.getElem?_eq_some_iff.1 hy
  exact ⟨List.getElem_mem _, by simp [backL, h]⟩
theorem backL_snd {L : List Int} {x : Int} : (∃ p ∈ backL L, p.1.2 = x) ↔ x ∈ L := by
  constructor
  · rintro ⟨p, hp, rfl⟩
    exact p.2
  · intro hx
    obtain ⟨i, hi, rfl⟩ := List.getElem_of_mem hx
    obtain ⟨hm, hg⟩ := backL_get (L := L) (t := L.length - 1 - i) (y := L[i]) (by omega) (by rw [show L.length - 1 - (L.length - 1 - i) = i by omega, List.getElem?_eq_getElem hi])
    exact ⟨_, List.mem_of_getElem? hg, rfl⟩

set_option maxRecDepth 100000 in
set_option maxHeartbeats 1000000 in
theorem Back_seq (L : List Int) (va : Option Addr) (vc wb base : Nat) (n : Nat) (hn : 1 ≤ n) (hL : L.length ≤ 1000000) (w : World) (Cs : Nat → Prop)
    (h1 : w.heap[wb]? = some (.cells #[.slice va L.length vc] 32 (0, 0))) (h2 : w.ownsRow base 3 1 (.slice va L.length vc) L.length (L.map intv))
    (hC1 : ¬ Cs wb) (hC2 : ∀ k, (Value.slice va L.length vc).ownBlock = some k → ¬ Cs k) :
    SeqU Fence.wide n Try.prog 136 #[.pointer (some ⟨wb, 0, none⟩)] (fun p : { p : Int × Int // p.2 ∈ L } => #[Value.int .i64 p.1.1, Value.int .i64 p.1.2]) (fun _ => False) Cs (fun ys => ys = backL L) (fun pre => ∃ rest, backL L = pre ++ rest) w := by
  intro l J Jx W hB hJ hJx hY hj
  have hwl := lt_of_block h1
  have HOB := Lib.hid (owns_block h2)
  have k0 := box_cell ((hB.block _ hwl).trans h1)
  have HY := Lib.hid hY
  have HJ := Lib.hid hj
  have HB := Lib.hid hB
  have H1 := Lib.hid h1
  have H2 := Lib.hid h2
  have HC := Lib.hid (And.intro hC1 hC2)
  clear hY hJ hJx hj hB h1 h2 hC1 hC2
  refine callsIn_of_wp Try.func136 rfl trivial ?_ rfl
  simp only [Try.ntmps136, List.size_toArray, List.length_cons, List.length_nil, Nat.reduceAdd, Nat.reduceSub, Array.replicate_succ, Array.replicate_zero, List.push_toArray, List.append_toArray, List.nil_append, List.cons_append]
  gi_wp2
  gi_loopw [3] (fun i wr => ∃ t : Nat, t ≤ L.length ∧ i = .int .i64 ((L.length : Int) - 1 - t) ∧ Hid (J ((backL L).take t) wr) ∧ Hid (wr.heap[wb]? = some (.cells #[.slice va L.length vc] 32 (0, 0))) ∧ Hid (wr.ownsRow base 3 1 (.slice va L.length vc) L.length (L.map intv))) (fun i _ => (intOf i + 1).toNat)
  case atStart => exact ⟨0, Nat.zero_le _, by go_num, HJ, Lib.hid ((HB.out.block _ hwl).trans H1.out), Lib.hid (owns_upd H2.out (Upd.below HB.out) (fun _ _ h => h))⟩
  case round =>
    clear k0 HJ
    obtain ⟨t, ht, rfl, hJt, hb, ho⟩ := hrel
    have k0 := box_cell hb.out
    by_cases hlt : t < L.length
    · obtain ⟨b1, o1, rfl, -, hcs⟩ := (ints_reads ho.out).cells (by omega)
      obtain ⟨y, hy⟩ : ∃ y, L[L.length - 1 - t]? = some y := ⟨_, List.getElem?_eq_getElem (by omega)⟩
      have d1 := hcs (L.length - 1 - t) y hy
      obtain ⟨hm, hbt⟩ := backL_get hlt hy
      have HST := Lib.hid (show (backL L).take (t + 1) = (backL L).take t ++ [⟨((L.length : Int) - 1 - t, y), hm⟩] by
        obtain ⟨hi, e⟩ := List.getElem?_eq_some_iff.1 hbt
        rw [List.take_succ_eq_append_getElem hi, e])
      clear hbt
      have hnt : ((L.length : Int) - 1 - t).toNat = L.length - 1 - t := by omega
      have hge : (0 : Int) ≤ (L.length : Int) - 1 - t := by omega
      have hge2 : ¬ (L.length : Int) - 1 - t < 0 := by omega
      have hlt2 : (L.length : Int) - 1 - t < (L.length : Int) := by omega
      clear hcs hy
      obtain ⟨fn, tmps, assign, body, hy, hR⟩ := HY.out _ ⟨((L.length : Int) - 1 - t, y), hm⟩ wr hJt.out
      gi_wp2
      refine hR.mono ?_
      rintro e W3 (⟨rfl, hJ3, hU3⟩ | ⟨rfl, hJx3⟩)
      · have hb3 := (hU3.block wb (lt_of_block hb.out) (fun h => h.elim HC.out.1 (fun h => by omega))).trans hb.out
        have ho3 := owns_upd ho.out hU3 (fun k hk h => h.elim (HC.out.2 k hk) (fun h => by have := (HOB.out k hk).2; omega))
        have HR3 := Lib.hid (And.intro hb3 ho3)
        have HJ3 : Hid (J ((backL L).take (t + 1)) W3) := Lib.hid (by rw [HST.out]; exact hJ3)
        clear hb3 ho3 hJ3 hU3 hy hR
        gi_wp2
        go_roundw
        case rel => exact ⟨t + 1, hlt, by go_num, HJ3, Lib.hid HR3.out.1, Lib.hid HR3.out.2⟩
        case measure => simp [intOf]; omega
      · have HF := Lib.hid (And.intro (show ∃ rest, backL L = (backL L).take (t + 1) ++ rest from ⟨(backL L).drop (t + 1), (List.take_append_drop _ _).symm⟩) (show Jx ((backL L).take (t + 1)) W3 by rw [HST.out]; exact hJx3))
        clear hJx3 hy hR
        gi_wp2
        refine bodyPost_ret (results_none rfl _ _ _) rfl ?_
        exact ⟨⟨_, rfl⟩, .inr ⟨_, HF.out.1, HF.out.2⟩⟩
    · have htl : (backL L).take t = backL L := List.take_of_length_le (by rw [backL_len]; omega)
      have hge : (L.length : Int) - 1 - t < 0 := by omega
      have HF : Hid (J (backL L) wr) := Lib.hid (by have := hJt.out; rw [htl] at this; exact this)
      clear hJt htl
      gi_wp2
      go_end0
      exact ⟨⟨_, rfl⟩, .inl ⟨_, rfl, HF.out⟩⟩

theorem Backward_any (va : Option Addr) (n vc : Nat) (w : World) : Calls Try.prog 125 #[.slice va n vc] w fun e w' =>
      e = .returned (.func (.func 136) #[] #[.pointer (some ⟨w.heap.size, 0, none⟩)]) ∧ w' = w.alloc (.cells #[.slice va n vc] 32) := by
  go_enter Try.func125, Try.ntmps125
  go_wp2
  go_ret
  exact ⟨rfl, rfl⟩

end Go.Proofs.Ytnfdcfagdidmhaa
