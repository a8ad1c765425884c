/-
  Parts: L1, L2, T1, M1, D1.
-/
import Derived.BigQuiet
import Derived.Deep.MidRow
import Derived.Deep.Slices
import Derived.Deep.Fields
import Derived.Test.YtpicinjcmjaogaaGreatN07

/- The law ArenaInert: what the calls answer (plain), and the walk. -/
namespace Go.Proofs.YtpicinjcmjaogaaGreat
open Go.RowKit
set_option linter.unusedVariables false

def templB : ByteArray := ⟨#[116, 101, 109, 112, 108, 97, 116, 101]⟩

end Go.Proofs.YtpicinjcmjaogaaGreat

/- The law ArenaInert: the walk. -/
namespace Go.Proofs.YtpicinjcmjaogaaGreat
open Go.RowKit
set_option linter.unusedVariables false

/-- The law's first test fails: it answers by 'known'. -/
theorem Own.back {w0 w w' : World} {B : Nat} {l : List Asrt} (h : Own w0 B l w) (hb : Below w.heap.size w w') : Below B w0 w' := h.low.trans (hb.mono h.big)

end Go.Proofs.YtpicinjcmjaogaaGreat

/- The document's SameInts, Without. -/
namespace Go.Proofs.YtpicinjcmjaogaaGreat
open Go.RowKit
set_option linter.unusedVariables false

theorem SameInts_any (v1 v2 : Value) (l1 l2 : List Int) (w : World) (h1 : RInts w v1 l1) (h2 : RInts w v2 l2) :
    Calls Tryz.prog 36 #[v1, v2] w fun e w' => e = .returned (.bool (decide (l1 = l2))) ∧ Below w.heap.size w w' := by
  obtain ⟨a1, c1, rfl, p1, p2, p3⟩ := h1.form
  obtain ⟨a2, c2, rfl, q1, q2, q3⟩ := h2.form
  clear h1 h2
  by_cases hl : l1.length = l2.length
  · have hl1 : ((l1.length : Int) != l2.length) = false := by simp [hl]
    have HL := Lib.hid hl
    go_enter Tryz.func36, Tryz.ntmps36
    go_wp2
    go_loopw [5] (fun i wr => ∃ k : Nat, k ≤ l1.length ∧ i = .int .i64 k ∧ Hid (∀ j : Nat, j < k → l1[j]? = l2[j]?) ∧ Below w.heap.size w wr) (fun i _ => l1.length - (intOf i).toNat)
    case atStart => exact ⟨0, Nat.zero_le _, rfl, fun j hj => by omega, Below.refl _ _⟩
    case round =>
      obtain ⟨k, hk, rfl, hT, hB⟩ := hrel
      by_cases hlt : k < l1.length
      · have hlt2 : k < l2.length := by have := HL.out; omega
        obtain ⟨b1, o1, rfl, hcs1⟩ := p3 (by omega)
        obtain ⟨b2, o2, rfl, hcs2⟩ := q3 (by omega)
        have d1 := Below.old hB (hcs1 k hlt)
        have d2 := Below.old hB (hcs2 k hlt2)
        clear hcs1 hcs2 p3 q3
        obtain ⟨x, hx⟩ : ∃ x, l1[k]? = some x := ⟨_, List.getElem?_eq_getElem hlt⟩
        obtain ⟨y, hy⟩ : ∃ y, l2[k]? = some y := ⟨_, List.getElem?_eq_getElem hlt2⟩
        rw [hx] at d1
        rw [hy] at d2
        simp only [Option.getD_some] at d1 d2
        have HX := Lib.hid (And.intro hx hy)
        clear hx hy
        by_cases he : x = y
        · have he1 : (x != y) = false := by simp [he]
          have HE := Lib.hid he
          clear he
          go_wp2_with (go_quiet (fail))
          go_wp2
          go_roundw
          case rel => exact ⟨k + 1, hlt, by go_num, fun j hj => by
              by_cases hjk : j < k
              · exact hT.out j hjk
              · have : j = k := by omega
                rw [this, HX.out.1, HX.out.2, HE.out], Below.drewN hB _⟩
          case measure => simp [intOf]; omega
        · have he1 : (x != y) = true := by simp [he]
          have HE := Lib.hid he
          clear he
          go_wp2_with (go_quiet (fail))
          go_wp2
          go_ret
          exact ⟨ret_bool (decide_eq_false (fun h => HE.out (by have a := HX.out.1; have b := HX.out.2; rw [h, b] at a; simpa using a.symm))).symm, Below.drewN hB _⟩
      · have hfin : l1 = l2 := by
          apply List.ext_getElem?
          intro j
          by_cases hj : j < k
          · exact hT.out j hj
          · have := HL.out
            rw [List.getElem?_eq_none (by omega), List.getElem?_eq_none (by omega)]
        have HF := Lib.hid hfin
        clear hfin
        go_wp2
        go_ret
        exact ⟨ret_bool (decide_eq_true HF.out).symm, hB⟩
  · have hl1 : ((l1.length : Int) != l2.length) = true := by simp; omega
    have HL := Lib.hid hl
    clear hl
    go_enter Tryz.func36, Tryz.ntmps36
    go_wp2
    go_ret
    exact ⟨ret_bool (decide_eq_false (fun h => HL.out (by rw [h]))).symm, Below.refl _ _⟩

end Go.Proofs.YtpicinjcmjaogaaGreat

/- The law ArenaMoves: what the calls answer. No walk here. -/
namespace Go.Proofs.YtpicinjcmjaogaaGreat
open Go.RowKit
set_option linter.unusedVariables false

def Ar.kidsOf (A : Ar) (h : Int) : List Int := if A.has h then (A.get h).kids else []
def Ar.parentOf (A : Ar) (h : Int) : Int := if A.has h then (A.get h).parent else 0

theorem ints_reads {w : World} {b : Nat} {v : Value} {l : List Int} (h : w.ownsRow b 3 1 v l.length (l.map intv)) : RInts w v l := by
  have h' : ROwn w (fun k => if v.ownBlock = some k then 1 else 0) 1 3 1 v l.length (l.map intv) := by
    refine ⟨⟨h.1, ?_⟩, fun g hg => by simp [hg]⟩
    rcases h.2 with h2 | ⟨g, cap, cur, h3, _, h4⟩
    · exact .inl h2
    · exact .inr ⟨g, cap, cur, h3, Nat.zero_le _, h4⟩
  exact h'.reads

/-- A list of integers in the call's own memory. -/
abbrev Asrt.ints (v : Value) (l : List Int) : Asrt := .row 3 1 v l.length (l.map intv)

theorem Own.ints {w0 w : World} {B : Nat} {v : Value} {x : List Int} {l : List Asrt} (h : Own w0 B l w) (hm : Asrt.ints v x ∈ l) : RInts w v x := ints_reads (h.row hm)

theorem Kids_own {w0 w : World} {B b : Nat} {A : Ar} {l : List Asrt} {h : Int} (o : Own w0 B l w) (hm : Asrt.arena b A ∈ l) (hS : A.Short) :
    Calls Tryz.prog 33 #[.pointer (some ⟨b, 0, none⟩), .int .i64 h] w fun e w' => ∃ a c, e = .returned (.slice a (A.kidsOf h).length c) ∧ Own w0 B (.ints (.slice a (A.kidsOf h).length c) (A.kidsOf h) :: l) w' := by
  obtain ⟨ρ, hA⟩ := o.arena hm
  refine (Kids_any A ρ b h w hA (fun hh => (hS.get hh).1)).mono ?_
  rintro e w' ⟨hB, v, rfl, ho⟩
  obtain ⟨a, c, rfl⟩ := ownsForm ho
  exact ⟨a, c, rfl, o.newRow hB ho⟩
theorem Parent_own {w0 w : World} {B b : Nat} {A : Ar} {l : List Asrt} {h : Int} (o : Own w0 B l w) (hm : Asrt.arena b A ∈ l) :
    Calls Tryz.prog 37 #[.pointer (some ⟨b, 0, none⟩), .int .i64 h] w fun e w' => e = .returned (.int .i64 (A.parentOf h)) ∧ w = w' := by
  obtain ⟨ρ, hA⟩ := o.arena hm
  exact Parent_any A ρ b h w hA
end Go.Proofs.YtpicinjcmjaogaaGreat

/- Contracts of dom: kind, document, check, next, nodes. (Printed by gend1.py.) -/
namespace Go.Proofs.YtpicinjcmjaogaaGreat
open Go.RowKit
set_option linter.unusedVariables false

theorem NodeE_own {w0 w : World} {B b : Nat} {A : Ar} {l : List Asrt} {h : Int} {n : Nd} {er : Int} (o : Own w0 B l w) (hm : Asrt.arena b A ∈ l) (hS : A.Short) (hn : (if A.has h then A.get h else zeroNd) = n) (he : (if A.has h then (0 : Int) else 3) = er) :
    Calls Tryz.prog 34 #[.pointer (some ⟨b, 0, none⟩), .int .i64 h] w fun e w' => ∃ ka kl kc aa al ac, e = .returned (.tuple #[.agg (n.cells (.slice ka kl kc) (.slice aa al ac)).toArray, .int .i64 er]) ∧ Own w0 B l w' ∧ Below w.heap.size w w' := by
  subst hn
  subst he
  obtain ⟨ρ, hA⟩ := o.arena hm
  refine (Node_any A ρ b h w hA hS).mono ?_
  rintro e w' ⟨hB, kv, av, rfl, h1, h2⟩
  obtain ⟨ka, kc, rfl⟩ := ownsForm h1
  obtain ⟨aa, ac, rfl⟩ := ownsForm h2
  exact ⟨ka, _, kc, aa, _, ac, rfl, o.read hB, hB⟩

theorem Kind_own {w0 w : World} {B b : Nat} {A : Ar} {l : List Asrt} {h : Int} {n : Nd} (o : Own w0 B l w) (hm : Asrt.arena b A ∈ l) (hS : A.Short) (hh : A.has h) (hn : A.get h = n) :
    Calls Tryz.prog 90 #[.pointer (some ⟨b, 0, none⟩), .int .i64 h] w fun e w' => e = .returned (.int .i64 n.kind) ∧ Own w0 B l w' ∧ Below w.heap.size w w' := by
  have oS := Own.start w
  have HC := Lib.hid (Node_own o hm hS hh hn)
  have HO := Lib.hid o
  clear o
  go_enter Tryz.func90, Tryz.ntmps90
  go_wp2_with fail
  refine HC.out.mono ?_
  rintro e w1 ⟨ka, kl, kc, aa, al, ac, rfl, -, hB1⟩
  have o1 := oS.read hB1
  clear oS HC
  have HT := Lib.hid (nodeBox_facts (w := w1) n ka kc aa ac kl al)
  have o5 := o1.nodeBox n (.slice ka kl kc) (.slice aa al ac)
  go_wp2_with ((with_reducible refine wpList_store_mid ?_ 46 (.tmp 5) (.tmp 11) ?_ w1.heap.size 0 (n.cells (.slice ka kl kc) (.slice aa al ac)).toArray ?_ ?_ ?_ ?_ ?_ ?_); exact rfl; exact rfl; exact rfl; exact rfl; exact HT.out.1; exact sizeNode _ _ _; exact all_oneCell_toArray HT.out.2; clear HT; generalize hw5 : World.setCells _ _ _ _ = w5 at o5 ⊢; generalize hg5 : w1.heap.size = g5 at o5 ⊢; clear hw5 hg5; have q1 : w5.cell? ⟨g5, 0, none⟩ = some (.int .i64 n.kind) := (cell_of_row w5 _ _ _ _ _ (o5.box (g := g5) (o := .cells (n.cells (.slice ka kl kc) (.slice aa al ac)).toArray 46 (0, 0)) (by simp))).trans rfl)
  go_wp2
  go_ret
  have hlow := o5.low
  exact ⟨rfl, HO.out.read hlow, hlow⟩

theorem Document_own {w0 w : World} {B b : Nat} {A : Ar} {l : List Asrt} {h : Int} {n : Nd} (o : Own w0 B l w) (hm : Asrt.arena b A ∈ l) (hS : A.Short) (hh : A.has h) (hn : A.get h = n) :
    Calls Tryz.prog 139 #[.pointer (some ⟨b, 0, none⟩), .int .i64 h] w fun e w' => e = .returned (.int .i64 n.doc) ∧ Own w0 B l w' ∧ Below w.heap.size w w' := by
  have oS := Own.start w
  have HC := Lib.hid (Node_own o hm hS hh hn)
  have HO := Lib.hid o
  clear o
  go_enter Tryz.func139, Tryz.ntmps139
  go_wp2_with fail
  refine HC.out.mono ?_
  rintro e w1 ⟨ka, kl, kc, aa, al, ac, rfl, -, hB1⟩
  have o1 := oS.read hB1
  clear oS HC
  have HT := Lib.hid (nodeBox_facts (w := w1) n ka kc aa ac kl al)
  have o5 := o1.nodeBox n (.slice ka kl kc) (.slice aa al ac)
  go_wp2_with ((with_reducible refine wpList_store_mid ?_ 46 (.tmp 5) (.tmp 11) ?_ w1.heap.size 0 (n.cells (.slice ka kl kc) (.slice aa al ac)).toArray ?_ ?_ ?_ ?_ ?_ ?_); exact rfl; exact rfl; exact rfl; exact rfl; exact HT.out.1; exact sizeNode _ _ _; exact all_oneCell_toArray HT.out.2; clear HT; generalize hw5 : World.setCells _ _ _ _ = w5 at o5 ⊢; generalize hg5 : w1.heap.size = g5 at o5 ⊢; clear hw5 hg5; have q1 : w5.cell? ⟨g5, 3, none⟩ = some (.int .i64 n.doc) := (cell_of_row w5 _ _ _ _ _ (o5.box (g := g5) (o := .cells (n.cells (.slice ka kl kc) (.slice aa al ac)).toArray 46 (0, 0)) (by simp))).trans rfl)
  go_wp2
  go_ret
  have hlow := o5.low
  exact ⟨rfl, HO.out.read hlow, hlow⟩

open Classical in
/-- The first error of a call with handles; the one at place opt may be 0. -/
noncomputable def chk (A : Ar) (opt : Int) (l : List Int) : Int := if ∀ (i : Nat) x, l[i]? = some x → (x = 0 ∧ (i : Int) = opt) ∨ A.has x then 0 else 3

set_option maxRecDepth 100000 in
set_option maxHeartbeats 2000000 in
theorem CheckD_own {w0 w : World} {B b : Nat} {A : Ar} {ll : List Asrt} {opt : Int} (o : Own w0 B ll w) (hm : Asrt.arena b A ∈ ll) (hS : A.Short) (v : Value) (l : List Int) (hv : RInts w v l) :
    Calls Tryz.prog 89 #[.pointer (some ⟨b, 0, none⟩), .int .i64 opt, v] w fun e w' => e = .returned (.int .i64 (chk A opt l)) ∧ Own w0 B ll w' ∧ Below w.heap.size w w' := by
  obtain ⟨av, cv, rfl, hc1, hc2, hc3⟩ := hv.form
  have HS := Lib.hid hS
  have HM := Lib.hid hm
  have HO := Lib.hid o
  clear hS hv o hm
  go_enter Tryz.func89, Tryz.ntmps89
  go_wp2
  go_loopw [15] (fun i wr => ∃ k : Nat, k ≤ l.length ∧ i = .int .i64 k ∧ Hid (Below w.heap.size w wr) ∧ Hid (∀ (j : Nat) x, j < k → l[j]? = some x → (x = 0 ∧ (j : Int) = opt) ∨ A.has x)) (fun i _ => l.length - (intOf i).toNat)
  case atStart => exact ⟨0, Nat.zero_le _, rfl, Lib.hid (Below.refl _ _), Lib.hid (fun j x hj => by omega)⟩
  case round =>
    obtain ⟨k, hk, rfl, hB, hT⟩ := hrel
    by_cases hlt : k < l.length
    · obtain ⟨b1, o1, rfl, hcs⟩ := hc3 (by omega)
      have hck := Below.old hB.out (hcs k hlt)
      clear hc3 hcs
      obtain ⟨x, hx⟩ : ∃ x, l[k]? = some x := ⟨_, List.getElem?_eq_getElem hlt⟩
      rw [hx] at hck
      simp only [Option.getD_some] at hck
      have HX := Lib.hid hx
      clear hx
      have hnext : Hid ((x = 0 ∧ (k : Int) = opt) ∨ A.has x → ∀ (j : Nat) y, j < k + 1 → l[j]? = some y → (y = 0 ∧ (j : Int) = opt) ∨ A.has y) := Lib.hid (fun hok j y hj hy => by
        by_cases hjk : j < k
        · exact hT.out j y hjk hy
        · have : j = k := by omega
          subst this
          rw [HX.out] at hy
          simp at hy; subst hy; exact hok)
      by_cases hz : x = 0 ∧ (k : Int) = opt
      · have hnx := Lib.hid (hnext.out (.inl hz))
        obtain ⟨rfl, rfl⟩ := hz
        go_wp2
        go_roundw
        case rel => exact ⟨k + 1, hlt, by go_num, hB, hnx⟩
        case measure => simp [intOf]; omega
      · have HZ := Lib.hid hz
        clear hz
        obtain ⟨n, hn⟩ : ∃ n, (if A.has x then A.get x else zeroNd) = n := ⟨_, rfl⟩
        by_cases hh : A.has x
        · have hnx := Lib.hid (hnext.out (.inr hh))
          have h0 : (x == 0) = false := by have := hh.1; simp; omega
          have HC := Lib.hid (NodeE_own (HO.out.read hB.out) HM.out HS.out hn (if_pos hh))
          have oW := (Own.start w).read hB.out
          clear hnext hh hn
          go_wp2_with fail
          refine HC.out.mono ?_
          rintro e w1 ⟨ka, kl, kc, aa, al, ac, rfl, -, hB1⟩
          have o1 := oW.read hB1
          clear oW HC
          have HT := Lib.hid (nodeBox_facts (w := w1) n ka kc aa ac kl al)
          have o5 := o1.nodeBox n (.slice ka kl kc) (.slice aa al ac)
          go_wp2_with ((with_reducible refine wpList_store_mid ?_ 46 (.tmp 9) (.tmp 31) ?_ w1.heap.size 0 (n.cells (.slice ka kl kc) (.slice aa al ac)).toArray ?_ ?_ ?_ ?_ ?_ ?_); exact rfl; exact rfl; exact rfl; exact rfl; exact HT.out.1; exact sizeNode _ _ _; exact all_oneCell_toArray HT.out.2; clear HT; generalize hw5 : World.setCells _ _ _ _ = w5 at o5 ⊢; generalize hg5 : w1.heap.size = g5 at o5 ⊢; clear hw5 hg5; skip)
          go_wp2
          have hBn := Lib.hid o5.low
          go_roundw
          case rel => exact ⟨k + 1, hlt, by go_num, hBn, hnx⟩
          case measure => simp [intOf]; omega
        · have HC := Lib.hid (NodeE_own (HO.out.read hB.out) HM.out HS.out hn (if_neg hh))
          have oW := (Own.start w).read hB.out
          have hfin : Hid (chk A opt l = 3) := Lib.hid (by
            unfold chk
            rw [if_neg]
            intro hall
            rcases hall k x HX.out with q | q
            · exact HZ.out q
            · exact hh q)
          clear hnext hh hn
          by_cases h0 : x = 0
          · subst h0
            have hk0 : ((k : Int) == opt) = false := by simp; exact fun q => HZ.out ⟨rfl, q⟩
            go_wp2_with fail
            refine HC.out.mono ?_
            rintro e w1 ⟨ka, kl, kc, aa, al, ac, rfl, -, hB1⟩
            have o1 := oW.read hB1
            clear oW HC
            have HT := Lib.hid (nodeBox_facts (w := w1) n ka kc aa ac kl al)
            have o5 := o1.nodeBox n (.slice ka kl kc) (.slice aa al ac)
            go_wp2_with ((with_reducible refine wpList_store_mid ?_ 46 (.tmp 9) (.tmp 31) ?_ w1.heap.size 0 (n.cells (.slice ka kl kc) (.slice aa al ac)).toArray ?_ ?_ ?_ ?_ ?_ ?_); exact rfl; exact rfl; exact rfl; exact rfl; exact HT.out.1; exact sizeNode _ _ _; exact all_oneCell_toArray HT.out.2; clear HT; generalize hw5 : World.setCells _ _ _ _ = w5 at o5 ⊢; generalize hg5 : w1.heap.size = g5 at o5 ⊢; clear hw5 hg5; skip)
            go_wp2
            go_ret
            have hlow := o5.low
            rw [hfin.out]
            exact ⟨rfl, HO.out.read hlow, hlow⟩
          · have h0' : (x == 0) = false := by simp [h0]
            clear h0
            go_wp2_with fail
            refine HC.out.mono ?_
            rintro e w1 ⟨ka, kl, kc, aa, al, ac, rfl, -, hB1⟩
            have o1 := oW.read hB1
            clear oW HC
            have HT := Lib.hid (nodeBox_facts (w := w1) n ka kc aa ac kl al)
            have o5 := o1.nodeBox n (.slice ka kl kc) (.slice aa al ac)
            go_wp2_with ((with_reducible refine wpList_store_mid ?_ 46 (.tmp 9) (.tmp 31) ?_ w1.heap.size 0 (n.cells (.slice ka kl kc) (.slice aa al ac)).toArray ?_ ?_ ?_ ?_ ?_ ?_); exact rfl; exact rfl; exact rfl; exact rfl; exact HT.out.1; exact sizeNode _ _ _; exact all_oneCell_toArray HT.out.2; clear HT; generalize hw5 : World.setCells _ _ _ _ = w5 at o5 ⊢; generalize hg5 : w1.heap.size = g5 at o5 ⊢; clear hw5 hg5; skip)
            go_wp2
            go_ret
            have hlow := o5.low
            rw [hfin.out]
            exact ⟨rfl, HO.out.read hlow, hlow⟩
    · have hfin : Hid (chk A opt l = 0) := Lib.hid (by
        unfold chk
        rw [if_pos]
        intro j x hx
        exact hT.out j x (by have := (List.getElem?_eq_some_iff.1 hx).1; omega) hx)
      clear hT
      go_wp2
      go_ret
      rw [hfin.out]
      exact ⟨rfl, HO.out.read hB.out, hB.out⟩

end Go.Proofs.YtpicinjcmjaogaaGreat
