/-
  Parts: N1, W2, T2.
-/
import Derived.Laws.StructEq
import Derived.Test.YtpicinjcmjaogaaGreatN12

/- Lists of descriptions that are only read; things in memory that are only read. No program here. -/
namespace Go.Proofs.YtpicinjcmjaogaaGreat
open Go.RowKit
set_option linter.unusedVariables false

/-- Something that holds as long as some blocks stay. -/
def Asrt.hold (Q : World → Prop) : Asrt where
  P w S := (∀ k, S k → k < w.heap.size) ∧ ∀ w' : World, (∀ k, S k → w'.heap[k]? = w.heap[k]?) → Q w'
  upd := by
    rintro w w' S F ⟨h1, h2⟩ hu hF
    exact ⟨fun k hk => Nat.lt_of_lt_of_le (h1 k hk) hu.size, fun w'' hw => h2 w'' (fun k hk => (hw k hk).trans (hu.block k (h1 k hk) (hF k hk)))⟩
  lt := by
    rintro w S ⟨h1, _⟩ k hk
    exact h1 k hk

theorem Own.keepNew {w0 w w' : World} {B : Nat} {l : List Asrt} {Q : World → Prop} (h : Own w0 B l w) (hb : Below w.heap.size w w') (hQ : ∀ w'' : World, (∀ k, w.heap.size ≤ k → k < w'.heap.size → w''.heap[k]? = w'.heap[k]?) → Q w'') : Own w0 B (.hold Q :: l) w' :=
  h.fresh hb ⟨fun k => w.heap.size ≤ k ∧ k < w'.heap.size, ⟨fun k hk => hk.2, fun w'' hw => hQ w'' (fun k a b => hw k ⟨a, b⟩)⟩, fun k hk => hk.1⟩
theorem Own.held {w0 w : World} {B : Nat} {l : List Asrt} {Q : World → Prop} (h : Own w0 B l w) (hm : Asrt.hold Q ∈ l) : Q w :=
  let ⟨_, ⟨_, q⟩, _⟩ := h.get hm
  q w (fun _ _ => rfl)

theorem owns_keep {w w' : World} {base : Nat} {e : TypeId} {size : Nat} {v : Value} {n : Nat} {xs : List Value} (h : w.ownsRow base e size v n xs) (hk : ∀ k, base ≤ k → k < w.heap.size → w'.heap[k]? = w.heap[k]?) : w'.ownsRow base e size v n xs := by
  refine ⟨h.1, ?_⟩
  rcases h.2 with h2 | ⟨g, cap, cur, rfl, hb, hg, hr⟩
  · exact Or.inl h2
  · exact Or.inr ⟨g, cap, cur, rfl, hb, by rw [hk g hb (lt_of_block hg)]; exact hg, hr⟩
theorem NodesR.keep {w w' : World} {base : Nat} {v : Value} {ns : List Nd} (h : NodesR w base v ns) (hk : ∀ k, base ≤ k → k < w.heap.size → w'.heap[k]? = w.heap[k]?) : NodesR w' base v ns := by
  obtain ⟨rows, h1, h2, h3⟩ := h
  refine ⟨rows, owns_keep h1 hk, h2, fun i n hn => ?_⟩
  obtain ⟨kv, av, h4, h5, h6⟩ := h3 i n hn
  exact ⟨kv, av, h4, owns_keep h5 hk, owns_keep h6 hk⟩

/-- A slice of descriptions, to be read. -/
def RNodes (w : World) (v : Value) (ns : List Nd) : Prop :=
  ∃ a c, v = .slice a ns.length c ∧ ns.length ≤ c ∧ c ≤ 9223372036854775807 ∧ (0 < ns.length → ∃ b o, a = some ⟨b, o, none⟩ ∧ ∀ i n, ns[i]? = some n → ∃ kv av, NodeF w b (o + i * 13) n kv av ∧ RInts w kv n.kids ∧ RAttrs w av n.attrs)
theorem RNodes.below {w w' : World} {v : Value} {ns : List Nd} (h : RNodes w v ns) (hb : Below w.heap.size w w') : RNodes w' v ns := by
  obtain ⟨a, c, h1, h2, h3, h4⟩ := h
  refine ⟨a, c, h1, h2, h3, fun hn => ?_⟩
  obtain ⟨b, o, h5, h6⟩ := h4 hn
  refine ⟨b, o, h5, fun i n hi => ?_⟩
  obtain ⟨kv, av, h7, h8, h9⟩ := h6 i n hi
  exact ⟨kv, av, h7.below hb, h8.below hb, h9.below hb⟩

theorem NodesR.reads {w : World} {base : Nat} {v : Value} {ns : List Nd} (h : NodesR w base v ns) : RNodes w v ns := by
  obtain ⟨rows, h1, h2, h3⟩ := h
  have h13 : ∀ r ∈ rows, r.length = 13 := by
    intro r hr
    obtain ⟨i, hi, rfl⟩ := List.getElem_of_mem hr
    obtain ⟨kv, av, e, _⟩ := h3 i (ns[i]'(by omega)) (List.getElem?_eq_getElem _)
    rw [List.getElem?_eq_getElem hi] at e
    simp at e; rw [e]; rfl
  obtain ⟨h4, h5⟩ := h1
  rcases h5 with ⟨h7, h8⟩ | ⟨g, cap, cur, h7, _, hg, hn, hc, hs, ht⟩
  · exact ⟨none, 0, by rw [h7, h8], by omega, by omega, fun h => by omega⟩
  · refine ⟨_, cap, h7, hn, hc, fun _ => ⟨g, 0, rfl, fun i n hi => ?_⟩⟩
    obtain ⟨kv, av, hrc, hk, ha⟩ := h3 i n hi
    have key : ∀ j v, j < 13 → (n.cells kv av)[j]? = some v → w.cell? ⟨g, i * 13 + j, none⟩ = some v := fun j v hj hv => by
      rw [cell_of_row w g _ cur _ (0, 0) hg]
      have h0 := flatten_get h13 i j hj
      rw [hrc, Option.bind_some, hv, ← ht, List.getElem?_take] at h0
      split at h0
      · rw [show i * 13 + j = 13 * i + j from by omega]; simpa using h0
      · simp at h0
    rw [Nat.zero_add]
    exact ⟨kv, av, ⟨key 0 _ (by omega) rfl, key 1 _ (by omega) rfl, key 2 _ (by omega) rfl, key 3 _ (by omega) rfl, key 4 _ (by omega) rfl, key 5 _ (by omega) rfl, key 6 _ (by omega) rfl, key 7 _ (by omega) rfl, key 8 _ (by omega) rfl, key 9 _ (by omega) rfl, key 10 _ (by omega) rfl, key 11 _ (by omega) rfl, key 12 _ (by omega) rfl⟩, ints_reads hk, ROwn_attr_reads ha⟩

/-- A list of descriptions in the call's own memory. -/
abbrev Asrt.nlist (v : Value) (ns : List Nd) : Asrt := .hold (fun w => ∃ base, NodesR w base v ns)

theorem Own.nlist {w0 w : World} {B : Nat} {v : Value} {ns : List Nd} {l : List Asrt} (h : Own w0 B l w) (hm : Asrt.nlist v ns ∈ l) : RNodes w v ns :=
  let ⟨_, q⟩ := h.held hm
  q.reads

theorem Nodes_own {w0 w : World} {B b : Nat} {A : Ar} {l : List Asrt} (o : Own w0 B l w) (hm : Asrt.arena b A ∈ l) (hS : A.Short) :
    Calls Tryz.prog 43 #[.pointer (some ⟨b, 0, none⟩)] w fun e w' => ∃ a c, e = .returned (.slice a A.ns.length c) ∧ Own w0 B (.nlist (.slice a A.ns.length c) A.ns :: l) w' := by
  obtain ⟨ρ, hA⟩ := o.arena hm
  refine (Nodes_any A ρ b w hA hS).mono ?_
  rintro e w' ⟨hB, a, c, rfl, hN⟩
  exact ⟨a, c, rfl, o.keepNew hB (fun w'' hk => ⟨_, hN.keep hk⟩)⟩

theorem Len_own {w0 w : World} {B b : Nat} {A : Ar} {l : List Asrt} (o : Own w0 B l w) (hm : Asrt.arena b A ∈ l) :
    Calls Tryz.prog 40 #[.pointer (some ⟨b, 0, none⟩)] w fun e w' => e = .returned (.int .i64 A.ns.length) ∧ w = w' := by
  obtain ⟨ρ, hA⟩ := o.arena hm
  obtain ⟨a, c, mv, h0, -⟩ := hA.head
  exact len_any A b a c w h0

end Go.Proofs.YtpicinjcmjaogaaGreat

/- Contracts of the program's arena: preorder. -/
namespace Go.Proofs.YtpicinjcmjaogaaGreat
open Go.RowKit
set_option linter.unusedVariables false

theorem Below.toUpd {B : Nat} {w w' : World} (h : Below B w w') : Upd (fun k => B ≤ k) w w' := ⟨h.os, h.tape, h.output, h.size, fun k _ hf => h.block k (by omega)⟩
theorem AMem.low {B : Nat} {w w' : World} {ρ : Nat → Nat} {b : Nat} {A : Ar} (h : AMem w ρ b A) (hB : Below B w w') (hρ : ∀ k, ρ k ≠ 0 → k < B) : AMem w' ρ b A := h.upd (Below.toUpd hB) (fun k hk hf => by have := hρ k hk; omega)
theorem RInts.cells {w : World} {a : Option Addr} {n c : Nat} {l : List Int} (h : RInts w (.slice a n c) l) (hp : 0 < l.length) : ∃ b o, a = some ⟨b, o, none⟩ ∧ n = l.length ∧ ∀ j x, l[j]? = some x → w.cell? ⟨b, o + j, none⟩ = some (.int .i64 x) := by
  obtain ⟨a', c', e, h2, h3, h4⟩ := h.form
  simp at e
  obtain ⟨rfl, rfl, rfl⟩ := e
  obtain ⟨b, o, h5, h6⟩ := h4 hp
  refine ⟨b, o, h5, rfl, fun j x hx => ?_⟩
  have := h6 j (List.getElem?_eq_some_iff.1 hx).1
  rw [hx] at this
  simpa using this

theorem flat_take {α : Type} {l : List Int} {k : Nat} {x : Int} (f : Int → List α) (hx : l[k]? = some x) : (l.take (k + 1)).flatMap f = (l.take k).flatMap f ++ f x := by
  have hk := (List.getElem?_eq_some_iff.1 hx).1
  rw [List.take_succ_eq_append_getElem hk, (List.getElem?_eq_some_iff.1 hx).2]; simp
end Go.Proofs.YtpicinjcmjaogaaGreat

/- The document's list helpers: At, SameAttrs, Alike, SameNode, SameNodes. -/
namespace Go.Proofs.YtpicinjcmjaogaaGreat
open Go.RowKit
set_option linter.unusedVariables false

theorem RAttrs.cells {w : World} {a : Option Addr} {n c : Nat} {l : List AttrD} (h : RAttrs w (.slice a n c) l) (hp : 0 < l.length) : ∃ b o, a = some ⟨b, o, none⟩ ∧ n = l.length ∧ ∀ j x, l[j]? = some x → w.cell? ⟨b, o + j * 3, none⟩ = some (.int .i64 x.1) ∧ w.cell? ⟨b, o + j * 3 + 1, none⟩ = some (.string x.2.1) ∧ w.cell? ⟨b, o + j * 3 + 2, none⟩ = some (.string x.2.2) := by
  obtain ⟨a', c', e, h2, h3, h4⟩ := h.form
  simp at e
  obtain ⟨rfl, rfl, rfl⟩ := e
  obtain ⟨b, o, h5, h6⟩ := h4 hp
  exact ⟨b, o, h5, rfl, h6⟩

set_option maxHeartbeats 400000 in
theorem SameAttrs_any (v1 v2 : Value) (l1 l2 : List AttrD) (w : World) (h1 : RAttrs w v1 l1) (h2 : RAttrs w v2 l2) :
    Calls Tryz.prog 60 #[v1, v2] w fun e w' => e = .returned (.bool (decide (l1 = l2))) ∧ Below w.heap.size w w' := by
  obtain ⟨a1, c1, rfl, p1, p2, p3⟩ := h1.form
  obtain ⟨a2, c2, rfl, q1, q2, q3⟩ := h2.form
  have H1 := Lib.hid h1
  have H2 := Lib.hid h2
  clear h1 h2 p3 q3
  by_cases hl : l1.length = l2.length
  · have hl1 : ((l1.length : Int) != l2.length) = false := by simp [hl]
    have HL := Lib.hid hl
    go_enter Tryz.func60, Tryz.ntmps60
    go_wp2
    go_loopw [5] (fun i wr => ∃ k : Nat, k ≤ l1.length ∧ i = .int .i64 k ∧ Hid (∀ j : Nat, j < k → l1[j]? = l2[j]?) ∧ Below w.heap.size w wr) (fun i _ => l1.length - (intOf i).toNat)
    case atStart => exact ⟨0, Nat.zero_le _, rfl, fun j hj => by omega, Below.refl _ _⟩
    case round =>
      obtain ⟨k, hk, rfl, hT, hB⟩ := hrel
      by_cases hlt : k < l1.length
      · have hlt2 : k < l2.length := by have := HL.out; omega
        obtain ⟨b1, o1, rfl, -, hcs1⟩ := H1.out.cells (by omega)
        obtain ⟨b2, o2, rfl, -, hcs2⟩ := H2.out.cells (by omega)
        obtain ⟨x, hx⟩ : ∃ x, l1[k]? = some x := ⟨_, List.getElem?_eq_getElem hlt⟩
        obtain ⟨y, hy⟩ : ∃ y, l2[k]? = some y := ⟨_, List.getElem?_eq_getElem hlt2⟩
        obtain ⟨d1, d2, d3⟩ := hcs1 k x hx
        obtain ⟨e1, e2, e3⟩ := hcs2 k y hy
        have d1 := Below.old hB d1
        have d2 := Below.old hB d2
        have d3 := Below.old hB d3
        have e1 := Below.old hB e1
        have e2 := Below.old hB e2
        have e3 := Below.old hB e3
        have HX := Lib.hid (And.intro hx hy)
        clear hcs1 hcs2 hx hy
        obtain ⟨xs, xn, xv⟩ := x
        obtain ⟨ys, yn, yv⟩ := y
        dsimp only at d1 d2 d3 e1 e2 e3
        by_cases t1 : xs = ys
        · have u1 : (xs == ys) = true := by simp [t1]
          by_cases t2 : xn = yn
          · have u2 : (xn.toList == yn.toList) = true := by simp [t2]
            by_cases t3 : xv = yv
            · have u3 : (xv.toList == yv.toList) = true := by simp [t3]
              have HT := Lib.hid (And.intro t1 (And.intro t2 t3))
              clear t1 t2 t3
              go_wp2_with (go_quiet (fail))
              go_wp2
              go_roundw
              case rel => exact ⟨k + 1, hlt, by go_num, fun j hj => by
                by_cases hjk : j < k
                · exact hT.out j hjk
                · have : j = k := by omega
                  rw [this, HX.out.1, HX.out.2, HT.out.1, HT.out.2.1, HT.out.2.2], Below.drewN hB _⟩
              case measure => simp [intOf]; omega
            · have u3 : (xv.toList == yv.toList) = false := by rw [str_beq]; simp [t3]
              have HT := Lib.hid t3
              clear t1 t2 t3
              go_wp2_with (go_quiet (fail))
              go_wp2
              go_ret
              exact ⟨ret_bool (decide_eq_false (fun h => HT.out (by have a := HX.out.1; have b := HX.out.2; rw [h, b] at a; simp at a; exact a.2.2.symm))).symm, Below.drewN hB _⟩
          · have u2 : (xn.toList == yn.toList) = false := by rw [str_beq]; simp [t2]
            have HT := Lib.hid t2
            clear t1 t2
            go_wp2_with (go_quiet (fail))
            go_wp2
            go_ret
            exact ⟨ret_bool (decide_eq_false (fun h => HT.out (by have a := HX.out.1; have b := HX.out.2; rw [h, b] at a; simp at a; exact a.2.1.symm))).symm, Below.drewN hB _⟩
        · have u1 : (xs == ys) = false := by simp [t1]
          have HT := Lib.hid t1
          clear t1
          go_wp2_with (go_quiet (fail))
          go_wp2
          go_ret
          exact ⟨ret_bool (decide_eq_false (fun h => HT.out (by have a := HX.out.1; have b := HX.out.2; rw [h, b] at a; simp at a; exact a.1.symm))).symm, Below.drewN hB _⟩
      · have hfin : l1 = l2 := by
          apply List.ext_getElem?
          intro j
          by_cases hj : j < k
          · exact hT.out j hj
          · have := HL.out
            rw [List.getElem?_eq_none (by omega), List.getElem?_eq_none (by omega)]
        have HF := Lib.hid hfin
        clear hfin
        go_wp2
        go_ret
        exact ⟨ret_bool (decide_eq_true HF.out).symm, hB⟩
  · have hl1 : ((l1.length : Int) != l2.length) = true := by simp; omega
    have HL := Lib.hid hl
    clear hl
    go_enter Tryz.func60, Tryz.ntmps60
    go_wp2
    go_ret
    exact ⟨ret_bool (decide_eq_false (fun h => HL.out (by rw [h]))).symm, Below.refl _ _⟩

end Go.Proofs.YtpicinjcmjaogaaGreat
