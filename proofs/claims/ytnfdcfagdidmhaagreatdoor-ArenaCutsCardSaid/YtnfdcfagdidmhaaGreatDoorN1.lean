/-
  Lists of descriptions that are only read; things in memory that are only read. No program here.
-/
import Derived.Test.YtnfdcfagdidmhaaGreatDoorP24
namespace Go.Proofs.YtnfdcfagdidmhaaGreatDoor
open Go.RowKit
set_option linter.unusedVariables false

/-- Something that holds as long as some blocks stay. -/
def Asrt.hold (Q : World → Prop) : Asrt where
  P w S := (∀ k, S k → k < w.heap.size) ∧ ∀ w' : World, (∀ k, S k → w'.heap[k]? = w.heap[k]?) → Q w'
  upd := by
    rintro w w' S F ⟨h1, h2⟩ hu hF
    exact ⟨fun k hk => Nat.lt_of_lt_of_le (h1 k hk) hu.size, fun w'' hw => h2 w'' (fun k hk => (hw k hk).trans (hu.block k (h1 k hk) (hF k hk)))⟩
  lt := by
    rintro w S ⟨h1, _⟩ k hk
    exact h1 k hk

theorem Own.keepNew {w0 w w' : World} {B : Nat} {l : List Asrt} {Q : World → Prop} (h : Own w0 B l w) (hb : Below w.heap.size w w') (hQ : ∀ w'' : World, (∀ k, w.heap.size ≤ k → k < w'.heap.size → w''.heap[k]? = w'.heap[k]?) → Q w'') : Own w0 B (.hold Q :: l) w' :=
  h.fresh hb ⟨fun k => w.heap.size ≤ k ∧ k < w'.heap.size, ⟨fun k hk => hk.2, fun w'' hw => hQ w'' (fun k a b => hw k ⟨a, b⟩)⟩, fun k hk => hk.1⟩
theorem Own.held {w0 w : World} {B : Nat} {l : List Asrt} {Q : World → Prop} (h : Own w0 B l w) (hm : Asrt.hold Q ∈ l) : Q w :=
  let ⟨_, ⟨_, q⟩, _⟩ := h.get hm
  q w (fun _ _ => rfl)

theorem owns_keep {w w' : World} {base : Nat} {e : TypeId} {size : Nat} {v : Value} {n : Nat} {xs : List Value} (h : w.ownsRow base e size v n xs) (hk : ∀ k, base ≤ k → k < w.heap.size → w'.heap[k]? = w.heap[k]?) : w'.ownsRow base e size v n xs := by
  refine ⟨h.1, ?_⟩
  rcases h.2 with h2 | ⟨g, cap, cur, rfl, hb, hg, hr⟩
  · exact Or.inl h2
  · exact Or.inr ⟨g, cap, cur, rfl, hb, by rw [hk g hb (lt_of_block hg)]; exact hg, hr⟩
theorem NodesR.keep {w w' : World} {base : Nat} {v : Value} {ns : List Nd} (h : NodesR w base v ns) (hk : ∀ k, base ≤ k → k < w.heap.size → w'.heap[k]? = w.heap[k]?) : NodesR w' base v ns := by
  obtain ⟨rows, h1, h2, h3⟩ := h
  refine ⟨rows, owns_keep h1 hk, h2, fun i n hn => ?_⟩
  obtain ⟨kv, av, h4, h5, h6⟩ := h3 i n hn
  exact ⟨kv, av, h4, owns_keep h5 hk, owns_keep h6 hk⟩

/-- A slice of descriptions, to be read. -/
def RNodes (w : World) (v : Value) (ns : List Nd) : Prop :=
  ∃ a c, v = .slice a ns.length c ∧ ns.length ≤ c ∧ c ≤ 9223372036854775807 ∧ (0 < ns.length → ∃ b o, a = some ⟨b, o, none⟩ ∧ ∀ i n, ns[i]? = some n → ∃ kv av, NodeF w b (o + i * 13) n kv av ∧ RInts w kv n.kids ∧ RAttrs w av n.attrs)
theorem RNodes.below {w w' : World} {v : Value} {ns : List Nd} (h : RNodes w v ns) (hb : Below w.heap.size w w') : RNodes w' v ns := by
  obtain ⟨a, c, h1, h2, h3, h4⟩ := h
  refine ⟨a, c, h1, h2, h3, fun hn => ?_⟩
  obtain ⟨b, o, h5, h6⟩ := h4 hn
  refine ⟨b, o, h5, fun i n hi => ?_⟩
  obtain ⟨kv, av, h7, h8, h9⟩ := h6 i n hi
  exact ⟨kv, av, h7.below hb, h8.below hb, h9.below hb⟩

theorem NodesR.reads {w : World} {base : Nat} {v : Value} {ns : List Nd} (h : NodesR w base v ns) : RNodes w v ns := by
  obtain ⟨rows, h1, h2, h3⟩ := h
  have h13 : ∀ r ∈ rows, r.length = 13 := by
    intro r hr
    obtain ⟨i, hi, rfl⟩ := List.getElem_of_mem hr
    obtain ⟨kv, av, e, _⟩ := h3 i (ns[i]'(by omega)) (List.getElem?_eq_getElem _)
    rw [List.getElem?_eq_getElem hi] at e
    simp at e; rw [e]; rfl
  obtain ⟨h4, h5⟩ := h1
  rcases h5 with ⟨h7, h8⟩ | ⟨g, cap, cur, h7, _, hg, hn, hc, hs, ht⟩
  · exact ⟨none, 0, by rw [h7, h8], by omega, by omega, fun h => by omega⟩
  · refine ⟨_, cap, h7, hn, hc, fun _ => ⟨g, 0, rfl, fun i n hi => ?_⟩⟩
    obtain ⟨kv, av, hrc, hk, ha⟩ := h3 i n hi
    have key : ∀ j v, j < 13 → (n.cells kv av)[j]? = some v → w.cell? ⟨g, i * 13 + j, none⟩ = some v := fun j v hj hv => by
      rw [cell_of_row w g _ cur _ (0, 0) hg]
      have h0 := flatten_get h13 i j hj
      rw [hrc, Option.bind_some, hv, ← ht, List.getElem?_take] at h0
      split at h0
      · rw [show i * 13 + j = 13 * i + j from by omega]; simpa using h0
      · simp at h0
    rw [Nat.zero_add]
    exact ⟨kv, av, ⟨key 0 _ (by omega) rfl, key 1 _ (by omega) rfl, key 2 _ (by omega) rfl, key 3 _ (by omega) rfl, key 4 _ (by omega) rfl, key 5 _ (by omega) rfl, key 6 _ (by omega) rfl, key 7 _ (by omega) rfl, key 8 _ (by omega) rfl, key 9 _ (by omega) rfl, key 10 _ (by omega) rfl, key 11 _ (by omega) rfl, key 12 _ (by omega) rfl⟩, ints_reads hk, ROwn_attr_reads ha⟩

/-- A list of descriptions in the call's own memory. -/
abbrev Asrt.nlist (v : Value) (ns : List Nd) : Asrt := .hold (fun w => ∃ base, NodesR w base v ns)

theorem Own.nlist {w0 w : World} {B : Nat} {v : Value} {ns : List Nd} {l : List Asrt} (h : Own w0 B l w) (hm : Asrt.nlist v ns ∈ l) : RNodes w v ns :=
  let ⟨_, q⟩ := h.held hm
  q.reads

theorem Nodes_own {w0 w : World} {B b : Nat} {A : Ar} {l : List Asrt} (o : Own w0 B l w) (hm : Asrt.arena b A ∈ l) (hS : A.Short) :
    Calls Tryz.prog 14 #[.pointer (some ⟨b, 0, none⟩)] w fun e w' => ∃ a c, e = .returned (.slice a A.ns.length c) ∧ Own w0 B (.nlist (.slice a A.ns.length c) A.ns :: l) w' := by
  obtain ⟨ρ, hA⟩ := o.arena hm
  refine (Nodes_any A ρ b w hA hS).mono ?_
  rintro e w' ⟨hB, a, c, rfl, hN⟩
  exact ⟨a, c, rfl, o.keepNew hB (fun w'' hk => ⟨_, hN.keep hk⟩)⟩

theorem Len_own {w0 w : World} {B b : Nat} {A : Ar} {l : List Asrt} (o : Own w0 B l w) (hm : Asrt.arena b A ∈ l) :
    Calls Tryz.prog 26 #[.pointer (some ⟨b, 0, none⟩)] w fun e w' => e = .returned (.int .i64 A.ns.length) ∧ w = w' := by
  obtain ⟨ρ, hA⟩ := o.arena hm
  obtain ⟨a, c, mv, h0, -⟩ := hA.head
  exact len_any A b a c w h0

end Go.Proofs.YtnfdcfagdidmhaaGreatDoor
