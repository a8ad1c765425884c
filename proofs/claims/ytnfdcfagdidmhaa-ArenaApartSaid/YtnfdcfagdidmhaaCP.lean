/-
  Memory facts for copies: nodes whose both lists are new rows; parts of the program's arena.
-/
import Derived.Test.YtnfdcfagdidmhaaN1
namespace Go.Proofs.Ytnfdcfagdidmhaa
open Go.RowKit
set_option linter.unusedVariables false

theorem ROwn.ext {w : World} {ρ ρ' : Nat → Nat} {r : Nat} {e : TypeId} {size : Nat} {v : Value} {n : Nat} {xs : List Value} (h : ROwn w ρ r e size v n xs) (h0 : r ≠ 0) (hr : ∀ k, ρ k ≠ 0 → ρ' k = ρ k) : ROwn w ρ' r e size v n xs :=
  ⟨h.1, fun g hg => by have := h.2 g hg; rw [hr g (by omega)]; exact this⟩
theorem NodeM.ext {w : World} {ρ ρ' : Nat → Nat} {eA : TypeId} {i : Nat} {n : Nd} {r : List Value} (h : NodeM w ρ eA i n r) (hr : ∀ k, ρ k ≠ 0 → ρ' k = ρ k) : NodeM w ρ' eA i n r := by
  obtain ⟨kv, av, h1, h2, h3⟩ := h
  exact ⟨kv, av, h1, h2.ext (by omega) hr, h3.ext (by omega) hr⟩
theorem NodesM.ext {w : World} {ρ ρ' : Nat → Nat} {e eA : TypeId} {nv : Value} {ns : List Nd} (h : NodesM w ρ e eA nv ns) (hr : ∀ k, ρ k ≠ 0 → ρ' k = ρ k) : NodesM w ρ' e eA nv ns := by
  obtain ⟨rows, h1, h2, h3⟩ := h
  refine ⟨rows, h1.ext (by omega) hr, h2, fun i n hn => ?_⟩
  obtain ⟨r, h4, h5⟩ := h3 i n hn
  exact ⟨r, h4, h5.ext hr⟩
theorem IMapM.ext {w : World} {ρ ρ' : Nat → Nat} {mv : Value} {I : List Int} (h : IMapM w ρ mv I) (hr : ∀ k, ρ k ≠ 0 → ρ' k = ρ k) : IMapM w ρ' mv I := by
  obtain ⟨L, h1, h2, h3⟩ := h
  refine ⟨L, h1, h2, ?_⟩
  rcases h3 with h3 | ⟨mb, h4, h5, h6⟩
  · exact .inl h3
  · exact .inr ⟨mb, h4, by rw [hr mb (by omega)]; exact h5, h6⟩

/-- Two new rows get roles. -/
theorem roles_two {w : World} {ρ : Nat → Nat} {base i : Nat} {e : TypeId} {kv av : Value} {n m s : Nat} {xs ys : List Value} (hρ : ∀ k, ρ k ≠ 0 → k < base) (hb : base ≤ w.heap.size)
    (hk : w.ownsRow base 3 1 kv n xs) (ha : w.ownsRow base 55 s av m ys) :
    ∃ ρ' : Nat → Nat, (∀ k, ρ k ≠ 0 → ρ' k = ρ k) ∧ (∀ k, k < base → ρ' k = ρ k) ∧ (∀ k, ρ' k ≠ 0 → k < w.heap.size) ∧ ROwn w ρ' (2 * i + 4) 3 1 kv n xs ∧ ROwn w ρ' (2 * i + 5) 55 s av m ys := by
  have hap : ∀ k, kv.ownBlock = some k → av.ownBlock = some k → False := fun k h1 h2 => by
    rcases hk.2 with ⟨rfl, -⟩ | ⟨g, cap, cur, rfl, -, hg, -⟩
    · simp [Value.ownBlock] at h1
    rcases ha.2 with ⟨rfl, -⟩ | ⟨g', cap', cur', rfl, -, hg', -⟩
    · simp [Value.ownBlock] at h2
    simp [Value.ownBlock] at h1 h2
    subst h1; subst h2
    rw [hg] at hg'
    simp at hg'
  have hkb := owns_block hk
  have hab := owns_block ha
  refine ⟨fun k => if kv.ownBlock = some k then 2 * i + 4 else if av.ownBlock = some k then 2 * i + 5 else ρ k, fun k h => ?_, fun k h => ?_, fun k h => ?_, ⟨owns_base hk (Nat.zero_le _), fun g hg => ?_⟩, ⟨owns_base ha (Nat.zero_le _), fun g hg => ?_⟩⟩
  · have hlt := hρ k h
    dsimp only
    rw [if_neg (fun e => by have := (hkb k e).1; omega), if_neg (fun e => by have := (hab k e).1; omega)]
  · dsimp only
    rw [if_neg (fun e => by have := (hkb k e).1; omega), if_neg (fun e => by have := (hab k e).1; omega)]
  · dsimp only at h
    split at h
    · rename_i e; exact (hkb k e).2
    · split at h
      · rename_i e; exact (hab k e).2
      · have := hρ k h; omega
  · dsimp only; rw [if_pos hg]
  · dsimp only; rw [if_neg (fun e => hap g e hg), if_pos hg]

/-- A list of nodes gains one whose lists are rows of their own. -/
theorem NodesM.addedK {w w1 : World} {ρ : Nat → Nat} {e eA : TypeId} {nv kv av : Value} {ns : List Nd} {rows : List (List Value)} {n : Nd} {gg cap : Nat}
    (hl : ∀ k, ρ k ≠ 0 → k < w.heap.size) (hrole : ∀ g, nv.ownBlock = some g → ρ g = 2) (hrl : rows.length = ns.length) (hrows : ∀ i n, ns[i]? = some n → ∃ r, rows[i]? = some r ∧ NodeM w ρ eA i n r)
    (hkv : ROwn w ρ (2 * ns.length + 4) 3 1 kv n.kids.length (n.kids.map intv)) (hav : ROwn w ρ (2 * ns.length + 5) eA 3 av n.attrs.length (n.attrs.flatMap attrCells))
    (hU : Upd (fun k => nv.ownBlock = some k) w w1) (hown : w1.ownsRow 0 e 13 (.slice (some ⟨gg, 0, none⟩) (ns.length + 1) cap) (ns.length + 1) (rows.flatten ++ n.cells kv av))
    (hat : nv.ownBlock = some gg ∨ w.heap.size ≤ gg) :
    (∀ k, k < w.heap.size → (if k = gg then 2 else ρ k) = ρ k) ∧ NodesM w1 (fun k => if k = gg then 2 else ρ k) e eA (.slice (some ⟨gg, 0, none⟩) (ns.length + 1) cap) (ns ++ [n]) := by
  have hr' : ∀ k, k < w.heap.size → (if k = gg then 2 else ρ k) = ρ k := fun k hk => by
    split
    · rename_i e; subst e
      rcases hat with hat | hat
      · exact (hrole _ hat).symm
      · omega
    · rfl
  have hF : ∀ k r, (fun k => if k = gg then 2 else ρ k) k = r → 3 ≤ r → ¬ (nv.ownBlock = some k) := by
    intro k r hr h3 hf
    dsimp only at hr
    have := hrole k hf
    split at hr <;> omega
  refine ⟨hr', rows ++ [n.cells kv av], ⟨by simpa [List.flatten_append] using hown, ?_⟩, by simp [hrl], ?_⟩
  · intro g hg
    simp [Value.ownBlock] at hg
    simp [hg]
  · intro i m hm
    rw [List.getElem?_append] at hm
    split at hm
    · rename_i hi
      obtain ⟨r, hr, hM⟩ := hrows i m hm
      exact ⟨r, by rw [List.getElem?_append_left (by omega)]; exact hr, (hM.role hr').upd hU (fun k hk => by rcases hk with hk | hk <;> exact hF k _ hk (by omega))⟩
    · rename_i hi
      have hi' : i = ns.length := by
        have := (List.getElem?_eq_some_iff.1 hm).1; simp at this; omega
      subst hi'
      simp at hm
      subst hm
      exact ⟨n.cells kv av, by rw [← hrl]; simp, kv, av, rfl, (hkv.role hr').upd hU (fun k hk => hF k _ hk (by omega)), (hav.role hr').upd hU (fun k hk => hF k _ hk (by omega))⟩

/-- A struct of two cells, a row of nodes in its first cell. -/
theorem box_addK {w w1 : World} {ρ : Nat → Nat} {b : Nat} {T e : TypeId} {nv x kv av v' : Value} {ns : List Nd} {n : Nd} {rows : List (List Value)} (hl : ∀ k, ρ k ≠ 0 → k < w.heap.size) (hb : ρ b = 1)
    (hbox : w.heap[b]? = some (.cells #[nv, x] T (0, 0))) (hrole : ∀ g, nv.ownBlock = some g → ρ g = 2) (hrl : rows.length = ns.length) (hrows : ∀ i n, ns[i]? = some n → ∃ r, rows[i]? = some r ∧ NodeM w ρ 55 i n r)
    (hkv : ROwn w ρ (2 * ns.length + 4) 3 1 kv n.kids.length (n.kids.map intv)) (hav : ROwn w ρ (2 * ns.length + 5) 55 3 av n.attrs.length (n.attrs.flatMap attrCells))
    (hU : Upd (fun k => nv.ownBlock = some k) w w1) (hown : w1.ownsRow 0 e 13 v' (ns.length + 1) (rows.flatten ++ n.cells kv av)) (hat : v'.ownBlock = nv.ownBlock ∨ ∃ g, v'.ownBlock = some g ∧ w.heap.size ≤ g) :
    ∃ ρ', (∀ k, ρ' k ≠ 0 → k < (w1.setCell ⟨b, 0, none⟩ v').heap.size) ∧ ρ' b = 1 ∧ (w1.setCell ⟨b, 0, none⟩ v').heap[b]? = some (.cells #[v', x] T (0, 0)) ∧ NodesM (w1.setCell ⟨b, 0, none⟩ v') ρ' e 55 v' (ns ++ [n]) ∧
      (∀ k, k < w.heap.size → ρ' k = ρ k) ∧ Turn ρ ρ' w (w1.setCell ⟨b, 0, none⟩ v') ∧ Upd (fun k => k = b ∨ nv.ownBlock = some k) w (w1.setCell ⟨b, 0, none⟩ v') := by
  have hbl := lt_of_block hbox
  rcases hown.2 with ⟨hv, h0⟩ | ⟨gg, cap, cur, hv, hb0, hg, hn, hc, hs, ht⟩
  · omega
  subst hv
  have hat' : nv.ownBlock = some gg ∨ w.heap.size ≤ gg := by
    rcases hat with hat | ⟨g, q1, q2⟩
    · left; rw [← hat]; rfl
    · simp [Value.ownBlock] at q1; subst q1; exact .inr q2
  have hnb : ∀ k, nv.ownBlock = some k → k ≠ b := fun k hk e => by have := hrole k hk; rw [e] at this; omega
  have hgb : gg ≠ b := by
    rcases hat' with q | q
    · exact hnb gg q
    · omega
  obtain ⟨hr', hN⟩ := NodesM.addedK hl hrole hrl hrows hkv hav hU hown hat'
  have hUb : Upd (fun k => k = b) w1 (w1.setCell ⟨b, 0, none⟩ (.slice (some ⟨gg, 0, none⟩) (ns.length + 1) cap)) := (Upd.refl (fun k => k = b) w1).setCell (p := ⟨b, 0, none⟩) (.inr rfl) _
  have hF : ∀ k r, (fun k => if k = gg then 2 else ρ k) k = r → r ≠ 1 → ¬ k = b := by
    rintro k r hk hk1 rfl
    dsimp only at hk
    rw [if_neg (Ne.symm hgb)] at hk; omega
  obtain ⟨rows', hN1, hN2, hN3⟩ := hN
  have hUU : Upd (fun k => k = b ∨ nv.ownBlock = some k) w (w1.setCell ⟨b, 0, none⟩ (.slice (some ⟨gg, 0, none⟩) (ns.length + 1) cap)) := (hU.mono (fun k _ hk => .inr hk)).trans (hUb.mono (fun k _ hk => .inl hk))
  refine ⟨fun k => if k = gg then 2 else ρ k, fun k hk => ?_, ?_, ?_, ⟨rows', hN1.upd hUb (fun k hk => hF k _ hk (by omega)), hN2, fun i m hm => ?_⟩, hr', ⟨hUU.mono (fun k _ hk => ?_), hr'⟩, hUU⟩
  · dsimp only at hk
    have hsz : (w1.setCell ⟨b, 0, none⟩ (.slice (some ⟨gg, 0, none⟩) (ns.length + 1) cap)).heap.size = w1.heap.size := by simp
    rw [hsz]
    split at hk
    · rename_i e; rw [e]; exact lt_of_block hg
    · exact Nat.lt_of_lt_of_le (hl k hk) hU.size
  · dsimp only; rw [if_neg (Ne.symm hgb)]; exact hb
  · exact heap_set2 ((hU.block b hbl (fun e => hnb b e rfl)).trans hbox)
  · obtain ⟨r, q1, q2⟩ := hN3 i m hm
    exact ⟨r, q1, q2.upd hUb (fun k hk => by rcases hk with hk | hk <;> exact hF k _ hk (by omega))⟩
  · rcases hk with rfl | hk
    · rw [hb]; omega
    · rw [hrole k hk]; omega

end Go.Proofs.Ytnfdcfagdidmhaa
