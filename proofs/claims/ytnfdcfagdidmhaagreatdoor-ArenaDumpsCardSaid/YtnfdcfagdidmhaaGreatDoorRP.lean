/-
  The document's arena in memory: nodes and inert documents that are added. No program here.
-/
import Derived.Test.YtnfdcfagdidmhaaGreatDoorGB
namespace Go.Proofs.YtnfdcfagdidmhaaGreatDoor
open Go.RowKit
set_option linter.unusedVariables false

/-- What lies in memory of an arena of the document whose two lists may not yet fit together. -/
def RPart (w : World) (ρ : Nat → Nat) (b : Nat) (nv iv : Value) (ns : List Nd) (I : List Int) : Prop :=
  (∀ k, ρ k ≠ 0 → k < w.heap.size) ∧ ρ b = 1 ∧ w.heap[b]? = some (.cells #[nv, iv] 81 (0, 0)) ∧ NodesM w ρ 56 123 nv ns ∧ ROwn w ρ 3 3 1 iv I.length (I.map intv)

theorem RMem.part {w : World} {ρ : Nat → Nat} {b : Nat} {A : Ar} (h : RMem w ρ b A) : A.inert.length = A.ns.length + 1 ∧ ∃ nv iv, RPart w ρ b nv iv (zeroNd :: A.ns) A.inert := by
  obtain ⟨h1, h2, h3, nv, iv, h4, h5, h6⟩ := h
  exact ⟨h3, nv, iv, h1, h2, h4, h5, by rw [h3]; exact h6⟩
theorem RPart.mem {w : World} {ρ : Nat → Nat} {b : Nat} {nv iv : Value} {A : Ar} (h : RPart w ρ b nv iv (zeroNd :: A.ns) A.inert) (hl : A.inert.length = A.ns.length + 1) : RMem w ρ b A := by
  obtain ⟨h1, h2, h3, h4, h5⟩ := h
  exact ⟨h1, h2, hl, nv, iv, h3, h4, by rw [← hl]; exact h5⟩
theorem RPart.upd {F : Nat → Prop} {w w' : World} {ρ : Nat → Nat} {b : Nat} {nv iv : Value} {ns : List Nd} {I : List Int} (h : RPart w ρ b nv iv ns I) (hu : Upd F w w') (hF : ∀ k, ρ k ≠ 0 → ¬ F k) : RPart w' ρ b nv iv ns I := by
  obtain ⟨h1, h2, h3, h4, h5⟩ := h
  exact ⟨fun k hk => Nat.lt_of_lt_of_le (h1 k hk) hu.size, h2, by rw [hu.block b (lt_of_block h3) (hF b (by omega))]; exact h3, h4.upd hu hF, h5.upd hu (fun k hk => hF k (by omega))⟩

theorem RPart.addN {w w1 : World} {ρ : Nat → Nat} {b : Nat} {nv iv av v' : Value} {ns : List Nd} {I : List Int} {n : Nd} {rows : List (List Value)} (h : RPart w ρ b nv iv ns I) (hrl : rows.length = ns.length) (hrows : ∀ i n, ns[i]? = some n → ∃ r, rows[i]? = some r ∧ NodeM w ρ 123 i n r)
    (hk : n.kids = []) (hav : ROwn w ρ (2 * ns.length + 5) 123 3 av n.attrs.length (n.attrs.flatMap attrCells)) (hrole : ∀ g, nv.ownBlock = some g → ρ g = 2)
    (hU : Upd (fun k => nv.ownBlock = some k) w w1) (hown : w1.ownsRow 0 56 13 v' (ns.length + 1) (rows.flatten ++ n.cells (.slice none 0 0) av)) (hat : v'.ownBlock = nv.ownBlock ∨ ∃ g, v'.ownBlock = some g ∧ w.heap.size ≤ g) :
    ∃ ρ', RPart (w1.setCell ⟨b, 0, none⟩ v') ρ' b v' iv (ns ++ [n]) I ∧ Turn ρ ρ' w (w1.setCell ⟨b, 0, none⟩ v') := by
  obtain ⟨h1, h2, h3, h4, h5⟩ := h
  have hbl := lt_of_block h3
  rcases hown.2 with ⟨hv, h0⟩ | ⟨gg, cap, cur, hv, hb0, hg, hn, hc, hs, ht⟩
  · omega
  subst hv
  have hat' : nv.ownBlock = some gg ∨ w.heap.size ≤ gg := by
    rcases hat with hat | ⟨g, q1, q2⟩
    · left; rw [← hat]; rfl
    · simp [Value.ownBlock] at q1; subst q1; exact .inr q2
  have hnb : ∀ k, nv.ownBlock = some k → k ≠ b := fun k hk e => by have := hrole k hk; rw [e] at this; omega
  have hgb : gg ≠ b := by
    rcases hat' with q | q
    · exact hnb gg q
    · omega
  obtain ⟨hr', hN⟩ := NodesM.added h1 hrole hrl hrows hk hav hU hown hat'
  have hUb : Upd (fun k => k = b) w1 (w1.setCell ⟨b, 0, none⟩ (.slice (some ⟨gg, 0, none⟩) (ns.length + 1) cap)) := (Upd.refl (fun k => k = b) w1).setCell (p := ⟨b, 0, none⟩) (.inr rfl) _
  have hF : ∀ k r, (fun k => if k = gg then 2 else ρ k) k = r → r ≠ 1 → ¬ k = b := by
    rintro k r hk hk1 rfl
    dsimp only at hk
    rw [if_neg (Ne.symm hgb)] at hk; omega
  obtain ⟨rows', hN1, hN2, hN3⟩ := hN
  refine ⟨fun k => if k = gg then 2 else ρ k, ⟨fun k hk => ?_, ?_, ?_, ⟨rows', hN1.upd hUb (fun k hk => hF k _ hk (by omega)), hN2, fun i m hm => ?_⟩, ?_⟩, ⟨?_, hr'⟩⟩
  · dsimp only at hk
    have hsz : (w1.setCell ⟨b, 0, none⟩ (.slice (some ⟨gg, 0, none⟩) (ns.length + 1) cap)).heap.size = w1.heap.size := by simp
    rw [hsz]
    split at hk
    · rename_i e; rw [e]; exact lt_of_block hg
    · exact Nat.lt_of_lt_of_le (h1 k hk) hU.size
  · dsimp only; rw [if_neg (Ne.symm hgb)]; exact h2
  · exact heap_set2 ((hU.block b hbl (fun e => hnb b e rfl)).trans h3)
  · obtain ⟨r, q1, q2⟩ := hN3 i m hm
    exact ⟨r, q1, q2.upd hUb (fun k hk => by rcases hk with hk | hk <;> exact hF k _ hk (by omega))⟩
  · refine ((h5.role hr').upd hU (fun k hk hf => ?_)).upd hUb (fun k hk => hF k _ hk (by omega))
    have := hrole k hf
    split at hk <;> omega
  · refine (hU.mono (fun k _ hk => ?_)).trans (hUb.mono (fun k _ hk => ?_))
    · rw [hrole k hk]; omega
    · rw [hk]; omega

theorem RPart.addI {w w1 : World} {ρ : Nat → Nat} {b : Nat} {nv iv v' : Value} {ns : List Nd} {I : List Int} {x : Int} (h : RPart w ρ b nv iv ns I)
    (hU : Upd (fun k => iv.ownBlock = some k) w w1) (hown : w1.ownsRow 0 3 1 v' (I.length + 1) (I.map intv ++ [intv x])) (hat : v'.ownBlock = iv.ownBlock ∨ ∃ g, v'.ownBlock = some g ∧ w.heap.size ≤ g) :
    ∃ ρ', RPart (w1.setCell ⟨b, 1, none⟩ v') ρ' b nv v' ns (I ++ [x]) ∧ Turn ρ ρ' w (w1.setCell ⟨b, 1, none⟩ v') := by
  obtain ⟨h1, h2, h3, h4, h5⟩ := h
  have hbl := lt_of_block h3
  rcases hown.2 with ⟨hv, h0⟩ | ⟨gg, cap, cur, hv, hb0, hg, hn, hc, hs, ht⟩
  · omega
  subst hv
  have hat' : iv.ownBlock = some gg ∨ w.heap.size ≤ gg := by
    rcases hat with hat | ⟨g, q1, q2⟩
    · left; rw [← hat]; rfl
    · simp [Value.ownBlock] at q1; subst q1; exact .inr q2
  have hrole := h5.2
  have hnb : ∀ k, iv.ownBlock = some k → k ≠ b := fun k hk e => by have := hrole k hk; rw [e] at this; omega
  have hgb : gg ≠ b := by
    rcases hat' with q | q
    · exact hnb gg q
    · omega
  have hr' : ∀ k, k < w.heap.size → (if k = gg then 3 else ρ k) = ρ k := fun k hk => by
    split
    · rename_i e; subst e
      rcases hat' with q | q
      · exact (hrole _ q).symm
      · omega
    · rfl
  have hUb : Upd (fun k => k = b) w1 (w1.setCell ⟨b, 1, none⟩ (.slice (some ⟨gg, 0, none⟩) (I.length + 1) cap)) := (Upd.refl (fun k => k = b) w1).setCell (p := ⟨b, 1, none⟩) (.inr rfl) _
  have hUU : Upd (fun k => k = b ∨ iv.ownBlock = some k) w (w1.setCell ⟨b, 1, none⟩ (.slice (some ⟨gg, 0, none⟩) (I.length + 1) cap)) := (hU.mono (fun k _ hk => .inr hk)).trans (hUb.mono (fun k _ hk => .inl hk))
  have hF : ∀ k r, (fun k => if k = gg then 3 else ρ k) k = r → r ≠ 0 → r ≠ 1 → r ≠ 3 → ¬ (k = b ∨ iv.ownBlock = some k) := by
    rintro k r hk q0 q1 q3 (rfl | hf)
    · dsimp only at hk; rw [if_neg (Ne.symm hgb)] at hk; omega
    · dsimp only at hk
      have := hrole k hf
      split at hk <;> omega
  refine ⟨fun k => if k = gg then 3 else ρ k, ⟨fun k hk => ?_, ?_, ?_, ?_, ⟨?_, ?_⟩⟩, ⟨?_, hr'⟩⟩
  · dsimp only at hk
    have hsz : (w1.setCell ⟨b, 1, none⟩ (.slice (some ⟨gg, 0, none⟩) (I.length + 1) cap)).heap.size = w1.heap.size := by simp
    rw [hsz]
    split at hk
    · rename_i e; rw [e]; exact lt_of_block hg
    · exact Nat.lt_of_lt_of_le (h1 k hk) hU.size
  · dsimp only; rw [if_neg (Ne.symm hgb)]; exact h2
  · exact heap_set2' ((hU.block b hbl (fun e => hnb b e rfl)).trans h3)
  · obtain ⟨rows, q1, q2, q3⟩ := h4.role hr'
    exact ⟨rows, q1.upd hUU (fun k hk => hF k _ hk (by omega) (by omega) (by omega)), q2, fun i m hm => by
      obtain ⟨r, p1, p2⟩ := q3 i m hm
      exact ⟨r, p1, p2.upd hUU (fun k hk => by rcases hk with hk | hk <;> exact hF k _ hk (by omega) (by omega) (by omega))⟩⟩
  · have := owns_upd hown hUb (fun k hk e => by simp [Value.ownBlock] at hk; exact hgb (hk.trans e))
    simpa using this
  · intro g hg'
    simp [Value.ownBlock] at hg'
    simp [hg']
  · refine hUU.mono (fun k _ hk => ?_)
    rcases hk with rfl | hk
    · omega
    · rw [hrole k hk]; omega

/-- An inert document is noted. -/
theorem RPart.setI {w : World} {ρ : Nat → Nat} {b ib c : Nat} {nv : Value} {ns : List Nd} {I : List Int} {x : Int} {i : Nat} (h : RPart w ρ b nv (.slice (some ⟨ib, 0, none⟩) I.length c) ns I) :
    RPart (w.setCell ⟨ib, i, none⟩ (.int .i64 x)) ρ b nv (.slice (some ⟨ib, 0, none⟩) I.length c) ns (I.set i x) ∧ Turn ρ ρ w (w.setCell ⟨ib, i, none⟩ (.int .i64 x)) := by
  obtain ⟨h1, h2, h3, h4, h5⟩ := h
  have hib : ρ ib = 3 := h5.2 ib rfl
  have hne : ib ≠ b := fun e => by rw [e] at hib; omega
  have hU : Upd (fun k => k = ib) w (w.setCell ⟨ib, i, none⟩ (.int .i64 x)) := (Upd.refl (fun k => k = ib) w).setCell (p := ⟨ib, i, none⟩) (.inr rfl) _
  refine ⟨⟨fun k hk => by simpa using h1 k hk, h2, by rw [heap_set_other _ _ _ _ (Ne.symm hne)]; exact h3, ?_, ⟨?_, fun g hg => by simp [Value.ownBlock] at hg; rw [← hg]; exact hib⟩⟩, hU.mono (fun k _ hk => by rw [hk]; omega), fun _ _ => rfl⟩
  · obtain ⟨rows, q1, q2, q3⟩ := h4
    have hF : ∀ k, ρ k ≠ 3 → ¬ k = ib := fun k hk e => hk (by rw [e]; exact hib)
    exact ⟨rows, q1.upd hU (fun k hk => hF k (by omega)), q2, fun i m hm => by
      obtain ⟨r, p1, p2⟩ := q3 i m hm
      exact ⟨r, p1, p2.upd hU (fun k hk => hF k (by omega))⟩⟩
  · have := owns_set h5.1 i (.int .i64 x)
    rw [List.length_set, List.map_set]
    exact this

theorem RMem.newRole {w : World} {ρ : Nat → Nat} {b : Nat} {A : Ar} (h : RMem w ρ b A) (g r : Nat) (hg : ρ g = 0) (hlt : g < w.heap.size) : RMem w (fun k => if k = g then r else ρ k) b A := by
  have key : ∀ k r', r' ≠ 0 → ρ k = r' → (if k = g then r else ρ k) = r' := fun k r' hr' hk => by
    rw [if_neg (by intro e; subst e; omega)]; exact hk
  have hown : ∀ {r' e size v n xs}, r' ≠ 0 → ROwn w ρ r' e size v n xs → ROwn w (fun k => if k = g then r else ρ k) r' e size v n xs :=
    fun hr' ho => ⟨ho.1, fun k hk => key k _ hr' (ho.2 k hk)⟩
  obtain ⟨h1, h2, h3, nv, iv, h4, ⟨rows, h5, h6, h7⟩, h8⟩ := h
  refine ⟨fun k hk => ?_, key b 1 (by omega) h2, h3, nv, iv, h4, ⟨rows, hown (by omega) h5, h6, fun i n hn => ?_⟩, hown (by omega) h8⟩
  · dsimp only at hk
    split at hk
    · rename_i e; rw [e]; exact hlt
    · exact h1 k hk
  · obtain ⟨r', hr', kv, av, hrc, hk, ha⟩ := h7 i n hn
    exact ⟨r', hr', kv, av, hrc, hown (by omega) hk, hown (by omega) ha⟩

end Go.Proofs.YtnfdcfagdidmhaaGreatDoor
