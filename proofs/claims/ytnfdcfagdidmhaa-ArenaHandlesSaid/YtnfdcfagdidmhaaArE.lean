/-
  What becomes of an arena in memory when its blocks are written: no program here.
-/
import Derived.Test.YtnfdcfagdidmhaaArM
namespace Go.Proofs.Ytnfdcfagdidmhaa
open Go.RowKit

theorem heap_set_other (w : World) (a : Addr) (v : Value) (k : Nat) (h : k ≠ a.block) : (w.setCell a v).heap[k]? = w.heap[k]? := Below.heap_setCell w a v k h
theorem heap_set2 {w : World} {b : Nat} {x y z : Value} {t : TypeId} (h : w.heap[b]? = some (.cells #[x, y] t (0, 0))) : (w.setCell ⟨b, 0, none⟩ z).heap[b]? = some (.cells #[z, y] t (0, 0)) := by
  simp [World.setCell, Array.getElem?_modify, h]
theorem heap_set2' {w : World} {b : Nat} {x y z : Value} {t : TypeId} (h : w.heap[b]? = some (.cells #[x, y] t (0, 0))) : (w.setCell ⟨b, 1, none⟩ z).heap[b]? = some (.cells #[x, z] t (0, 0)) := by
  simp [World.setCell, Array.getElem?_modify, h]

theorem owns_upd {F : Nat → Prop} {w w' : World} {base : Nat} {e : TypeId} {size : Nat} {v : Value} {n : Nat} {xs : List Value} (h : w.ownsRow base e size v n xs) (hu : Upd F w w') (hF : ∀ k, v.ownBlock = some k → ¬ F k) : w'.ownsRow base e size v n xs := by
  refine ⟨h.1, ?_⟩
  rcases h.2 with h2 | ⟨g, cap, cur, rfl, hb, hg, hr⟩
  · exact Or.inl h2
  · exact Or.inr ⟨g, cap, cur, rfl, hb, by rw [hu.block g (lt_of_block hg) (hF g rfl)]; exact hg, hr⟩

/-- A new role for a block that has none. -/
theorem AMem.newRole {w : World} {ρ : Nat → Nat} {b : Nat} {A : Ar} (h : AMem w ρ b A) (g r : Nat) (hg : ρ g = 0) (hlt : g < w.heap.size) : AMem w (fun k => if k = g then r else ρ k) b A := by
  have key : ∀ k r', r' ≠ 0 → ρ k = r' → (if k = g then r else ρ k) = r' := fun k r' hr' hk => by
    rw [if_neg (by intro e; subst e; omega)]; exact hk
  have hown : ∀ {r' e size v n xs}, r' ≠ 0 → ROwn w ρ r' e size v n xs → ROwn w (fun k => if k = g then r else ρ k) r' e size v n xs :=
    fun hr' ho => ⟨ho.1, fun k hk => key k _ hr' (ho.2 k hk)⟩
  obtain ⟨h1, h2, h3, nv, mv, h4, ⟨rows, h5, h6, h7⟩, L, h8, h9, h10⟩ := h
  refine ⟨fun k hk => ?_, key b 1 (by omega) h2, h3, nv, mv, h4, ⟨rows, hown (by omega) h5, h6, fun i n hn => ?_⟩, L, h8, h9, ?_⟩
  · dsimp only at hk
    split at hk
    · rename_i e; rw [e]; exact hlt
    · exact h1 k hk
  · obtain ⟨r', hr', kv, av, hrc, hk, ha⟩ := h7 i n hn
    exact ⟨r', hr', kv, av, hrc, hown (by omega) hk, hown (by omega) ha⟩
  · rcases h10 with h10 | ⟨mb, h11, h12, h13⟩
    · exact .inl h10
    · exact .inr ⟨mb, h11, key mb 3 (by omega) h12, h13⟩

/-- A node is added: the slice of nodes has grown to the block gg. -/
theorem AMem.added {w w1 w' : World} {ρ : Nat → Nat} {b : Nat} {A : Ar} {n : Nd} {nv mv av : Value} {rows : List (List Value)} {gg cap : Nat}
    (h1 : ∀ k, ρ k ≠ 0 → k < w.heap.size) (h2 : ρ b = 1) (h3 : A.inert.length = A.ns.length + 1) (h4 : w.heap[b]? = some (.cells #[nv, mv] 92 (0, 0)))
    (hrole : ∀ g, nv.ownBlock = some g → ρ g = 2) (hrl : rows.length = A.ns.length) (hrows : ∀ i n, A.ns[i]? = some n → ∃ r, rows[i]? = some r ∧ NodeM w ρ 55 i n r) (hmap : IMapM w ρ mv A.inert)
    (hk : n.kids = []) (hav : ROwn w ρ (2 * A.ns.length + 5) 55 3 av n.attrs.length (n.attrs.flatMap attrCells))
    (hU : Upd (fun k => nv.ownBlock = some k) w w1) (hown : w1.ownsRow 0 103 13 (.slice (some ⟨gg, 0, none⟩) (A.ns.length + 1) cap) (A.ns.length + 1) (rows.flatten ++ n.cells (.slice none 0 0) av))
    (hat : nv.ownBlock = some gg ∨ w.heap.size ≤ gg) (hgl : gg < w1.heap.size) (hw' : w'.heap = (w1.setCell ⟨b, 0, none⟩ (.slice (some ⟨gg, 0, none⟩) (A.ns.length + 1) cap)).heap) (hos : w'.os = w1.os) (htp : w'.tape = w1.tape) (hout : w'.output = w1.output) :
    ∃ ρ', AMem w' ρ' b (A.add n) ∧ Turn ρ ρ' w w' := by
  have hbl := lt_of_block h4
  have hgb : gg ≠ b := by
    intro e; subst e
    rcases hat with hat | hat
    · have := hrole _ hat; omega
    · omega
  have hnb : nv.ownBlock ≠ some b := fun e => by have := hrole b e; omega
  have hU' : Upd (fun k => k = b ∨ ρ k = 2) w w' := by
    refine ⟨hos.trans hU.os, htp.trans hU.tape, hout.trans hU.output, by rw [hw']; simpa using hU.size, fun k hk hf => ?_⟩
    rw [hw', heap_set_other _ _ _ _ (fun e => hf (.inl e))]
    exact hU.block k hk (fun e => hf (.inr (hrole k e)))
  have hr' : ∀ k, k < w.heap.size → (if k = gg then 2 else ρ k) = ρ k := fun k hk => by
    split
    · rename_i e; subst e
      rcases hat with hat | hat
      · exact (hrole _ hat).symm
      · omega
    · rfl
  have hF : ∀ k r, (fun k => if k = gg then 2 else ρ k) k = r → 3 ≤ r → ¬ (k = b ∨ ρ k = 2) := by
    intro k r hr h3 hf
    dsimp only at hr
    rcases hf with rfl | q4
    · rw [if_neg (Ne.symm hgb)] at hr; omega
    · split at hr <;> omega
  refine ⟨fun k => if k = gg then 2 else ρ k, ⟨fun k hk => ?_, ?_, by simp [Ar.add, h3], .slice (some ⟨gg, 0, none⟩) (A.ns.length + 1) cap, mv, ?_, ⟨rows ++ [n.cells (.slice none 0 0) av], ⟨?_, ?_⟩, by simp [Ar.add, hrl], ?_⟩, ?_⟩, ⟨hU'.mono (fun k _ hf => ?_), hr'⟩⟩
  · dsimp only at hk
    split at hk
    · rename_i e; rw [e, hw']; simpa using hgl
    · exact Nat.lt_of_lt_of_le (h1 k hk) hU'.size
  · exact (hr' b hbl).trans h2
  · rw [hw']; exact heap_set2 ((hU.block b hbl (fun e => hnb e)).trans h4)
  · have : w'.ownsRow 0 103 13 (.slice (some ⟨gg, 0, none⟩) (A.ns.length + 1) cap) (A.ns.length + 1) (rows.flatten ++ n.cells (.slice none 0 0) av) := by
      refine ⟨hown.1, ?_⟩
      rcases hown.2 with ⟨h, _⟩ | ⟨g, c', cur, hv, hb, hg, hrest⟩
      · simp at h
      · refine .inr ⟨g, c', cur, hv, hb, ?_, hrest⟩
        simp at hv
        rw [hw', heap_set_other _ _ _ _ (by rw [← hv.1]; exact hgb)]; exact hg
    simpa [Ar.add, List.flatten_append] using this
  · intro g hg
    simp [Value.ownBlock] at hg
    simp [hg]
  · intro i m hm
    simp only [Ar.add, List.getElem?_append] at hm
    split at hm
    · rename_i hi
      obtain ⟨r, hr, hM⟩ := hrows i m hm
      exact ⟨r, by rw [List.getElem?_append_left (by omega)]; exact hr, (hM.role hr').upd hU' (fun k hk => by rcases hk with hk | hk <;> exact hF k _ hk (by omega))⟩
    · rename_i hi
      have hi' : i = A.ns.length := by
        have := (List.getElem?_eq_some_iff.1 hm).1; simp at this; omega
      subst hi'
      simp at hm
      subst hm
      refine ⟨n.cells (.slice none 0 0) av, by rw [← hrl]; simp, .slice none 0 0, av, rfl, by rw [hk]; exact ⟨World.ownsRow_nil _ _ _ _, fun g hg => by simp [Value.ownBlock] at hg⟩, (hav.role hr').upd hU' (fun k hk => hF k _ hk (by omega))⟩
  · obtain ⟨L, m1, m2, m3⟩ := (hmap.role hr').upd hU' (fun k hk => hF k _ hk (by omega))
    refine ⟨L, fun k => ?_, m2, m3⟩
    rw [m1 k]
    have : (A.add n).inert[k.toNat]?.getD 0 = A.inert[k.toNat]?.getD 0 := by
      simp only [Ar.add, List.getElem?_append]
      split
      · rfl
      · rename_i hge
        rw [List.getElem?_eq_none (l := A.inert) (by omega)]
        cases h : [(0 : Int)][k.toNat - A.inert.length]? with
        | none => rfl
        | some x => have := List.mem_of_getElem? h; simp at this; simp [this]
    rw [this]
  · rcases hf with rfl | hf <;> omega

theorem owns_set {w : World} {base : Nat} {e : TypeId} {size : Nat} {g n cap : Nat} {xs : List Value} (h : w.ownsRow base e size (.slice (some ⟨g, 0, none⟩) n cap) n xs) (j : Nat) (v : Value) : (w.setCell ⟨g, j, none⟩ v).ownsRow base e size (.slice (some ⟨g, 0, none⟩) n cap) n (xs.set j v) := by
  refine ⟨by simpa using h.1, ?_⟩
  rcases h.2 with ⟨h2, _⟩ | ⟨g', cap', cur, hv, hb, hg, hn, hc, hs, ht⟩
  · simp at h2
  · simp at hv
    obtain ⟨rfl, rfl⟩ := hv
    refine .inr ⟨g, cap, cur.setIfInBounds j v, rfl, hb, ?_, hn, hc, by simpa using hs, ?_⟩
    · simp [World.setCell, Array.getElem?_modify, hg]
    · rw [Array.toList_setIfInBounds, List.take_set, ht]

/-- A store into a field of a node; the arrays of its lists may have been written ahead of it. -/
theorem AMem.store {w w1 : World} {ρ ρ' : Nat → Nat} {b : Nat} {A : Ar} {x : Int} {f : Nd → Nd} {j nb c : Nat} {v : Value} (hA : AMem w ρ b A) (hx : A.has x)
    (hc0 : w.cell? ⟨b, 0, none⟩ = some (.slice (some ⟨nb, 0, none⟩) A.ns.length c)) (hU : Upd (fun k => ρ k = 2 * (x.toNat - 1) + 4 ∨ ρ k = 2 * (x.toNat - 1) + 5) w w1)
    (hr : ∀ k, k < w.heap.size → ρ' k = ρ k) (hb : ∀ k, ρ' k ≠ 0 → k < w1.heap.size) (hj : j < 13)
    (hM : ∀ kv av, ROwn w ρ (2 * (x.toNat - 1) + 4) 3 1 kv (A.get x).kids.length ((A.get x).kids.map intv) → ROwn w ρ (2 * (x.toNat - 1) + 5) 55 3 av (A.get x).attrs.length ((A.get x).attrs.flatMap attrCells) →
      w.cell? ⟨nb, (x.toNat - 1) * 13 + 2, none⟩ = some kv → w.cell? ⟨nb, (x.toNat - 1) * 13 + 6, none⟩ = some av →
      NodeM w1 ρ' 55 (x.toNat - 1) (f (A.get x)) (((A.get x).cells kv av).set j v)) :
    AMem (w1.setCell ⟨nb, (x.toNat - 1) * 13 + j, none⟩ v) ρ' b (A.mod x f) := by
  have hget := Ar.get_some hx
  have hilt : x.toNat - 1 < A.ns.length := (List.getElem?_eq_some_iff.1 hget).1
  obtain ⟨h1, h2, h3, nv, mv, h4, ⟨rows, ⟨h5, h6⟩, h7, h8⟩, hmap⟩ := hA
  rw [cell_of_row w b _ _ _ _ h4] at hc0
  simp at hc0
  subst hc0
  have hnb : ρ nb = 2 := h6 nb rfl
  have hbl := lt_of_block h4
  have hnbl : nb < w.heap.size := (owns_block h5 nb rfl).2
  have hbn : nb ≠ b := by intro e; rw [e] at hnb; omega
  have h13 := NodesM.rows13 h7 h8
  have hU2 : Upd (fun k => ρ' k = 2 * (x.toNat - 1) + 4 ∨ ρ' k = 2 * (x.toNat - 1) + 5 ∨ k = nb) w (w1.setCell ⟨nb, (x.toNat - 1) * 13 + j, none⟩ v) := by
    refine ⟨hU.os, hU.tape, hU.output, by simpa using hU.size, fun k hk hf => ?_⟩
    rw [heap_set_other _ _ _ _ (fun e => hf (.inr (.inr e)))]
    exact hU.block k hk (fun e => hf (by rw [hr k hk]; rcases e with e | e; exact .inl e; exact .inr (.inl e)))
  have hsz : w.heap.size ≤ w1.heap.size := hU.size
  refine ⟨fun k hk => by simpa using hb k hk, (hr b hbl).trans h2, by simp [Ar.mod, h3], .slice (some ⟨nb, 0, none⟩) A.ns.length c, mv, ?_, ⟨rows.modify (x.toNat - 1) (fun r => r.set j v), ⟨?_, ?_⟩, by simp [Ar.mod, h7], ?_⟩, ?_⟩
  · rw [heap_set_other _ _ _ _ (Ne.symm hbn), hU.block b hbl (by omega)]; exact h4
  · have := owns_set (owns_upd h5 hU (fun k hk => by simp [Value.ownBlock] at hk; subst hk; omega)) ((x.toNat - 1) * 13 + j) v
    rw [show (x.toNat - 1) * 13 + j = 13 * (x.toNat - 1) + j from by omega, flatten_set v h13 _ _ hj] at this
    rw [show (x.toNat - 1) * 13 + j = 13 * (x.toNat - 1) + j from by omega]
    simpa [Ar.mod] using this
  · intro g hg
    simp [Value.ownBlock] at hg
    subst hg
    rw [hr _ hnbl]; exact hnb
  · intro i n hn
    have hF : ∀ k, ρ' k = 2 * i + 4 ∨ ρ' k = 2 * i + 5 → i ≠ x.toNat - 1 → ¬ (ρ' k = 2 * (x.toNat - 1) + 4 ∨ ρ' k = 2 * (x.toNat - 1) + 5 ∨ k = nb) := by
      intro k hk hi hf
      rcases hf with hf | hf | hf
      · omega
      · omega
      · rw [hf, hr nb hnbl] at hk; omega
    simp only [Ar.mod, List.getElem?_modify] at hn
    by_cases hi : x.toNat - 1 = i
    · subst hi
      obtain ⟨r, hr1, kv, av, hrc, hk, ha⟩ := h8 _ _ hget
      rw [hget] at hn
      simp at hn
      subst hn
      have hc : ∀ jj vv, jj < 13 → ((A.get x).cells kv av)[jj]? = some vv → w.cell? ⟨nb, (x.toNat - 1) * 13 + jj, none⟩ = some vv := by
        intro jj vv hjj hvv
        rcases h5.2 with ⟨hq, _⟩ | ⟨g, cap, cur, hv, _, hg, hnn, hcc, hss, htt⟩
        · simp at hq
        · simp at hv
          obtain ⟨rfl, rfl⟩ := hv
          rw [cell_of_row w nb _ cur _ (0, 0) hg]
          have h0 := flatten_get h13 (x.toNat - 1) jj hjj
          rw [hr1, hrc, Option.bind_some, hvv, ← htt, List.getElem?_take] at h0
          split at h0
          · rw [show (x.toNat - 1) * 13 + jj = 13 * (x.toNat - 1) + jj from by omega]; simpa using h0
          · simp at h0
      refine ⟨((A.get x).cells kv av).set j v, by rw [List.getElem?_modify, hr1, hrc]; simp, ?_⟩
      refine (hM kv av hk ha (hc 2 _ (by omega) rfl) (hc 6 _ (by omega) rfl)).upd (F := fun k => k = nb) ⟨rfl, rfl, rfl, by simp, fun k hk hf => heap_set_other _ _ _ _ hf⟩ ?_
      rintro k hk rfl
      rw [hr k hnbl] at hk; omega
    · obtain ⟨r, hr1, hMi⟩ := h8 i n (by simpa [hi] using hn)
      exact ⟨r, by rw [List.getElem?_modify, hr1]; simp [hi], (hMi.role hr).upd hU2 (fun k hk => hF k hk (Ne.symm hi))⟩
  · refine (hmap.role hr).upd hU2 ?_
    rintro k hk (e | e | rfl)
    · omega
    · omega
    · rw [hr k hnbl] at hk; omega

end Go.Proofs.Ytnfdcfagdidmhaa
