/-
  How an arena lies in memory (the program's, the document's).
-/
import Derived.Test.YtnfdcfagdidmhaaAr
namespace Go.Proofs.Ytnfdcfagdidmhaa
open Go.RowKit

def mapEs (L : List (Int × Int)) : Array MapEntry := (L.mapIdx (fun i p => { key := intv p.1, val := intv p.2, born := i })).toArray

/-- The map of the inert documents. -/
def IMapM (w : World) (ρ : Nat → Nat) (mv : Value) (I : List Int) : Prop :=
  ∃ L : List (Int × Int), (∀ k : Int, L.lookup k = if 1 ≤ k ∧ I[k.toNat]?.getD 0 ≠ 0 then some (I[k.toNat]?.getD 0) else none) ∧ (L.map Prod.fst).Nodup ∧
    ((mv = .map none ∧ L = []) ∨ ∃ mb, mv = .map (some mb) ∧ ρ mb = 3 ∧ w.heap[mb]? = some (.map (mapEs L) L.length))

/-- The program's arena, at the head of block b. -/
def AMem (w : World) (ρ : Nat → Nat) (b : Nat) (A : Ar) : Prop :=
  (∀ k, ρ k ≠ 0 → k < w.heap.size) ∧ ρ b = 1 ∧ A.inert.length = A.ns.length + 1 ∧
    ∃ nv mv, w.heap[b]? = some (.cells #[nv, mv] 92 (0, 0)) ∧ NodesM w ρ 103 55 nv A.ns ∧ IMapM w ρ mv A.inert

/-- The document's arena, at the head of block b. -/
def RMem (w : World) (ρ : Nat → Nat) (b : Nat) (A : Ar) : Prop :=
  (∀ k, ρ k ≠ 0 → k < w.heap.size) ∧ ρ b = 1 ∧ A.inert.length = A.ns.length + 1 ∧
    ∃ nv iv, w.heap[b]? = some (.cells #[nv, iv] 65 (0, 0)) ∧ NodesM w ρ 36 55 nv (zeroNd :: A.ns) ∧ ROwn w ρ 3 3 1 iv (A.ns.length + 1) (A.inert.map intv)

/-- What a call on an arena leaves: other blocks as they were; the roles of the old blocks. -/
structure Turn (ρ ρ' : Nat → Nat) (w w' : World) : Prop where
  upd : Upd (fun k => ρ k ≠ 0) w w'
  role : ∀ k, k < w.heap.size → ρ' k = ρ k

theorem Turn.refl (ρ : Nat → Nat) (w : World) : Turn ρ ρ w w := ⟨Upd.refl _ _, fun _ _ => rfl⟩
theorem Turn.trans {ρ ρ' ρ'' : Nat → Nat} {a b c : World} (h : Turn ρ ρ' a b) (k : Turn ρ' ρ'' b c) : Turn ρ ρ'' a c :=
  ⟨⟨k.upd.os.trans h.upd.os, k.upd.tape.trans h.upd.tape, k.upd.output.trans h.upd.output, Nat.le_trans h.upd.size k.upd.size, fun i hi hf =>
    (k.upd.block i (Nat.lt_of_lt_of_le hi h.upd.size) (by rw [h.role i hi]; exact hf)).trans (h.upd.block i hi hf)⟩,
   fun i hi => (k.role i (Nat.lt_of_lt_of_le hi h.upd.size)).trans (h.role i hi)⟩
theorem Turn.below {ρ : Nat → Nat} {w w' : World} (h : Below w.heap.size w w') : Turn ρ ρ w w' := ⟨Upd.below h, fun _ _ => rfl⟩

theorem IMapM.upd {F : Nat → Prop} {w w' : World} {ρ : Nat → Nat} {mv : Value} {I : List Int} (h : IMapM w ρ mv I) (hu : Upd F w w') (hF : ∀ k, ρ k = 3 → ¬ F k) : IMapM w' ρ mv I := by
  obtain ⟨L, h1, h2, h3⟩ := h
  refine ⟨L, h1, h2, ?_⟩
  rcases h3 with h3 | ⟨mb, h4, h5, h6⟩
  · exact .inl h3
  · exact .inr ⟨mb, h4, h5, by rw [hu.block mb (lt_of_block h6) (hF mb h5)]; exact h6⟩
theorem IMapM.role {w : World} {ρ ρ' : Nat → Nat} {mv : Value} {I : List Int} (h : IMapM w ρ mv I) (hr : ∀ k, k < w.heap.size → ρ' k = ρ k) : IMapM w ρ' mv I := by
  obtain ⟨L, h1, h2, h3⟩ := h
  refine ⟨L, h1, h2, ?_⟩
  rcases h3 with h3 | ⟨mb, h4, h5, h6⟩
  · exact .inl h3
  · exact .inr ⟨mb, h4, by rw [hr mb (lt_of_block h6)]; exact h5, h6⟩

theorem AMem.upd {F : Nat → Prop} {w w' : World} {ρ : Nat → Nat} {b : Nat} {A : Ar} (h : AMem w ρ b A) (hu : Upd F w w') (hF : ∀ k, ρ k ≠ 0 → ¬ F k) : AMem w' ρ b A := by
  obtain ⟨h1, h2, h3, nv, mv, h4, h5, h6⟩ := h
  exact ⟨fun k hk => Nat.lt_of_lt_of_le (h1 k hk) hu.size, h2, h3, nv, mv, by rw [hu.block b (lt_of_block h4) (hF b (by omega))]; exact h4, h5.upd hu hF, h6.upd hu (fun k hk => hF k (by omega))⟩
theorem AMem.below {w w' : World} {ρ : Nat → Nat} {b : Nat} {A : Ar} (h : AMem w ρ b A) (hu : Below w.heap.size w w') : AMem w' ρ b A := h.upd (F := fun _ => False) (Upd.below hu) (fun _ _ => id)
theorem RMem.upd {F : Nat → Prop} {w w' : World} {ρ : Nat → Nat} {b : Nat} {A : Ar} (h : RMem w ρ b A) (hu : Upd F w w') (hF : ∀ k, ρ k ≠ 0 → ¬ F k) : RMem w' ρ b A := by
  obtain ⟨h1, h2, h3, nv, mv, h4, h5, h6⟩ := h
  exact ⟨fun k hk => Nat.lt_of_lt_of_le (h1 k hk) hu.size, h2, h3, nv, mv, by rw [hu.block b (lt_of_block h4) (hF b (by omega))]; exact h4, h5.upd hu hF, h6.upd hu (fun k hk => hF k (by omega))⟩
theorem RMem.below {w w' : World} {ρ : Nat → Nat} {b : Nat} {A : Ar} (h : RMem w ρ b A) (hu : Below w.heap.size w w') : RMem w' ρ b A := h.upd (F := fun _ => False) (Upd.below hu) (fun _ _ => id)

/-- The cells of one node at an offset. -/
structure NodeF (w : World) (nb o : Nat) (n : Nd) (kv av : Value) : Prop where
  c0 : w.cell? ⟨nb, o, none⟩ = some (.int .i64 n.kind)
  c1 : w.cell? ⟨nb, o + 1, none⟩ = some (.int .i64 n.parent)
  c2 : w.cell? ⟨nb, o + 2, none⟩ = some kv
  c3 : w.cell? ⟨nb, o + 3, none⟩ = some (.int .i64 n.doc)
  c4 : w.cell? ⟨nb, o + 4, none⟩ = some (.int .i64 n.space)
  c5 : w.cell? ⟨nb, o + 5, none⟩ = some (.string n.name)
  c6 : w.cell? ⟨nb, o + 6, none⟩ = some av
  c7 : w.cell? ⟨nb, o + 7, none⟩ = some (.string n.data)
  c8 : w.cell? ⟨nb, o + 8, none⟩ = some (.string n.pub)
  c9 : w.cell? ⟨nb, o + 9, none⟩ = some (.string n.sys)
  c10 : w.cell? ⟨nb, o + 10, none⟩ = some (.bool n.quirks)
  c11 : w.cell? ⟨nb, o + 11, none⟩ = some (.int .i64 n.contents)
  c12 : w.cell? ⟨nb, o + 12, none⟩ = some (.int .i64 n.host)

theorem NodeF.upd {F : Nat → Prop} {w w' : World} {nb o : Nat} {n : Nd} {kv av : Value} (h : NodeF w nb o n kv av) (hu : Upd F w w') (hF : ¬ F nb) : NodeF w' nb o n kv av :=
  ⟨hu.cell h.c0 hF, hu.cell h.c1 hF, hu.cell h.c2 hF, hu.cell h.c3 hF, hu.cell h.c4 hF, hu.cell h.c5 hF, hu.cell h.c6 hF, hu.cell h.c7 hF, hu.cell h.c8 hF, hu.cell h.c9 hF, hu.cell h.c10 hF, hu.cell h.c11 hF, hu.cell h.c12 hF⟩
theorem NodeF.below {w w' : World} {nb o : Nat} {n : Nd} {kv av : Value} (h : NodeF w nb o n kv av) (hu : Below w.heap.size w w') : NodeF w' nb o n kv av :=
  h.upd (F := fun _ => False) (Upd.below hu) id

theorem NodesM.head {w : World} {ρ : Nat → Nat} {e eA : TypeId} {nv : Value} {ns : List Nd} (h : NodesM w ρ e eA nv ns) : ∃ a c, nv = .slice a ns.length c ∧ ns.length ≤ c ∧ c ≤ 9223372036854775807 ∧
    (0 < ns.length → ∃ nb, a = some ⟨nb, 0, none⟩ ∧ ρ nb = 2 ∧ nb < w.heap.size ∧ (∀ j, w.frozen? ⟨nb, j, none⟩ = false) ∧
      ∀ i n, ns[i]? = some n → ∃ kv av, NodeF w nb (i * 13) n kv av ∧ ROwn w ρ (2 * i + 4) 3 1 kv n.kids.length (n.kids.map intv) ∧ ROwn w ρ (2 * i + 5) eA 3 av n.attrs.length (n.attrs.flatMap attrCells)) := by
  obtain ⟨rows, h1, h2, h3⟩ := h
  have h13 := NodesM.rows13 h2 h3
  obtain ⟨⟨h4, h5⟩, h6⟩ := h1
  rcases h5 with ⟨h7, h8⟩ | ⟨g, cap, cur, h7, _, hg, hn, hc, hs, ht⟩
  · exact ⟨none, 0, by rw [h7, h8], by omega, by omega, fun h => by omega⟩
  · refine ⟨_, cap, h7, hn, hc, fun _ => ⟨g, rfl, h6 g (by rw [h7]; rfl), lt_of_block hg, fun j => frozen_of_row w g j cur e hg, fun i n hi => ?_⟩⟩
    obtain ⟨r, hr, kv, av, hrc, hk, ha⟩ := h3 i n hi
    have key : ∀ j v, j < 13 → (n.cells kv av)[j]? = some v → w.cell? ⟨g, i * 13 + j, none⟩ = some v := fun j v hj hv => by
      rw [cell_of_row w g _ cur e (0, 0) hg]
      have hlt : 13 * i + j < rows.flatten.length := by
        have h0 := flatten_get h13 i j hj
        rw [hr, hrc] at h0
        simp only [Option.bind_some, hv] at h0
        exact (List.getElem?_eq_some_iff.1 h0).1
      have h0 := flatten_get h13 i j hj
      rw [hr, hrc, Option.bind_some, hv, ← ht, List.getElem?_take] at h0
      split at h0
      · rw [show i * 13 + j = 13 * i + j from by omega]; simpa using h0
      · simp at h0
    exact ⟨kv, av, ⟨key 0 _ (by omega) rfl, key 1 _ (by omega) rfl, key 2 _ (by omega) rfl, key 3 _ (by omega) rfl, key 4 _ (by omega) rfl, key 5 _ (by omega) rfl, key 6 _ (by omega) rfl, key 7 _ (by omega) rfl, key 8 _ (by omega) rfl, key 9 _ (by omega) rfl, key 10 _ (by omega) rfl, key 11 _ (by omega) rfl, key 12 _ (by omega) rfl⟩, hk, ha⟩

theorem Ar.get_some {A : Ar} {h : Int} (hh : A.has h) : A.ns[(h.toNat - 1)]? = some (A.get h) := by
  obtain ⟨h1, h2⟩ := hh
  unfold Ar.n at h2
  have : (h.toNat - 1) < A.ns.length := by omega
  simp [Ar.get, this]

/-- What a walk reads of the program's arena: its header. -/
theorem AMem.head {w : World} {ρ : Nat → Nat} {b : Nat} {A : Ar} (h : AMem w ρ b A) : ∃ a c mv, w.cell? ⟨b, 0, none⟩ = some (.slice a A.ns.length c) ∧ w.cell? ⟨b, 1, none⟩ = some mv ∧ (∀ j, w.frozen? ⟨b, j, none⟩ = false) ∧ b < w.heap.size ∧ (A.ns.length : Int) ≤ 9223372036854775807 ∧
    (0 < A.ns.length → ∃ nb, a = some ⟨nb, 0, none⟩ ∧ ρ nb = 2 ∧ nb < w.heap.size ∧ (∀ j, w.frozen? ⟨nb, j, none⟩ = false) ∧
      ∀ x, A.has x → ∃ kv av, NodeF w nb ((x.toNat - 1) * 13) (A.get x) kv av ∧ ROwn w ρ (2 * (x.toNat - 1) + 4) 3 1 kv (A.get x).kids.length ((A.get x).kids.map intv) ∧ ROwn w ρ (2 * (x.toNat - 1) + 5) 55 3 av (A.get x).attrs.length ((A.get x).attrs.flatMap attrCells)) := by
  obtain ⟨h1, h2, h3, nv, mv, h4, h5, h6⟩ := h
  obtain ⟨a, c, rfl, h7, h8, h9⟩ := h5.head
  refine ⟨a, c, mv, ?_, ?_, fun j => frozen_of_row w b j _ _ h4, lt_of_block h4, by omega, fun hp => ?_⟩
  · rw [cell_of_row w b _ _ _ _ h4]; rfl
  · rw [cell_of_row w b _ _ _ _ h4]; rfl
  · obtain ⟨nb, ha, hr, hl, hf, hN⟩ := h9 hp
    exact ⟨nb, ha, hr, hl, hf, fun x hx => hN _ _ (Ar.get_some hx)⟩

end Go.Proofs.Ytnfdcfagdidmhaa
