/-
  Contracts of the program's arena: describe.
-/
import Derived.Test.YtnfdcfagdidmhaaP17
namespace Go.Proofs.Ytnfdcfagdidmhaa
open Go.RowKit

theorem sizeNode (n : Nd) (kv av : Value) : (Try.prog.info? 36).map (·.size) = some (n.cells kv av).toArray.size := by
  have : (Try.prog.info? 36).map (·.size) = some 13 := by kernel_rfl
  rw [this]; rfl

/-- A description in new memory. -/
def DescR (n : Nd) (w : World) (e : Ending) (w' : World) : Prop :=
  Below w.heap.size w w' ∧ ∃ kv av, e = .returned (.agg (n.cells kv av).toArray) ∧ w'.ownsRow w.heap.size 3 1 kv n.kids.length (n.kids.map intv) ∧ w'.ownsRow w.heap.size 55 3 av n.attrs.length (n.attrs.flatMap attrCells)

set_option maxRecDepth 100000 in
set_option maxHeartbeats 4000000 in
theorem describe_any (nb o : Nat) (n : Nd) (kv av : Value) (w : World) (F : NodeF w nb o n kv av) (hk : RInts w kv n.kids) (ha : RAttrs w av n.attrs) (hs1 : n.kids.length ≤ 1000000) (hs2 : n.attrs.length ≤ 1000000) :
    Calls Try.prog 69 #[.pointer (some ⟨nb, o, none⟩)] w (DescR n w) := by
  have c0 := F.c0; have c1 := F.c1; have c2 := F.c2; have c3 := F.c3; have c4 := F.c4; have c5 := F.c5; have c6 := F.c6
  have c7 := F.c7; have c8 := F.c8; have c9 := F.c9; have c10 := F.c10; have c11 := F.c11; have c12 := F.c12
  have hnb := World.block_lt_of_cell? w _ c0
  dsimp only at hnb
  obtain ⟨ka, kc, rfl, hkl1, hkl2, -⟩ := hk.form
  obtain ⟨aa, ac, rfl, hal1, hal2, -⟩ := ha.form
  have HK := Lib.hid hk
  have HA := Lib.hid ha
  clear F hk ha
  go_enter Try.func69, Try.ntmps69
  go_wp2_with fail
  obtain ⟨W0, hW0⟩ : ∃ W0 : World, W0 = (w.alloc (.cells #[.int .i64 0, .int .i64 0, .slice none 0 0, .int .i64 0, .int .i64 0, .string ⟨#[]⟩, .slice none 0 0, .string ⟨#[]⟩, .string ⟨#[]⟩, .string ⟨#[]⟩, .bool false, .int .i64 0, .int .i64 0] 36)).alloc (.cells (n.cells (.slice ka n.kids.length kc) (.slice aa n.attrs.length ac)).toArray 36) := ⟨_, rfl⟩
  have hB0 : Below w.heap.size w W0 := by rw [hW0]; exact ((Below.refl _ w).alloc (Nat.le_refl _) _).alloc (by simp) _
  have hs0 : W0.heap.size = w.heap.size + 2 := by rw [hW0]; simp
  have hd0 : W0.heap[w.heap.size + 1]? = some (.cells (n.cells (.slice ka n.kids.length kc) (.slice aa n.attrs.length ac)).toArray 36 (0, 0)) := by rw [hW0]; exact heap_alloc2_new w _ _
  have hr0 : W0.heap[w.heap.size]? = some (.cells #[.int .i64 0, .int .i64 0, .slice none 0 0, .int .i64 0, .int .i64 0, .string ⟨#[]⟩, .slice none 0 0, .string ⟨#[]⟩, .string ⟨#[]⟩, .string ⟨#[]⟩, .bool false, .int .i64 0, .int .i64 0] 36 (0, 0)) := by rw [hW0]; exact heap_alloc2_old w _ _
  have q2 := Below.old hB0 c2
  have q6 := Below.old hB0 c6
  have hne : nb ≠ w.heap.size + 1 := by omega
  clear c0 c1 c3 c4 c5 c7 c8 c9 c10 c11 c12 c2 c6
  unfold Nd.cells at hW0
  rw [← hW0]
  clear hW0
  go_region_held3 (fun w' => w'.cell? ⟨nb, o + 2, none⟩ = some (.slice ka n.kids.length kc) ∧ w'.cell? ⟨nb, o + 6, none⟩ = some (.slice aa n.attrs.length ac))
    (first | exact ⟨q2, q6⟩ | exact ⟨r2, r6⟩ | exact ⟨t2, t6⟩ | exact ⟨s2, s6⟩ | exact ⟨x2, x6⟩)
    (first
      | (go_at_call 88; refine (Clone_int _ n.kids _ (HK.out.below (Below.drew hB0)) hs1).mono ?_
         rintro e W1 ⟨hB1, v1, rfl, ho1⟩
         have hBa : Below w.heap.size w W1 := hB0.trans ((Below.drew (Below.refl w.heap.size W0)).trans (hB1.mono (by simp; omega)))
         obtain ⟨a1, k1, rfl⟩ := ownsForm ho1
         have d1 := (hB1.block (w.heap.size + 1) (by simp; omega)).trans hd0
         have d1r := (hB1.block w.heap.size (by simp; omega)).trans hr0
         have r2 : W1.cell? ⟨nb, o + 2, none⟩ = some (.slice ka n.kids.length kc) := Below.old hB1 q2
         have r6 : W1.cell? ⟨nb, o + 6, none⟩ = some (.slice aa n.attrs.length ac) := Below.old hB1 q6)
      | (go_at_call 121; refine (Clone_attr _ n.attrs _ (HA.out.below hBa) hs2).mono ?_
         rintro e W2 ⟨hB2, v2, rfl, ho2⟩
         obtain ⟨a2, k2, rfl⟩ := ownsForm ho2
         have d2 := (hB2.block (w.heap.size + 1) (lt_of_block d1)).trans d1
         have d2r := (hB2.block w.heap.size (lt_of_block d1r)).trans d1r
         have e2 : W2.cell? ⟨w.heap.size + 1, 2, none⟩ = some (.slice ka n.kids.length kc) := by rw [cell_of_row W2 _ _ _ _ _ d2]; rfl
         have e6 : W2.cell? ⟨w.heap.size + 1, 6, none⟩ = some (.slice aa n.attrs.length ac) := by rw [cell_of_row W2 _ _ _ _ _ d2]; rfl
         have ef2 : W2.frozen? ⟨w.heap.size + 1, 2, none⟩ = false := frozen_of_row W2 _ _ _ _ d2
         have ef6 : W2.frozen? ⟨w.heap.size + 1, 6, none⟩ = false := frozen_of_row W2 _ _ _ _ d2
         have t2 : W2.cell? ⟨nb, o + 2, none⟩ = some (.slice ka n.kids.length kc) := Below.old hB2 r2
         have t6 : W2.cell? ⟨nb, o + 6, none⟩ = some (.slice aa n.attrs.length ac) := Below.old hB2 r6
         have s2 : (W2.setCell ⟨w.heap.size + 1, 2, none⟩ (.slice a1 n.kids.length k1)).cell? ⟨nb, o + 2, none⟩ = some (.slice ka n.kids.length kc) := (World.cell?_setCell_other _ _ _ _ (fun e => hne (congrArg Addr.block e).symm)).trans t2
         have s6 : (W2.setCell ⟨w.heap.size + 1, 2, none⟩ (.slice a1 n.kids.length k1)).cell? ⟨nb, o + 6, none⟩ = some (.slice aa n.attrs.length ac) := (World.cell?_setCell_other _ _ _ _ (fun e => hne (congrArg Addr.block e).symm)).trans t6
         have x2 : ((W2.setCell ⟨w.heap.size + 1, 2, none⟩ (.slice a1 n.kids.length k1)).setCell ⟨w.heap.size + 1, 6, none⟩ (.slice a2 n.attrs.length k2)).cell? ⟨nb, o + 2, none⟩ = some (.slice ka n.kids.length kc) := (World.cell?_setCell_other _ _ _ _ (fun e => hne (congrArg Addr.block e).symm)).trans s2
         have x6 : ((W2.setCell ⟨w.heap.size + 1, 2, none⟩ (.slice a1 n.kids.length k1)).setCell ⟨w.heap.size + 1, 6, none⟩ (.slice a2 n.attrs.length k2)).cell? ⟨nb, o + 6, none⟩ = some (.slice aa n.attrs.length ac) := (World.cell?_setCell_other _ _ _ _ (fun e => hne (congrArg Addr.block e).symm)).trans s6))
  have hx1 : ((W2.setCell ⟨w.heap.size + 1, 2, none⟩ (.slice a1 n.kids.length k1)).setCell ⟨w.heap.size + 1, 6, none⟩ (.slice a2 n.attrs.length k2)).heap[w.heap.size + 1]? = some (.cells (n.cells (.slice a1 n.kids.length k1) (.slice a2 n.attrs.length k2)).toArray 36 (0, 0)) := by
    simp [World.setCell, Array.getElem?_modify, d2, Nd.cells]
  have hx0 : ((W2.setCell ⟨w.heap.size + 1, 2, none⟩ (.slice a1 n.kids.length k1)).setCell ⟨w.heap.size + 1, 6, none⟩ (.slice a2 n.attrs.length k2)).heap[w.heap.size]? = W2.heap[w.heap.size]? := by
    rw [heap_set_other _ _ _ _ (by dsimp only; omega), heap_set_other _ _ _ _ (by dsimp only; omega)]
  rw [d2r] at hx0
  have hU : Upd (fun k => k = w.heap.size + 1) W2 ((W2.setCell ⟨w.heap.size + 1, 2, none⟩ (.slice a1 n.kids.length k1)).setCell ⟨w.heap.size + 1, 6, none⟩ (.slice a2 n.attrs.length k2)) :=
    ((Upd.refl (fun k => k = w.heap.size + 1) W2).setCell (p := ⟨w.heap.size + 1, 2, none⟩) (.inr rfl) _).setCell (p := ⟨w.heap.size + 1, 6, none⟩) (.inr rfl) _
  have hBx : Below w.heap.size w W2 := hBa.trans (hB2.mono hBa.size)
  have ho1' := owns_base (base' := w.heap.size) (owns_below ho1 hB2) (by simp; omega)
  have ho2' := owns_base (base' := w.heap.size) ho2 hBa.size
  have hne1 : ∀ k, (Value.slice a1 n.kids.length k1).ownBlock = some k → ¬ (k = w.heap.size + 1 ∨ k = w.heap.size) := fun k hk h => by have := (owns_block ho1 k hk).1; simp at this; omega
  have hne2 : ∀ k, (Value.slice a2 n.attrs.length k2).ownBlock = some k → ¬ (k = w.heap.size + 1 ∨ k = w.heap.size) := fun k hk h => by have := (owns_block ho2 k hk).1; have := hBa.size; have := lt_of_block d1; omega
  generalize (W2.setCell ⟨w.heap.size + 1, 2, none⟩ (.slice a1 n.kids.length k1)).setCell ⟨w.heap.size + 1, 6, none⟩ (.slice a2 n.attrs.length k2) = X at *
  have hc : ∀ (j : Nat) (v : Value), (n.cells (.slice a1 n.kids.length k1) (.slice a2 n.attrs.length k2))[j]? = some v → X.cell? ⟨w.heap.size + 1, j, none⟩ = some v := fun j v hv => by rw [cell_of_row X _ _ _ _ _ hx1]; simpa using hv
  have y0 := hc 0 _ rfl; have y1 := hc 1 _ rfl; have y2 := hc 2 _ rfl; have y3 := hc 3 _ rfl; have y4 := hc 4 _ rfl; have y5 := hc 5 _ rfl; have y6 := hc 6 _ rfl
  have y7 := hc 7 _ rfl; have y8 := hc 8 _ rfl; have y9 := hc 9 _ rfl; have y10 := hc 10 _ rfl; have y11 := hc 11 _ rfl; have y12 := hc 12 _ rfl
  have HEND : Hid (∀ X' : World, X'.heap[w.heap.size]? = some (.cells (n.cells (.slice a1 n.kids.length k1) (.slice a2 n.attrs.length k2)).toArray 36 (0, 0)) → Upd (fun k => k = w.heap.size) X X' → DescR n w (.returned (.agg (n.cells (.slice a1 n.kids.length k1) (.slice a2 n.attrs.length k2)).toArray)) X') := by
    intro X' _ hU'
    have hUU := (hU.mono (G := fun k => k = w.heap.size + 1 ∨ k = w.heap.size) (fun k _ hk => .inl hk)).trans (hU'.mono (fun k _ hk => .inr hk))
    exact ⟨hBx.trans (hUU.toBelow' (fun k hk h => by omega) hBx.size), _, _, rfl, owns_upd ho1' hUU hne1, owns_upd ho2' hUU hne2⟩
  have HX0 := Lib.hid hx0
  clear hc hx1 hx0 hU hBx ho1' ho2' hne1 hne2 ho1 ho2 d1 d1r d2 d2r e2 e6 ef2 ef6 t2 t6 s2 s6 x2 x6 r2 r6 q2 q6 hd0 hr0 hB1 hB2 hBa hB0
  have hone := cellsOneCell n (.slice a1 n.kids.length k1) (.slice a2 n.attrs.length k2) rfl rfl
  have hthere : X.there w.heap.size 0 (n.cells (.slice a1 n.kids.length k1) (.slice a2 n.attrs.length k2)).toArray.size := fun j hj => by
    rw [Nat.zero_add]
    exact ⟨by rw [cell_of_row X _ _ _ _ _ HX0.out]; simp [Nd.cells] at hj; simp; omega, frozen_of_row X _ _ _ _ HX0.out⟩
  have HT := Lib.hid (And.intro hone hthere)
  clear hone hthere
  go_wp2_with (refine wpList_store_mid rfl 36 (.tmp 2) (.tmp 22) rfl w.heap.size 0 (n.cells (.slice a1 n.kids.length k1) (.slice a2 n.attrs.length k2)).toArray rfl rfl HT.out.2 (sizeNode _ _ _) (all_oneCell_toArray HT.out.1) ?_)
  obtain ⟨cur', l1, l2, l3⟩ := setCells_block w.heap.size 36 (n.cells (.slice a1 n.kids.length k1) (.slice a2 n.attrs.length k2)) 0 X _ HX0.out
  have hcur : cur' = (n.cells (.slice a1 n.kids.length k1) (.slice a2 n.attrs.length k2)).toArray := by
    apply Array.ext_getElem?
    intro k
    rw [l3 k]
    by_cases hk : k < 13
    · rw [if_pos (by simp [Nd.cells]; omega)]; simp
    · rw [if_neg (by simp [Nd.cells]; omega)]
      simp [Nd.cells]; rw [List.getElem?_eq_none (by simp; omega), List.getElem?_eq_none (by simp; omega)]
  subst hcur
  refine bodyPost_ret (results_cell_row rfl _ _ w.heap.size 36 _ (0, 0) _ rfl l1 Try.underlying36 rfl (sizeNode _ _ _)) rfl (HEND.out _ l1 ?_)
  exact (Upd.refl (fun k => k = w.heap.size) X).setCells (.inr rfl) _ _

end Go.Proofs.Ytnfdcfagdidmhaa
