/-
  Contracts of the program's arena: Node, Nodes, Inert, New, Root.
-/
import Derived.Test.YtnfdcfagdidmhaaP18
namespace Go.Proofs.Ytnfdcfagdidmhaa
open Go.RowKit

theorem results_cell_tmp {fn : Func} {p q : Tmp} {ty : TypeId} {P : Program} (h : fn.results = #[.cell p ty, .tmp q]) (tmps : Array Value) (w : World) (g : Nat) (cs : Array Value)
    (hp : tmps.getD p undef = .pointer (some ⟨g, 0, none⟩)) (hl : (loadVar ty ⟨g, 0, none⟩).run P w = .ok (.agg cs) w) :
    (results fn tmps).run P w = .ok (.tuple #[.agg cs, tmps.getD q undef]) w := by
  have hp' : tmps[p]?.getD undef = .pointer (some ⟨g, 0, none⟩) := by simpa using hp
  simp [results, h, hp', asAddr, hl]

/-- What 'Node' hands back. -/
def NodeR (A : Ar) (h : Int) (w : World) (e : Ending) (w' : World) : Prop :=
  Below w.heap.size w w' ∧ ∃ kv av, e = .returned (.tuple #[.agg ((if A.has h then A.get h else zeroNd).cells kv av).toArray, .int .i64 (if A.has h then 0 else 3)]) ∧
    w'.ownsRow w.heap.size 3 1 kv (if A.has h then A.get h else zeroNd).kids.length ((if A.has h then A.get h else zeroNd).kids.map intv) ∧ w'.ownsRow w.heap.size 55 3 av (if A.has h then A.get h else zeroNd).attrs.length ((if A.has h then A.get h else zeroNd).attrs.flatMap attrCells)

/-- The lists of all nodes are short. -/
def Ar.Short (A : Ar) : Prop := A.ns.length ≤ 1000000 ∧ ∀ n ∈ A.ns, n.kids.length ≤ 1000000 ∧ n.attrs.length ≤ 1000000
theorem Ar.Short.get {A : Ar} (hS : A.Short) {h : Int} (hh : A.has h) : (A.get h).kids.length ≤ 1000000 ∧ (A.get h).attrs.length ≤ 1000000 :=
  hS.2 _ (List.mem_of_getElem? (Ar.get_some hh))

/-- A whole description is written into a box of the call's own. -/
theorem box_written {X : World} {g : Nat} {cur : Array Value} {t : TypeId} (n : Nd) (kv av : Value) (h : X.heap[g]? = some (.cells cur t (0, 0))) (hs : cur.size = 13) :
    (X.setCells g 0 (n.cells kv av)).heap[g]? = some (.cells (n.cells kv av).toArray t (0, 0)) := by
  obtain ⟨cur', l1, l2, l3⟩ := setCells_block g t (n.cells kv av) 0 X _ h
  have hcur : cur' = (n.cells kv av).toArray := by
    apply Array.ext_getElem?
    intro k
    rw [l3 k]
    by_cases hk : k < 13
    · rw [if_pos (by simp [Nd.cells]; omega)]; simp
    · rw [if_neg (by simp [Nd.cells]; omega), Array.getElem?_eq_none (by omega), Array.getElem?_eq_none (by simp [Nd.cells]; omega)]
  rw [← hcur]; exact l1
theorem box_there {X : World} {g : Nat} {cur : Array Value} {t : TypeId} (n : Nd) (kv av : Value) (h : X.heap[g]? = some (.cells cur t (0, 0))) (hs : cur.size = 13) : X.there g 0 (n.cells kv av).toArray.size := fun j hj => by
  rw [Nat.zero_add]
  exact ⟨by rw [cell_of_row X _ _ _ _ _ h]; simp [Nd.cells] at hj; simp; omega, frozen_of_row X _ _ _ _ h⟩

set_option maxRecDepth 100000 in
set_option maxHeartbeats 2000000 in
theorem Node_any (A : Ar) (ρ : Nat → Nat) (b : Nat) (h : Int) (w : World) (hA : AMem w ρ b A) (hS : A.Short) :
    Calls Try.prog 22 #[.pointer (some ⟨b, 0, none⟩), .int .i64 h] w (NodeR A h w) := by
  obtain ⟨a, c, mv, h0, -, -, hlt, hm, hN⟩ := hA.head
  have hB1 : Below w.heap.size w ((w.alloc (.cells #[.int .i64 0, .int .i64 0, .slice none 0 0, .int .i64 0, .int .i64 0, .string ⟨#[]⟩, .slice none 0 0, .string ⟨#[]⟩, .string ⟨#[]⟩, .string ⟨#[]⟩, .bool false, .int .i64 0, .int .i64 0] 36)).alloc (.cells #[.int .i64 h] 3)) := ((Below.refl _ w).alloc (Nat.le_refl _) _).alloc (by simp) _
  have hz : ((w.alloc (.cells #[.int .i64 0, .int .i64 0, .slice none 0 0, .int .i64 0, .int .i64 0, .string ⟨#[]⟩, .slice none 0 0, .string ⟨#[]⟩, .string ⟨#[]⟩, .string ⟨#[]⟩, .bool false, .int .i64 0, .int .i64 0] 36)).alloc (.cells #[.int .i64 h] 3)).heap[w.heap.size]? = some (.cells #[.int .i64 0, .int .i64 0, .slice none 0 0, .int .i64 0, .int .i64 0, .string ⟨#[]⟩, .slice none 0 0, .string ⟨#[]⟩, .string ⟨#[]⟩, .string ⟨#[]⟩, .bool false, .int .i64 0, .int .i64 0] 36 (0, 0)) := heap_alloc2_old w _ _
  have hs1 : ((w.alloc (.cells #[.int .i64 0, .int .i64 0, .slice none 0 0, .int .i64 0, .int .i64 0, .string ⟨#[]⟩, .slice none 0 0, .string ⟨#[]⟩, .string ⟨#[]⟩, .string ⟨#[]⟩, .bool false, .int .i64 0, .int .i64 0] 36)).alloc (.cells #[.int .i64 h] 3)).heap.size = w.heap.size + 2 := by simp
  have hv : RInts ((w.alloc (.cells #[.int .i64 0, .int .i64 0, .slice none 0 0, .int .i64 0, .int .i64 0, .string ⟨#[]⟩, .slice none 0 0, .string ⟨#[]⟩, .string ⟨#[]⟩, .string ⟨#[]⟩, .bool false, .int .i64 0, .int .i64 0] 36)).alloc (.cells #[.int .i64 h] 3)) (.slice (some ⟨w.heap.size + 1, 0, none⟩) 1 1) [h] := RInts_new1' _ _ (by simp)
  generalize hW1 : (w.alloc (.cells #[.int .i64 0, .int .i64 0, .slice none 0 0, .int .i64 0, .int .i64 0, .string ⟨#[]⟩, .slice none 0 0, .string ⟨#[]⟩, .string ⟨#[]⟩, .string ⟨#[]⟩, .bool false, .int .i64 0, .int .i64 0] 36)).alloc (.cells #[.int .i64 h] 3) = W1 at *
  have HW1 := Lib.hid hW1
  clear hW1
  have h0' := Below.old hB1 h0
  by_cases hh : A.has h
  · have hck : checkL A [h] = 0 := by simp [checkL, hh]
    have hp := hh.1; have hq := hh.2; unfold Ar.n at hq
    obtain ⟨nb, rfl, hr, hnb, hfn, hNx⟩ := hN (by omega)
    obtain ⟨kv, av, F, hK, hAt⟩ := hNx h hh
    have HD := Lib.hid (describe_any nb _ (A.get h) kv av W1 (F.below hB1) (RInts.below hK.reads hB1) (RAttrs.below hAt.reads hB1) (hS.get hh).1 (hS.get hh).2)
    unfold NodeR
    rw [if_pos hh, if_pos hh]
    have HP := Lib.hid (And.intro hp hq)
    clear F hNx hN hfn hh hK hAt hp hq
    go_enter Try.func22, Try.ntmps22
    go_wp2_with fail
    refine (check_any A b _ c _ [h] _ (by rw [show (w.alloc _).alloc _ = W1 from HW1.out]; exact h0') (by rw [show (w.alloc _).alloc _ = W1 from HW1.out]; exact hv)).mono ?_
    rintro e w' ⟨rfl, rfl⟩
    rw [hck, show (w.alloc _).alloc _ = W1 from HW1.out]
    go_wp2_with fail
    refine (at_any b nb _ c h _ h0' HP.out.1 HP.out.2 hm).mono ?_
    rintro e w' ⟨rfl, rfl⟩
    go_wp2_with fail
    refine HD.out.mono ?_
    rintro e w2 ⟨hB2, kv', av', rfl, ho1, ho2⟩
    have hz2 := (hB2.block w.heap.size (by omega)).trans hz
    obtain ⟨ka, kc, rfl⟩ := ownsForm ho1
    obtain ⟨aa, ac, rfl⟩ := ownsForm ho2
    have hone := cellsOneCell (A.get h) (.slice ka (A.get h).kids.length kc) (.slice aa (A.get h).attrs.length ac) rfl rfl
    have HT := Lib.hid (And.intro hone (box_there (A.get h) (.slice ka (A.get h).kids.length kc) (.slice aa (A.get h).attrs.length ac) hz2 rfl))
    have HB := Lib.hid (box_written (A.get h) (.slice ka (A.get h).kids.length kc) (.slice aa (A.get h).attrs.length ac) hz2 rfl)
    have hU := (Upd.refl (fun k => k = w.heap.size) w2).setCells (b := w.heap.size) (.inr rfl) 0 ((A.get h).cells (.slice ka (A.get h).kids.length kc) (.slice aa (A.get h).attrs.length ac))
    have ho1' := owns_base (base' := w.heap.size) (owns_upd ho1 hU (fun k hk e => by have := (owns_block ho1 k hk).1; omega)) (by omega)
    have ho2' := owns_base (base' := w.heap.size) (owns_upd ho2 hU (fun k hk e => by have := (owns_block ho2 k hk).1; omega)) (by omega)
    have hBB : Below w.heap.size w (w2.setCells w.heap.size 0 ((A.get h).cells (.slice ka (A.get h).kids.length kc) (.slice aa (A.get h).attrs.length ac))) :=
      (hB1.trans (hB2.mono (by omega))).trans (hU.toBelow' (fun k hk e => by omega) (by have := hB2.size; omega))
    have HE := Lib.hid (And.intro hBB (And.intro ho1' ho2'))
    clear hone hz2 hU ho1' ho2' hBB ho1 ho2 hB2
    go_wp2_with (refine wpList_store_mid rfl 36 (.tmp 4) (.tmp 18) rfl w.heap.size 0 ((A.get h).cells (.slice ka (A.get h).kids.length kc) (.slice aa (A.get h).attrs.length ac)).toArray rfl rfl HT.out.2 (sizeNode _ _ _) (all_oneCell_toArray HT.out.1) ?_)
    refine bodyPost_ret (results_cell_tmp rfl _ _ w.heap.size _ rfl (run_loadVar_row _ _ 36 _ _ (0, 0) _ HB.out Try.underlying36 rfl (sizeNode _ _ _))) rfl ?_
    exact ⟨HE.out.1, _, _, rfl, HE.out.2.1, HE.out.2.2⟩
  · have hck : checkL A [h] = 3 := by simp [checkL, hh]
    unfold NodeR
    rw [if_neg hh, if_neg hh]
    have hone := cellsOneCell zeroNd (.slice none 0 0) (.slice none 0 0) rfl rfl
    have HT := Lib.hid (And.intro hone (box_there zeroNd (.slice none 0 0) (.slice none 0 0) hz rfl))
    have HB := Lib.hid (box_written zeroNd (.slice none 0 0) (.slice none 0 0) hz rfl)
    have hU := (Upd.refl (fun k => k = w.heap.size) W1).setCells (b := w.heap.size) (.inr rfl) 0 (zeroNd.cells (.slice none 0 0) (.slice none 0 0))
    have hBB : Below w.heap.size w (W1.setCells w.heap.size 0 (zeroNd.cells (.slice none 0 0) (.slice none 0 0))) :=
      hB1.trans (hU.toBelow' (fun k hk e => by omega) (by omega))
    have HE := Lib.hid hBB
    clear hone hz hU hBB hh hN
    go_enter Try.func22, Try.ntmps22
    go_wp2_with fail
    refine (check_any A b _ c _ [h] _ (by rw [show (w.alloc _).alloc _ = W1 from HW1.out]; exact h0') (by rw [show (w.alloc _).alloc _ = W1 from HW1.out]; exact hv)).mono ?_
    rintro e w' ⟨rfl, rfl⟩
    rw [hck, show (w.alloc _).alloc _ = W1 from HW1.out]
    go_wp2_with (refine wpList_store_mid rfl 36 (.tmp 4) (.tmp 13) rfl w.heap.size 0 (zeroNd.cells (.slice none 0 0) (.slice none 0 0)).toArray rfl rfl HT.out.2 (sizeNode _ _ _) (all_oneCell_toArray HT.out.1) ?_)
    refine bodyPost_ret (results_cell_tmp rfl _ _ w.heap.size _ rfl (run_loadVar_row _ _ 36 _ _ (0, 0) _ HB.out Try.underlying36 rfl (sizeNode _ _ _))) rfl ?_
    exact ⟨HE.out, _, _, rfl, World.ownsRow_nil _ _ _ _, World.ownsRow_nil _ _ _ _⟩

end Go.Proofs.Ytnfdcfagdidmhaa
