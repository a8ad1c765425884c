/-
  Contracts of the program's arena: add.
-/
import Derived.Test.YtnfdcfagdidmhaaP4
import Derived.Test.YtnfdcfagdidmhaaArE
import Derived.Deep.RegionLaw
import Derived.Deep.AppendLies
namespace Go.Proofs.Ytnfdcfagdidmhaa
open Go.RowKit

theorem infoNode : (Try.prog.info? 103).map (fun i => (i.zero, i.size, i.bytes)) = some (some (.agg #[.int .i64 0, .int .i64 0, .slice none 0 0, .int .i64 0, .int .i64 0, .string ByteArray.empty, .slice none 0 0, .string ByteArray.empty, .string ByteArray.empty, .string ByteArray.empty, .bool false, .int .i64 0, .int .i64 0]), 13, 168) := by kernel_rfl

theorem cellsOneCell (n : Nd) (kv av : Value) (hk : kv.oneCell' = true) (ha : av.oneCell' = true) : ∀ u ∈ n.cells kv av, u.oneCell' = true := by
  intro u hu
  simp only [Nd.cells, List.mem_cons, List.not_mem_nil, or_false] at hu
  rcases hu with rfl | rfl | rfl | rfl | rfl | rfl | rfl | rfl | rfl | rfl | rfl | rfl | rfl <;> first | rfl | assumption

/-- What a call leaves that adds a node. -/
def AddR (A' : Ar) (ρ : Nat → Nat) (b : Nat) (w : World) (v : Value) (e : Ending) (w' : World) : Prop := e = .returned v ∧ ∃ ρ', AMem w' ρ' b A' ∧ Turn ρ ρ' w w'

set_option maxRecDepth 100000 in
set_option maxHeartbeats 2000000 in
theorem add_any (A : Ar) (ρ : Nat → Nat) (b : Nat) (n : Nd) (aa : Option Addr) (ac : Nat) (w : World) (hA : AMem w ρ b A) (hsmall : A.ns.length ≤ 1000000) (hkids : n.kids = []) (hav : ROwn w ρ (2 * A.ns.length + 5) 55 3 (.slice aa n.attrs.length ac) n.attrs.length (n.attrs.flatMap attrCells)) :
    Calls Try.prog 72 #[.pointer (some ⟨b, 0, none⟩), .agg (n.cells (.slice none 0 0) (.slice aa n.attrs.length ac)).toArray] w (AddR (A.add n) ρ b w (.int .i64 (A.n + 1))) := by
  obtain ⟨i0, hi, hz0, hz1, hz2⟩ := info_parts infoNode
  obtain ⟨h1, h2, h3, nv, mv, h4, ⟨rows, hN1, hN2, hN3⟩, h6⟩ := hA
  obtain ⟨hown, hrole⟩ := hN1
  have hlt := lt_of_block h4
  have hne : some b ≠ nv.ownBlock := fun h => by have := hrole b h.symm; omega
  have c0 : w.cell? ⟨b, 0, none⟩ = some nv := by rw [cell_of_row w b _ _ _ _ h4]; rfl
  have f0 : w.frozen? ⟨b, 0, none⟩ = false := frozen_of_row w b _ _ _ h4
  have hone := cellsOneCell n (.slice none 0 0) (.slice aa n.attrs.length ac) rfl rfl
  have hfrom : ∀ (W : World), W.heap[w.heap.size + 1]? = some (.cells (n.cells (.slice none 0 0) (.slice aa n.attrs.length ac)).toArray 103 (0, 0)) → ∀ (j : Nat) (u : Value), (n.cells (.slice none 0 0) (.slice aa n.attrs.length ac))[j]? = some u → W.cell? ((⟨w.heap.size + 1, 0, none⟩ : Addr).add j) = some u := by
    intro W hW j u hu
    rw [Addr.add_mid, Nat.zero_add, cell_of_row W _ _ _ _ _ hW]
    simpa using hu
  have HFROM := Lib.hid hfrom
  have HONE := Lib.hid hone
  have HOWN := Lib.hid hown
  have HI := Lib.hid hi
  have hend : ∀ (w1 w' : World) (gg cap : Nat), (w.alloc (.cells (n.cells (.slice none 0 0) (.slice aa n.attrs.length ac)).toArray 36)).heap.size = w.heap.size + 1 → w1.ownsRow 0 103 13 (.slice (some ⟨gg, 0, none⟩) (A.ns.length + 1) cap) (A.ns.length + 1) (rows.flatten ++ n.cells (.slice none 0 0) (.slice aa n.attrs.length ac)) →
      (((w.alloc (.cells (n.cells (.slice none 0 0) (.slice aa n.attrs.length ac)).toArray 36)).alloc (.cells (n.cells (.slice none 0 0) (.slice aa n.attrs.length ac)).toArray 103)).drew).grownBy w1 nv.ownBlock → (nv.ownBlock = some gg ∨ gg = w.heap.size + 2) → gg < w1.heap.size → w'.heap = (w1.setCell ⟨b, 0, none⟩ (.slice (some ⟨gg, 0, none⟩) (A.ns.length + 1) cap)).heap → w'.os = w1.os → w'.tape = w1.tape → w'.output = w1.output → ∃ ρ', AMem w' ρ' b (A.add n) ∧ Turn ρ ρ' w w' := by
    intro w1 w' gg cap _ ho hg hat hl q1 q2 q3 q4
    refine AMem.added h1 h2 h3 h4 hrole hN2 hN3 h6 hkids hav ?_ ho (hat.imp id (fun h => by omega)) hl q1 q2 q3 q4
    exact ((((Upd.refl _ w).alloc _).alloc _).drew).trans (Upd.grown hg (fun k hk => hk))
  have HEND := Lib.hid hend
  clear hend hfrom hone hN2 hN3 hrole h6 h1 h2 h3 hown hi hkids hav
  unfold Nd.cells
  go_enter Try.func72, Try.ntmps72
  go_wp2_with fail
  go_region_law (first
    | (refine step_append_lies _ (by rfl) _ _ 89 (by rfl) 0 103 i0 _ 13 168 Try.underlying89 HI.out hz0 hz1 hz2 rfl (by omega) nv A.ns.length rows.flatten (by rfl) ?_ ⟨w.heap.size + 1, 0, none⟩ 1 1 (n.cells (.slice none 0 0) (.slice aa n.attrs.length ac)) (by rfl) (by rfl) (HFROM.out _ (heap_alloc2_new w _ _)) HONE.out (by omega) (by unfold maxLen; omega) (by omega) (by omega) (w.heap.size + 2) (by simp) ?_
       · exact ((HOWN.out.alloc _).alloc _).drew
       intro gg cap w1 hown1 hgrow hat hlt1
       have gb : w1.heap[b]? = some (.cells #[nv, mv] 92 (0, 0)) := (hgrow.block b (by simp; omega) hne).trans ((Below.heap_alloc _ _ b (by simp; omega)).trans ((Below.heap_alloc _ _ b hlt).trans h4))
       have g0 : w1.cell? ⟨b, 0, none⟩ = some nv := by rw [cell_of_row w1 b _ _ _ _ gb]; rfl
       have gf : w1.frozen? ⟨b, 0, none⟩ = false := frozen_of_row w1 b _ _ _ gb))
  all_goals
    have hs0 := hgrow.size
    simp at hs0
    go_wp2
    go_ret
    refine ⟨ret_int (by simp [Ar.n]), HEND.out w1 _ gg cap (by simp) hown1 hgrow hat hlt1 rfl rfl rfl rfl⟩

end Go.Proofs.Ytnfdcfagdidmhaa
