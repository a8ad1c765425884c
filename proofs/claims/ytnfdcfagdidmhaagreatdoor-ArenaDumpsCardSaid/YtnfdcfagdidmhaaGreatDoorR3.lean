/-
  Contracts of the document's arena: add.
-/
import Derived.Test.YtnfdcfagdidmhaaGreatDoorR2
namespace Go.Proofs.YtnfdcfagdidmhaaGreatDoor
open Go.RowKit
set_option linter.unusedVariables false

/-- What a call on the document's arena leaves. -/
def RAddR (A' : Ar) (ρ : Nat → Nat) (b : Nat) (w : World) (v : Value) (e : Ending) (w' : World) : Prop := e = .returned v ∧ ∃ ρ', RMem w' ρ' b A' ∧ Turn ρ ρ' w w'

set_option maxRecDepth 100000 in
set_option maxHeartbeats 2000000 in
theorem radd_any (A : Ar) (ρ : Nat → Nat) (b : Nat) (n : Nd) (aa : Option Addr) (ac : Nat) (w : World) (hA : RMem w ρ b A) (hsmall : A.ns.length ≤ 1000000) (hkids : n.kids = []) (hav : ROwn w ρ (2 * (A.ns.length + 1) + 5) 123 3 (.slice aa n.attrs.length ac) n.attrs.length (n.attrs.flatMap attrCells)) :
    Calls Tryz.prog 102 #[.pointer (some ⟨b, 0, none⟩), .agg (n.cells (.slice none 0 0) (.slice aa n.attrs.length ac)).toArray] w (RAddR (A.add n) ρ b w (.int .i64 (A.n + 1))) := by
  obtain ⟨i0, hi, hz0, hz1, hz2⟩ := info_parts infoANode
  obtain ⟨j0, hj, hy0, hy1, hy2⟩ := info_parts infoInt
  obtain ⟨hil, nv, iv, hP⟩ := hA.part
  obtain ⟨h1, h2, h4, ⟨rows, ⟨hown, hrole⟩, hN2, hN3⟩, h6⟩ := id hP
  have hlt := lt_of_block h4
  have hne : some b ≠ nv.ownBlock := fun h => by have := hrole b h.symm; omega
  have c0 : w.cell? ⟨b, 0, none⟩ = some nv := by rw [cell_of_row w b _ _ _ _ h4]; rfl
  have f0 : w.frozen? ⟨b, 0, none⟩ = false := frozen_of_row w b _ _ _ h4
  have hone := cellsOneCell n (.slice none 0 0) (.slice aa n.attrs.length ac) rfl rfl
  have hfrom : ∀ (W : World), W.heap[w.heap.size + 1]? = some (.cells (n.cells (.slice none 0 0) (.slice aa n.attrs.length ac)).toArray 56 (0, 0)) → ∀ (j : Nat) (u : Value), (n.cells (.slice none 0 0) (.slice aa n.attrs.length ac))[j]? = some u → W.cell? ((⟨w.heap.size + 1, 0, none⟩ : Addr).add j) = some u := by
    intro W hW j u hu
    rw [Addr.add_mid, Nat.zero_add, cell_of_row W _ _ _ _ _ hW]
    simpa using hu
  have hend : ∀ (w1 : World) (gg cap : Nat), w1.ownsRow 0 56 13 (.slice (some ⟨gg, 0, none⟩) (A.ns.length + 1 + 1) cap) (A.ns.length + 1 + 1) (rows.flatten ++ n.cells (.slice none 0 0) (.slice aa n.attrs.length ac)) →
      (((w.alloc (.cells (n.cells (.slice none 0 0) (.slice aa n.attrs.length ac)).toArray 56)).alloc (.cells (n.cells (.slice none 0 0) (.slice aa n.attrs.length ac)).toArray 56)).drew).grownBy w1 nv.ownBlock → (nv.ownBlock = some gg ∨ gg = w.heap.size + 2) →
      ∃ ρ', RPart (w1.setCell ⟨b, 0, none⟩ (.slice (some ⟨gg, 0, none⟩) (A.ns.length + 1 + 1) cap)) ρ' b (.slice (some ⟨gg, 0, none⟩) (A.ns.length + 1 + 1) cap) iv ((zeroNd :: A.ns) ++ [n]) A.inert ∧ Turn ρ ρ' w (w1.setCell ⟨b, 0, none⟩ (.slice (some ⟨gg, 0, none⟩) (A.ns.length + 1 + 1) cap)) := by
    intro w1 gg cap ho hg hat
    refine hP.addN hN2 hN3 hkids (by simpa using hav) hrole ?_ (by simpa using ho) ?_
    · exact ((((Upd.refl _ w).alloc _).alloc _).drew).trans (Upd.grown hg (fun k hk => hk))
    · rcases hat with hat | hat
      · exact .inl (by rw [hat]; rfl)
      · exact .inr ⟨gg, rfl, by omega⟩
  have HFROM := Lib.hid hfrom
  have HONE := Lib.hid hone
  have HOWN := Lib.hid hown
  have HI := Lib.hid hi
  have HJ := Lib.hid hj
  have HEND := Lib.hid hend
  have HIL := Lib.hid hil
  clear hend hfrom hone hN2 hN3 hrole h6 h1 h2 hown hi hj hkids hav hP hil hA
  unfold Nd.cells
  go_enter Tryz.func102, Tryz.ntmps102
  go_wp2_with fail
  go_region_law (first
    | (refine step_append_lies _ (by rfl) _ _ 33 (by rfl) 0 56 i0 _ 13 168 Tryz.underlying33 HI.out hz0 hz1 hz2 rfl (by omega) nv (A.ns.length + 1) rows.flatten (by rfl) ?_ ⟨w.heap.size + 1, 0, none⟩ 1 1 (n.cells (.slice none 0 0) (.slice aa n.attrs.length ac)) (by rfl) (by rfl) (HFROM.out _ (heap_alloc2_new w _ _)) HONE.out (by omega) (by unfold maxLen; omega) (by omega) (by omega) (w.heap.size + 2) (by simp) ?_
       · exact ((HOWN.out.alloc _).alloc _).drew
       intro gg cap w1 hown1 hgrow hat hlt1
       have gb : w1.heap[b]? = some (.cells #[nv, iv] 81 (0, 0)) := (hgrow.block b (by simp; omega) hne).trans ((Below.heap_alloc _ _ b (by simp; omega)).trans ((Below.heap_alloc _ _ b hlt).trans h4))
       have g0 : w1.cell? ⟨b, 0, none⟩ = some nv := by rw [cell_of_row w1 b _ _ _ _ gb]; rfl
       have gf : w1.frozen? ⟨b, 0, none⟩ = false := frozen_of_row w1 b _ _ _ gb))
  all_goals
    obtain ⟨ρ1, hP1, hT1⟩ := HEND.out w1 gg cap hown1 hgrow hat
    generalize hw2 : World.setCell w1 _ _ = w2 at hP1 hT1 ⊢
    clear hw2 hown1 hgrow hat gb g0 gf c0 f0 h4
    obtain ⟨p1, p2, p4, -, p6⟩ := id hP1
    have HP1 := Lib.hid hP1
    have hbl := lt_of_block p4
    have hbne : some b ≠ iv.ownBlock := fun h => by have := p6.2 b h.symm; omega
    have d0 : w2.cell? ⟨b, 0, none⟩ = some (.slice (some ⟨gg, 0, none⟩) (A.ns.length + 1 + 1) cap) := by rw [cell_of_row w2 b _ _ _ _ p4]; rfl
    have d1 : w2.cell? ⟨b, 1, none⟩ = some iv := by rw [cell_of_row w2 b _ _ _ _ p4]; rfl
    have HOW := Lib.hid p6.1
    have H4 := Lib.hid p4
    have hil : A.inert.length ≤ 1000001 := by have := HIL.out; omega
    clear p1 p2 p4 p6 hP1
    go_wp2_with (at_builtin; refine wpList_append_own_at _ rfl _ _ 35 rfl 0 3 j0 _ 1 8 Tryz.underlying35 HJ.out hy0 hy1 hy2 rfl (by decide) _ _ _ rfl (HOW.out.alloc _) ⟨w2.heap.size, 0, none⟩ 1 1 [intv 0] rfl rfl ?_ ?_ ?_ ?_ ?_ ?_)
    · intro j u hj; rw [Addr.add_mid, Nat.zero_add]; exact cell_new' rfl (by simpa [intv] using hj)
    · intro u hu; simp at hu; subst hu; rfl
    · unfold maxLen; omega
    · omega
    · simp
    intro v3 w3 hown3 hgrow3 _ hat3
    obtain ⟨va3, vc3, rfl⟩ := ownsForm hown3
    have gb3 : w3.heap[b]? = some (.cells #[.slice (some ⟨gg, 0, none⟩) (A.ns.length + 1 + 1) cap, iv] 81 (0, 0)) := (hgrow3.block b (by simp; omega) hbne).trans ((Below.heap_alloc _ _ b hbl).trans H4.out)
    have g30 : w3.cell? ⟨b, 0, none⟩ = some (.slice (some ⟨gg, 0, none⟩) (A.ns.length + 1 + 1) cap) := by rw [cell_of_row w3 b _ _ _ _ gb3]; rfl
    have g31 : w3.cell? ⟨b, 1, none⟩ = some iv := by rw [cell_of_row w3 b _ _ _ _ gb3]; rfl
    have g3f : w3.frozen? ⟨b, 1, none⟩ = false := frozen_of_row w3 b _ _ _ gb3
    obtain ⟨ρ2, hP2, hT2⟩ := HP1.out.addI (w1 := w3) (v' := .slice va3 (A.inert.length + 1) vc3) (x := 0) (((Upd.refl _ w2).alloc _).trans (Upd.grown hgrow3 (fun k hk => hk))) hown3 (hat3.imp id (fun h => ⟨_, h, by simp⟩))
    have HF := Lib.hid (And.intro (hP2.mem (A := A.add n) (by simp [Ar.add, HIL.out])) (hT1.trans hT2))
    clear hP2 hT2 hown3 hgrow3 hat3 gb3 H4 HOW HP1 hT1 d0 d1
    go_wp2
    go_ret
    exact ⟨ret_int (by unfold Ar.n; omega), ρ2, HF.out.1, HF.out.2⟩

end Go.Proofs.YtnfdcfagdidmhaaGreatDoor
