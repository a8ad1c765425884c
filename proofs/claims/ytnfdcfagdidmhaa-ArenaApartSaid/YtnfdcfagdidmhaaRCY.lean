/-
  The document's Copy and Equal.
-/
import Derived.Test.YtnfdcfagdidmhaaCY
import Derived.Test.YtnfdcfagdidmhaaPL3
import Derived.Deep.RegionHeld3
namespace Go.Proofs.Ytnfdcfagdidmhaa
open Go.RowKit Classical
set_option linter.unusedVariables false

/-- The copy at k nodes. -/
def RCopyI (A : Ar) (w : World) (bo : Nat) (mv : Value) (k : Nat) (nv : Value) (σ : Nat → Nat) (wr : World) : Prop :=
  Below w.heap.size w wr ∧ (∀ j, σ j ≠ 0 → j < wr.heap.size) ∧ (∀ j, σ j ≠ 0 → w.heap.size ≤ j) ∧ σ bo = 1 ∧ wr.heap[bo]? = some (.cells #[nv, mv] 65 (0, 0)) ∧
    NodesM wr σ 36 55 nv ((zeroNd :: A.ns).take k) ∧ ROwn wr σ 3 3 1 mv (A.ns.length + 1) (A.inert.map intv)

theorem RCopyI.step {A : Ar} {w wr W w2 w3 : World} {bo k gg cap : Nat} {mv nv kv av : Value} {σ : Nat → Nat} {rows : List (List Value)} {n : Nd} (hI : RCopyI A w bo mv k nv σ wr) (hn : (zeroNd :: A.ns)[k]? = some n)
    (hrl : rows.length = ((zeroNd :: A.ns).take k).length) (hrows : ∀ i n, ((zeroNd :: A.ns).take k)[i]? = some n → ∃ r, rows[i]? = some r ∧ NodeM wr σ 55 i n r)
    (hrole : ∀ g, nv.ownBlock = some g → σ g = 2) (hW : Below wr.heap.size wr W) (hB : Below W.heap.size W w2)
    (hk : w2.ownsRow W.heap.size 3 1 kv n.kids.length (n.kids.map intv)) (ha : w2.ownsRow W.heap.size 55 3 av n.attrs.length (n.attrs.flatMap attrCells)) (o : Obj)
    (hg : (w2.alloc o).grownBy w3 nv.ownBlock) (hown : w3.ownsRow 0 36 13 (.slice (some ⟨gg, 0, none⟩) (k + 1) cap) (k + 1) (rows.flatten ++ n.cells kv av))
    (hat : nv.ownBlock = some gg ∨ gg = w2.heap.size + 1) :
    ∃ σ', RCopyI A w bo mv (k + 1) (.slice (some ⟨gg, 0, none⟩) (k + 1) cap) σ' (w3.setCell ⟨bo, 0, none⟩ (.slice (some ⟨gg, 0, none⟩) (k + 1) cap)) := by
  obtain ⟨c1, c2, c3, c4, c5, c6, c7⟩ := hI
  have hklt : k < (zeroNd :: A.ns).length := (List.getElem?_eq_some_iff.1 hn).1
  have hkl : ((zeroNd :: A.ns).take k).length = k := by rw [List.length_take]; omega
  have hst : (zeroNd :: A.ns).take (k + 1) = (zeroNd :: A.ns).take k ++ [n] := by
    rw [List.take_succ_eq_append_getElem hklt, (List.getElem?_eq_some_iff.1 hn).2]
  have hWs := hW.size
  have h2s := hB.size
  have hB2 : Below wr.heap.size wr w2 := hW.trans (hB.mono hWs)
  have hB2a : Below wr.heap.size wr (w2.alloc o) := hB2.alloc hB2.size _
  obtain ⟨σ1, e1, e2, e3, e4, e5⟩ := roles_two (e := 0) (ρ := σ) (base := W.heap.size) (i := k) (fun j hj => Nat.lt_of_lt_of_le (c2 j hj) hWs) h2s hk ha
  have hbl := lt_of_block c5
  have hbox : (w2.alloc o).heap[bo]? = some (.cells #[nv, mv] 65 (0, 0)) := (hB2a.block bo hbl).trans c5
  have hupd : Upd (fun _ => False) wr (w2.alloc o) := Upd.below hB2a
  obtain ⟨σ2, f1, f2, f3, f4, f5, f6, f7⟩ := box_addK (w := w2.alloc o) (w1 := w3) (ρ := σ1) (b := bo) (T := 65) (e := 36) (nv := nv) (x := mv) (kv := kv) (av := av) (v' := .slice (some ⟨gg, 0, none⟩) (k + 1) cap) (ns := (zeroNd :: A.ns).take k) (n := n) (rows := rows)
    (fun j hj => by have := e3 j hj; simp; omega) (by rw [e1 bo (by omega)]; exact c4) hbox (fun g hg => by have := hrole g hg; rw [e1 g (by omega)]; exact this) hrl
    (fun i m hm => by obtain ⟨r, q1, q2⟩ := hrows i m hm; exact ⟨r, q1, (q2.upd hupd (fun _ _ h => h)).ext e1⟩)
    (by rw [hkl]; exact e4.upd (Upd.below (F := fun _ => False) (below_alloc w2 o)) (fun _ _ h => h)) (by rw [hkl]; exact e5.upd (Upd.below (F := fun _ => False) (below_alloc w2 o)) (fun _ _ h => h))
    (Upd.grown hg (fun j hj => hj)) (by rw [hkl]; exact hown) (by
      rcases hat with h | h
      · exact .inl (by rw [h]; rfl)
      · exact .inr ⟨gg, rfl, by simp [h]⟩)
  have hnvge : ∀ j, nv.ownBlock = some j → w.heap.size ≤ j := fun j hj => c3 j (by rw [hrole j hj]; omega)
  have hall : Upd (fun j => j = bo ∨ nv.ownBlock = some j) w (w3.setCell ⟨bo, 0, none⟩ (.slice (some ⟨gg, 0, none⟩) (k + 1) cap)) :=
    (Upd.below (c1.trans (hB2a.mono c1.size))).trans f7
  have hσ2 : ∀ j, σ2 j ≠ 0 → w.heap.size ≤ j := fun j hj => by
    by_cases h1 : j < (w2.alloc o).heap.size
    · rw [f5 j h1] at hj
      by_cases h2 : j < W.heap.size
      · rw [e2 j h2] at hj; exact c3 j hj
      · have := c1.size; omega
    · have := c1.size; simp at h1; omega
  refine ⟨σ2, hall.toBelow (fun j hj h => ?_), f1, hσ2, f2, f3, by rw [hst]; exact f4, ?_⟩
  · rcases h with rfl | h
    · have := c3 j (by rw [c4]; omega); omega
    · have := hnvge j h; omega
  · have m1 := ((c7.upd hupd (fun _ _ h => h)).ext (by omega) e1).role f5
    refine m1.upd f7 (fun j hj h => ?_)
    rcases h with rfl | h
    · rw [f2] at hj; omega
    · have h3 := hrole j h
      have hjl : j < (w2.alloc o).heap.size := by have := c2 j (by omega); simp; omega
      rw [f5 j hjl, e1 j (by omega), h3] at hj; omega


set_option maxRecDepth 100000 in
set_option maxHeartbeats 4000000 in
theorem RCopy_any (A : Ar) (ρ : Nat → Nat) (b : Nat) (w : World) (hA : RMem w ρ b A) (hS : A.Short) (hsm : A.ns.length ≤ 100000) :
    Calls Try.prog 61 #[.pointer (some ⟨b, 0, none⟩)] w fun e w' => Below w.heap.size w w' ∧ ∃ bo σ, e = .returned (.pointer (some ⟨bo, 0, none⟩)) ∧ RMem w' σ bo A ∧ ∀ j, σ j ≠ 0 → w.heap.size ≤ j := by
  obtain ⟨i0, hi, hz0, hz1, hz2⟩ := info_parts infoANode
  obtain ⟨j0, hj, hy0, hy1, hy2⟩ := info_parts infoInt
  obtain ⟨q1, q2, q3, nv0, mv, q4, q5, q6⟩ := id hA
  obtain ⟨a, c, rfl, hc1, hc2, hN⟩ := q5.head
  have h0 : w.cell? ⟨b, 0, none⟩ = some (.slice a (zeroNd :: A.ns).length c) := by rw [cell_of_row w b _ _ _ _ q4]; rfl
  have h1 : w.cell? ⟨b, 1, none⟩ = some mv := by rw [cell_of_row w b _ _ _ _ q4]; rfl
  obtain ⟨ia, ic, rfl⟩ := ownsForm q6.1
  have HI := Lib.hid (And.intro hi hj)
  have HS := Lib.hid hS
  obtain ⟨nb, rfl, hr, hnb, hfn, hNx⟩ := hN (by simp)
  have HN := Lib.hid hNx
  have HIL := Lib.hid q3
  have HIV := Lib.hid q6.1
  have hlen : (zeroNd :: A.ns).length = A.ns.length + 1 := rfl
  have HLEN := Lib.hid hlen
  have hmx : (zeroNd :: A.ns).length ≤ 1000001 := by omega
  have hsh : ∀ n ∈ (zeroNd :: A.ns), n.kids.length ≤ 1000000 ∧ n.attrs.length ≤ 1000000 := by
    intro n hn
    rcases List.mem_cons.1 hn with rfl | hn
    · exact ⟨by simp [zeroNd], by simp [zeroNd]⟩
    · exact hS.2 n hn
  have HSH := Lib.hid hsh
  clear hi hj hS hN hNx q1 q2 q3 q4 q5 q6 hA hfn hr hsh hlen
  go_enter Try.func61, Try.ntmps61
  go_wp2_with (at_builtin; refine wpList_append_copy _ rfl _ _ 32 rfl w.heap.size 3 j0 _ 1 8 Try.underlying32 HI.out.2 hy0 hy1 hy2 rfl (by decide) _ _ _ rfl rfl HIV.out (oneInts _) (by omega) (by omega) (Nat.le_refl _) ?_)
  intro v1 w1 ho1 hg1
  obtain ⟨va, vc, rfl⟩ := ownsForm ho1
  have hB1 : Below w.heap.size w w1 := (Below.refl _ w).grown hg1 (Nat.le_refl _) (fun k hk => by simp at hk)
  have hw1 : w.heap.size ≤ w1.heap.size := hB1.size
  have hnew : ∀ g, (Value.slice va (A.ns.length + 1) vc).ownBlock = some g → g < w1.heap.size ∧ w.heap.size ≤ g := fun g hg => ⟨(owns_block ho1 g hg).2, (owns_block ho1 g hg).1⟩
  have hst0 : RCopyI A w w1.heap.size (.slice va (A.ns.length + 1) vc) 0 (.slice none 0 0) (fun j => if j = w1.heap.size then 1 else if (Value.slice va (A.ns.length + 1) vc).ownBlock = some j then 3 else 0) (w1.alloc (.cells #[.slice none 0 0, .slice va (A.ns.length + 1) vc] 65)) := by
    refine ⟨hB1.trans ((below_alloc _ _).mono hw1), fun j hj => ?_, fun j hj => ?_, by simp, (MapKept.heap_alloc w1 _).1, ⟨[], ⟨World.ownsRow_nil _ _ _ _, fun g hg => by simp [Value.ownBlock] at hg⟩, rfl, fun i n hn => by simp at hn⟩, ?_⟩
    · dsimp only at hj
      split at hj
      · rename_i e; simp [e]
      · split at hj
        · rename_i e; have := hnew j e; simp; omega
        · exact absurd rfl hj
    · dsimp only at hj
      split at hj
      · rename_i e; omega
      · split at hj
        · rename_i e; exact (hnew j e).2
        · exact absurd rfl hj
    · refine ⟨(owns_base ho1 (Nat.zero_le _)).alloc _, fun g hg => ?_⟩
      have := hnew g hg
      dsimp only
      rw [if_neg (by omega), if_pos hg]
  have HST := Lib.hid hst0
  have g0 : (w1.alloc (.cells #[.slice none 0 0, .slice va (A.ns.length + 1) vc] 65)).cell? ⟨b, 0, none⟩ = some (.slice (some ⟨nb, 0, none⟩) (zeroNd :: A.ns).length c) := Below.old (below_alloc _ _) (Below.old hB1 h0)
  clear hst0 hnew ho1 hg1 hB1
  generalize hbo : w1.heap.size = bo at *
  generalize hM : zeroNd :: A.ns = M at *
  go_wp2
  go_loopw [4] (fun i wr => ∃ k : Nat, k ≤ M.length ∧ i = .int .i64 k ∧ Hid (∃ nv σ, RCopyI A w bo (.slice va (A.ns.length + 1) vc) k nv σ wr)) (fun i _ => M.length - (intOf i).toNat)
  case atStart => exact ⟨0, Nat.zero_le _, rfl, _, _, HST.out⟩
  case round =>
    obtain ⟨k, hk, rfl, hT⟩ := hrel
    have dd0 : wr.cell? ⟨b, 0, none⟩ = some (.slice (some ⟨nb, 0, none⟩) M.length c) := by
      obtain ⟨nv, σ, hCI⟩ := hT.out
      exact Below.old hCI.1 h0
    by_cases hlt : k < M.length
    · obtain ⟨n, hgn⟩ : ∃ n, M[k]? = some n := ⟨_, List.getElem?_eq_getElem hlt⟩
      obtain ⟨kv, av, F, hK, hAt⟩ := HN.out k n hgn
      have hsh := HSH.out n (List.mem_of_getElem? hgn)
      obtain ⟨nv, σ, hCI⟩ := hT.out
      obtain ⟨c1, c2, c3, c4, c5, c6, c7⟩ := id hCI
      subst hM
      have hkl : ((zeroNd :: A.ns).take k).length = k := by rw [List.length_take]; omega
      obtain ⟨rows, ⟨r1, r4⟩, r2, r3⟩ := c6
      rw [hkl] at r1
      obtain ⟨na, nc, rfl⟩ := ownsForm r1
      have HD := Lib.hid (fun W (hW : Below wr.heap.size wr W) => ROwn_any n kv av W (owns_below (owns_below hK.1 c1) hW) (owns_below (owns_below hAt.1 c1) hW) hsh.1 hsh.2)
      have HSTEP := Lib.hid (fun W w2 w3 kv' av' gg cap o (hW : Below wr.heap.size wr W) (hB : Below W.heap.size W w2) hk' ha' hg' hown' hat' => RCopyI.step (w2 := w2) (w3 := w3) (W := W) (kv := kv') (av := av') (gg := gg) (cap := cap) hCI hgn r2 r3 r4 hW hB hk' ha' o hg' hown' hat')
      obtain ⟨ka, kc, rfl⟩ := ownsForm hK.1
      obtain ⟨aa, ac, rfl⟩ := ownsForm hAt.1
      have F := F.below c1
      have f0 := F.c0; have f1 := F.c1; have f2 := F.c2; have f3 := F.c3; have f4 := F.c4; have f5 := F.c5; have f6 := F.c6; have f7 := F.c7; have f8 := F.c8; have f9 := F.c9; have f10 := F.c10; have f11 := F.c11; have f12 := F.c12
      have hbl := lt_of_block c5
      have e0 : wr.cell? ⟨bo, 0, none⟩ = some (.slice na k nc) := by rw [cell_of_row wr bo _ _ _ _ c5]; rfl
      have ef : wr.frozen? ⟨bo, 0, none⟩ = false := frozen_of_row wr bo _ _ _ c5
      have hne : some bo ≠ (Value.slice na k nc).ownBlock := fun h => by have := r4 bo h.symm; omega
      have HROW := Lib.hid r1
      have HFROM := Lib.hid (fun (W : World) ka aa kc ac => show ∀ (j : Nat) (u : Value), (n.cells (.slice ka n.kids.length kc) (.slice aa n.attrs.length ac))[j]? = some u → (W.alloc (.cells (n.cells (.slice ka n.kids.length kc) (.slice aa n.attrs.length ac)).toArray 36)).cell? ((⟨W.heap.size, 0, none⟩ : Addr).add j) = some u from by
        intro j u hj; rw [Addr.add_mid, Nat.zero_add]; exact cell_new' rfl (by simpa [Nd.cells] using hj))
      have HGB := Lib.hid (fun (w2 w3 : World) (o : Obj) (hB : Below wr.drew.heap.size wr.drew w2) (hg : (w2.alloc o).grownBy w3 (Value.slice na k nc).ownBlock) => show w3.heap[bo]? = some (.cells #[.slice na k nc, .slice va (A.ns.length + 1) vc] 65 (0, 0)) from by
        have hb2 : bo < w2.heap.size := Nat.lt_of_lt_of_le hbl hB.size
        exact (hg.block bo (by simp; omega) hne).trans ((Below.heap_alloc _ _ bo hb2).trans ((hB.block bo hbl).trans c5)))
      clear c1 c2 c3 c4 c5 c7 F hK hAt hgn hsh hCI r1 r2 r3 r4 hT
      unfold Nd.cells at HD
      have hkm : k ≤ 1000001 := by omega
      generalize zeroNd :: A.ns = M at *
      go_wp2
      go_region_law (first
        | (go_simp; go_at_call 110; refine (HD.out _ (Below.drew (Below.refl _ _))).mono ?_
           rintro e w2 ⟨hB2, kv', av', rfl, ho1, ho2⟩
           obtain ⟨ka', kc', rfl⟩ := ownsForm ho1
           obtain ⟨aa', ac', rfl⟩ := ownsForm ho2
           have HB2 := Lib.hid hB2
           have HO := Lib.hid (And.intro ho1 ho2)
           have g2 : w2.cell? ⟨b, 0, none⟩ = some (.slice (some ⟨nb, 0, none⟩) M.length c) := Below.old hB2 (Below.old (Below.drew (Below.refl _ _)) dd0)
           have x2 : w2.cell? ⟨bo, 0, none⟩ = some (.slice na k nc) := Below.old hB2 (Below.old (Below.drew (Below.refl _ _)) e0)
           have hbo2 : bo < w2.heap.size := World.block_lt_of_cell? w2 _ x2
           clear hB2 ho1 ho2
           unfold Nd.cells)
        | (refine step_append_lies _ (by rfl) _ _ 46 (by rfl) 0 36 i0 _ 13 168 Try.underlying46 HI.out.1 hz0 hz1 hz2 rfl (by omega) (.slice na k nc) k rows.flatten (by rfl) ?_ ⟨w2.heap.size, 0, none⟩ 1 1 (n.cells (.slice ka' n.kids.length kc') (.slice aa' n.attrs.length ac')) (by rfl) (by rfl) (HFROM.out w2 ka' aa' kc' ac') (cellsOneCell n (.slice ka' n.kids.length kc') (.slice aa' n.attrs.length ac') rfl rfl) (by omega) (by unfold maxLen; omega) (by omega) (by omega) (w2.heap.size + 1) (by simp) ?_
           · exact (owns_base (owns_below (owns_below HROW.out (Below.drew (Below.refl _ _))) HB2.out) (Nat.zero_le _)).alloc _
           intro gg cap w3 hown3 hgrow hat hlt3
           have gb : w3.heap[bo]? = some (.cells #[.slice na k nc, .slice va (A.ns.length + 1) vc] 65 (0, 0)) := HGB.out w2 w3 _ HB2.out hgrow
           have x3 : w3.cell? ⟨bo, 0, none⟩ = some (.slice na k nc) := by rw [cell_of_row w3 bo _ _ _ _ gb]; rfl
           have xf : w3.frozen? ⟨bo, 0, none⟩ = false := frozen_of_row w3 bo _ _ _ gb))
      all_goals
        have hstep := HSTEP.out wr.drew w2 w3 _ _ gg cap _ (Below.drew (Below.refl _ _)) HB2.out HO.out.1 HO.out.2 hgrow hown3 hat
        have HF := Lib.hid hstep
        have hs3 := hgrow.size
        clear hstep HO hown3 hgrow hat gb x3 xf g2 x2 e0 ef dd0 f0 f1 f2 f3 f4 f5 f6 f7 f8 f9 f10 f11 f12
        go_wp2
        go_roundw
        case rel => exact ⟨k + 1, hlt, by go_num, _, HF.out⟩
        case measure => simp [intOf]; omega
    · obtain ⟨nv, σ, c1, c2, c3, c4, c5, c6, c7⟩ := hT.out
      subst hM
      have hkl : (zeroNd :: A.ns).take k = zeroNd :: A.ns := List.take_of_length_le (by omega)
      rw [hkl] at c6
      have HF := Lib.hid (And.intro c1 (show ∃ σ, RMem wr σ bo A ∧ ∀ j, σ j ≠ 0 → w.heap.size ≤ j from ⟨σ, ⟨c2, c4, HIL.out, nv, _, c5, c6, c7⟩, c3⟩))
      clear c1 c2 c3 c4 c5 c6 c7 hT hkl
      generalize zeroNd :: A.ns = M at *
      go_wp2
      go_ret
      obtain ⟨σ', h1, h2⟩ := HF.out.2
      exact ⟨HF.out.1, bo, σ', rfl, h1, h2⟩

set_option maxRecDepth 100000 in
set_option maxHeartbeats 4000000 in
theorem REqual_any (A B : Ar) (ρ σ : Nat → Nat) (b c : Nat) (w : World) (hA : RMem w ρ b A) (hB : RMem w σ c B) (hS : A.Short) (hS' : B.Short) :
    Calls Try.prog 63 #[.pointer (some ⟨b, 0, none⟩), .pointer (some ⟨c, 0, none⟩)] w fun e w' => e = .returned (.bool (decide (A = B))) ∧ Below w.heap.size w w' := by
  have HNA := Lib.hid (fun W (hW : Below w.heap.size w W) => RNodes_any A ρ b W (hA.below hW) hS)
  have HNB := Lib.hid (fun W (hW : Below w.heap.size w W) => RNodes_any B σ c W (hB.below hW) hS')
  obtain ⟨-, -, -, nv, mv, hh, -, hM1⟩ := id hA
  obtain ⟨-, -, -, nv', mv', hh', -, hM2⟩ := id hB
  have i1 : RInts w mv A.inert := by
    have := hM1.reads
    have hl : A.inert.length = A.ns.length + 1 := hA.2.2.1
    unfold RInts; rw [hl]; exact this
  have i2 : RInts w mv' B.inert := by
    have := hM2.reads
    have hl : B.inert.length = B.ns.length + 1 := hB.2.2.1
    unfold RInts; rw [hl]; exact this
  have h1 : w.cell? ⟨b, 1, none⟩ = some mv := by rw [cell_of_row w b _ _ _ _ hh]; rfl
  have h2 : w.cell? ⟨c, 1, none⟩ = some mv' := by rw [cell_of_row w c _ _ _ _ hh']; rfl
  have HSI := Lib.hid (fun W (hW : Below w.heap.size w W) => SameInts_any mv mv' A.inert B.inert W (i1.below hW) (i2.below hW))
  obtain ⟨a1, q1, rfl, -⟩ := i1.form
  obtain ⟨a2, q2, rfl, -⟩ := i2.form
  have HAB := Lib.hid (show A.ns = B.ns → (A.inert = B.inert ↔ A = B) from fun e => ⟨fun e' => by cases A; cases B; simp_all, fun e' => by rw [e']⟩)
  clear hh hh' hM1 hM2 hA hB i1 i2
  by_cases hn : A.ns = B.ns
  · have HSN := Lib.hid (fun W v1 v2 (k1 : RNodes W v1 A.ns) (k2 : RNodes W v2 B.ns) => (SameNodes_any v1 v2 A.ns B.ns W k1 k2).mono (fun e w' hh => show e = .returned (.bool true) ∧ _ from ⟨by rw [hh.1, decide_eq_true hn], hh.2⟩))
    have HN := Lib.hid hn
    clear hn
    go_enter Try.func63, Try.ntmps63
    go_wp2_with fail
    go_region_held3 (fun w' => w'.cell? ⟨b, 1, none⟩ = some (.slice a1 A.inert.length q1) ∧ w'.cell? ⟨c, 1, none⟩ = some (.slice a2 B.inert.length q2))
      (first | exact ⟨h1, h2⟩ | exact ⟨y1, y2⟩ | exact ⟨z1, z2⟩ | exact ⟨x1, x2⟩ | exact ⟨v1, v2⟩)
      (first
      | (go_at_call 76
         (with_reducible refine (HNA.out _ (Below.drew (Below.refl _ _))).mono ?_)
         rintro e w2 ⟨hB2, a3, c3, rfl, hN2⟩
         have HB2 : Hid (Below w.heap.size w w2) := Lib.hid ((Below.drew (Below.refl w.heap.size w)).trans (hB2.mono (by simp)))
         have HN2 := Lib.hid hN2.reads
         have y1 := Below.old HB2.out h1
         have y2 := Below.old HB2.out h2
         clear hB2 hN2)
      | (go_at_call 76
         (with_reducible refine (HNB.out _ HB2.out).mono ?_)
         rintro e w3 ⟨hB3, a4, c4, rfl, hN3⟩
         have HB3 : Hid (Below w.heap.size w w3) := Lib.hid (HB2.out.trans (hB3.mono HB2.out.size))
         have HN3 := Lib.hid (And.intro (HN2.out.below hB3) hN3.reads)
         have z1 := Below.old HB3.out h1
         have z2 := Below.old HB3.out h2
         clear hB3 hN3)
      | (go_at_call 59
         (with_reducible refine (HSN.out _ _ _ HN3.out.1 HN3.out.2).mono ?_)
         rintro e w4 ⟨rfl, hB4⟩
         have HB4 : Hid (Below w.heap.size w w4) := Lib.hid (HB3.out.trans (hB4.mono HB3.out.size))
         have x1 := Below.old HB4.out h1
         have x2 := Below.old HB4.out h2
         clear hB4)
      | (go_at_call 45
         (with_reducible refine (HSI.out _ HB4.out).mono ?_)
         rintro e w5 ⟨rfl, hB5⟩
         have HB5 : Hid (Below w.heap.size w w5) := Lib.hid (HB4.out.trans (hB5.mono HB4.out.size))
         have v1 := Below.old HB5.out h1
         have v2 := Below.old HB5.out h2
         clear hB5))
    all_goals
      have hd : decide (A.inert = B.inert) = decide (A = B) := by rw [decide_eq_decide]; exact HAB.out HN.out
      rw [hd]
      clear hd
      go_wp2
      go_ret
      exact ⟨rfl, HB5.out⟩
  · have HSN := Lib.hid (fun W v1 v2 (k1 : RNodes W v1 A.ns) (k2 : RNodes W v2 B.ns) => (SameNodes_any v1 v2 A.ns B.ns W k1 k2).mono (fun e w' hh => show e = .returned (.bool false) ∧ _ from ⟨by rw [hh.1, decide_eq_false hn], hh.2⟩))
    have HN := Lib.hid hn
    clear hn
    go_enter Try.func63, Try.ntmps63
    go_wp2_with fail
    refine wp_region_any (by kernel_rfl) ?_
    change wpAny _ _ _ _ _ _ _ (World.drew _)
    refine wpAny_take (i := 0) (v := .pointer (some ⟨b, 0, none⟩)) rfl (by kernel_rfl) (by kernel_rfl) (by kernel_rfl) (fun _ _ _ h => h) (Or.inl ⟨by rfl, fun w => by go_simp⟩) ?_
    try simp only [List.getElem_toArray, List.getElem_cons_zero, Act.put, List.setIfInBounds_toArray, List.set_cons_zero, List.set_cons_succ]
    refine wpAny_take (i := 2) (v := .pointer (some ⟨c, 0, none⟩)) rfl (by kernel_rfl) (by kernel_rfl) (by kernel_rfl) (fun _ _ _ h => h) (Or.inl ⟨by rfl, fun w => by go_simp⟩) ?_
    try simp only [List.getElem_toArray, List.getElem_cons_succ, List.getElem_cons_zero, Act.put, List.setIfInBounds_toArray, List.set_cons_zero, List.set_cons_succ]
    refine wpAny_ready (rs := [1]) (by kernel_rfl) (by simp) ?_
    refine AllReady.cons rfl (fun K hK => ?_) AllReady.nil
    go_simp
    refine (HNA.out _ (Below.drew (Below.refl _ _))).mono ?_
    rintro e w2 ⟨hB2, a3, c3, rfl, hN2⟩
    have HB2 : Hid (Below w.heap.size w w2) := Lib.hid ((Below.drew (Below.refl w.heap.size w)).trans (hB2.mono (by simp)))
    have HN2 := Lib.hid hN2.reads
    clear hB2 hN2
    refine hK _ _ ?_
    clear hK K
    refine wpAny_ready (rs := [3]) (by kernel_rfl) (by simp) ?_
    refine AllReady.cons rfl (fun K hK => ?_) AllReady.nil
    go_simp
    refine (HNB.out _ HB2.out).mono ?_
    rintro e w3 ⟨hB3, a4, c4, rfl, hN3⟩
    have HB3 : Hid (Below w.heap.size w w3) := Lib.hid (HB2.out.trans (hB3.mono HB2.out.size))
    have HN3 := Lib.hid (And.intro (HN2.out.below hB3) hN3.reads)
    clear hB3 hN3
    refine hK _ _ ?_
    clear hK K
    refine wpAny_ready (rs := [4]) (by kernel_rfl) (by simp) ?_
    refine AllReady.cons rfl (fun K hK => ?_) AllReady.nil
    go_simp
    refine (HSN.out _ _ _ HN3.out.1 HN3.out.2).mono ?_
    rintro e w4 ⟨rfl, hB4⟩
    have HB4 : Hid (Below w.heap.size w w4) := Lib.hid (HB3.out.trans (hB4.mono HB3.out.size))
    clear hB4
    refine hK _ _ ?_
    clear hK K
    refine wpAny_take (i := 5) (v := .bool false) rfl (by kernel_rfl) (by kernel_rfl) (by kernel_rfl) (fun _ _ _ h => h) (Or.inl ⟨by rfl, fun w => by go_simp⟩) ?_
    try simp only [List.getElem_toArray, List.getElem_cons_succ, List.getElem_cons_zero, Act.put, List.setIfInBounds_toArray, List.set_cons_zero, List.set_cons_succ]
    refine wpAny_take (i := 6) (v := undef) rfl (by kernel_rfl) (by kernel_rfl) (by kernel_rfl) (fun _ _ _ h => h) (Or.inr ⟨by rfl, rfl⟩) ?_
    try simp only [List.getElem_toArray, List.getElem_cons_succ, List.getElem_cons_zero, Act.put, List.setIfInBounds_toArray, List.set_cons_zero, List.set_cons_succ]
    refine wpAny_take (i := 7) (v := undef) rfl (by kernel_rfl) (by kernel_rfl) (by kernel_rfl) (fun _ _ _ h => h) (Or.inr ⟨by rfl, rfl⟩) ?_
    try simp only [List.getElem_toArray, List.getElem_cons_succ, List.getElem_cons_zero, Act.put, List.setIfInBounds_toArray, List.set_cons_zero, List.set_cons_succ]
    refine wpAny_take (i := 8) (v := undef) rfl (by kernel_rfl) (by kernel_rfl) (by kernel_rfl) (fun _ _ _ h => h) (Or.inr ⟨by rfl, rfl⟩) ?_
    try simp only [List.getElem_toArray, List.getElem_cons_succ, List.getElem_cons_zero, Act.put, List.setIfInBounds_toArray, List.set_cons_zero, List.set_cons_succ]
    refine wpAny_take (i := 9) (v := undef) rfl (by kernel_rfl) (by kernel_rfl) (by kernel_rfl) (fun _ _ _ h => h) (Or.inr ⟨by rfl, rfl⟩) ?_
    try simp only [List.getElem_toArray, List.getElem_cons_succ, List.getElem_cons_zero, Act.put, List.setIfInBounds_toArray, List.set_cons_zero, List.set_cons_succ]
    refine wpAny_take (i := 10) (v := undef) rfl (by kernel_rfl) (by kernel_rfl) (by kernel_rfl) (fun _ _ _ h => h) (Or.inr ⟨by rfl, rfl⟩) ?_
    try simp only [List.getElem_toArray, List.getElem_cons_succ, List.getElem_cons_zero, Act.put, List.setIfInBounds_toArray, List.set_cons_zero, List.set_cons_succ]
    refine wpAny_take (i := 11) (v := undef) rfl (by kernel_rfl) (by kernel_rfl) (by kernel_rfl) (fun _ _ _ h => h) (Or.inr ⟨by rfl, rfl⟩) ?_
    try simp only [List.getElem_toArray, List.getElem_cons_succ, List.getElem_cons_zero, Act.put, List.setIfInBounds_toArray, List.set_cons_zero, List.set_cons_succ]
    refine wpAny_take (i := 12) (v := undef) rfl (by kernel_rfl) (by kernel_rfl) (by kernel_rfl) (fun _ _ _ h => h) (Or.inr ⟨by rfl, rfl⟩) ?_
    try simp only [List.getElem_toArray, List.getElem_cons_succ, List.getElem_cons_zero, Act.put, List.setIfInBounds_toArray, List.set_cons_zero, List.set_cons_succ]
    refine wpAny_take (i := 13) (v := undef) rfl (by kernel_rfl) (by kernel_rfl) (by kernel_rfl) (fun _ _ _ h => h) (Or.inr ⟨by rfl, rfl⟩) ?_
    try simp only [List.getElem_toArray, List.getElem_cons_succ, List.getElem_cons_zero, Act.put, List.setIfInBounds_toArray, List.set_cons_zero, List.set_cons_succ]
    refine wpAny_take (i := 14) (v := undef) rfl (by kernel_rfl) (by kernel_rfl) (by kernel_rfl) (fun _ _ _ h => h) (Or.inr ⟨by rfl, rfl⟩) ?_
    try simp only [List.getElem_toArray, List.getElem_cons_succ, List.getElem_cons_zero, Act.put, List.setIfInBounds_toArray, List.set_cons_zero, List.set_cons_succ]
    refine wpAny_take (i := 15) (v := .bool false) rfl (by kernel_rfl) (by kernel_rfl) (by kernel_rfl) (fun _ _ _ h => h) (Or.inl ⟨by rfl, fun w => by go_simp⟩) ?_
    try simp only [List.getElem_toArray, List.getElem_cons_succ, List.getElem_cons_zero, Act.put, List.setIfInBounds_toArray, List.set_cons_zero, List.set_cons_succ]
    refine wpAny_take (i := 16) (v := .bool false) rfl (by kernel_rfl) (by kernel_rfl) (by kernel_rfl) (fun _ _ _ h => h) (Or.inl ⟨by rfl, fun w => by go_simp⟩) ?_
    try simp only [List.getElem_toArray, List.getElem_cons_succ, List.getElem_cons_zero, Act.put, List.setIfInBounds_toArray, List.set_cons_zero, List.set_cons_succ]
    refine wpAny_done (by kernel_rfl) ?_ _
    all_goals
      go_wp2
      go_ret
      exact ⟨ret_bool (decide_eq_false (fun h => HN.out (by rw [h]))).symm, HB4.out⟩

end Go.Proofs.Ytnfdcfagdidmhaa
