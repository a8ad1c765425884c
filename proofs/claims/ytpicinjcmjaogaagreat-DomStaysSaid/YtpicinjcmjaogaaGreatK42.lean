/-
  Parts: CY.
-/
import Derived.Test.YtpicinjcmjaogaaGreatK41

/- The arena's Copy. -/
namespace Go.Proofs.YtpicinjcmjaogaaGreat
open Go.RowKit Classical
set_option linter.unusedVariables false

/-- The copy at k nodes. -/
def CopyI (A : Ar) (w : World) (bo : Nat) (mv : Value) (k : Nat) (nv : Value) (σ : Nat → Nat) (wr : World) : Prop :=
  Below w.heap.size w wr ∧ (∀ j, σ j ≠ 0 → j < wr.heap.size) ∧ (∀ j, σ j ≠ 0 → w.heap.size ≤ j) ∧ σ bo = 1 ∧ wr.heap[bo]? = some (.cells #[nv, mv] 110 (0, 0)) ∧
    NodesM wr σ 115 132 nv (A.ns.take k) ∧ IMapM wr σ mv A.inert

theorem CopyI.step {A : Ar} {w wr W w2 w3 : World} {bo k gg cap : Nat} {mv nv kv av : Value} {σ : Nat → Nat} {rows : List (List Value)} {n : Nd} (hI : CopyI A w bo mv k nv σ wr) (hn : A.ns[k]? = some n)
    (hrl : rows.length = (A.ns.take k).length) (hrows : ∀ i n, (A.ns.take k)[i]? = some n → ∃ r, rows[i]? = some r ∧ NodeM wr σ 132 i n r)
    (hrole : ∀ g, nv.ownBlock = some g → σ g = 2) (hW : Below wr.heap.size wr W) (hB : Below W.heap.size W w2)
    (hk : w2.ownsRow W.heap.size 3 1 kv n.kids.length (n.kids.map intv)) (ha : w2.ownsRow W.heap.size 132 3 av n.attrs.length (n.attrs.flatMap attrCells)) (o : Obj)
    (hg : (w2.alloc o).grownBy w3 nv.ownBlock) (hown : w3.ownsRow 0 115 13 (.slice (some ⟨gg, 0, none⟩) (k + 1) cap) (k + 1) (rows.flatten ++ n.cells kv av))
    (hat : nv.ownBlock = some gg ∨ gg = w2.heap.size + 1) :
    ∃ σ', CopyI A w bo mv (k + 1) (.slice (some ⟨gg, 0, none⟩) (k + 1) cap) σ' (w3.setCell ⟨bo, 0, none⟩ (.slice (some ⟨gg, 0, none⟩) (k + 1) cap)) := by
  obtain ⟨c1, c2, c3, c4, c5, c6, c7⟩ := hI
  have hklt : k < A.ns.length := (List.getElem?_eq_some_iff.1 hn).1
  have hkl : (A.ns.take k).length = k := by simp; omega
  have hst : A.ns.take (k + 1) = A.ns.take k ++ [n] := by
    rw [List.take_succ_eq_append_getElem hklt, (List.getElem?_eq_some_iff.1 hn).2]
  have hWs := hW.size
  have h2s := hB.size
  have hB2 : Below wr.heap.size wr w2 := hW.trans (hB.mono hWs)
  have hB2a : Below wr.heap.size wr (w2.alloc o) := hB2.alloc hB2.size _
  obtain ⟨σ1, e1, e2, e3, e4, e5⟩ := roles_two (e := 0) (ρ := σ) (base := W.heap.size) (i := k) (fun j hj => Nat.lt_of_lt_of_le (c2 j hj) hWs) h2s hk ha
  have hbl := lt_of_block c5
  have hbox : (w2.alloc o).heap[bo]? = some (.cells #[nv, mv] 110 (0, 0)) := (hB2a.block bo hbl).trans c5
  have hupd : Upd (fun _ => False) wr (w2.alloc o) := Upd.below hB2a
  obtain ⟨σ2, f1, f2, f3, f4, f5, f6, f7⟩ := box_addK (w := w2.alloc o) (w1 := w3) (ρ := σ1) (b := bo) (T := 110) (e := 115) (nv := nv) (x := mv) (kv := kv) (av := av) (v' := .slice (some ⟨gg, 0, none⟩) (k + 1) cap) (ns := A.ns.take k) (n := n) (rows := rows)
    (fun j hj => by have := e3 j hj; simp; omega) (by rw [e1 bo (by omega)]; exact c4) hbox (fun g hg => by have := hrole g hg; rw [e1 g (by omega)]; exact this) hrl
    (fun i m hm => by obtain ⟨r, q1, q2⟩ := hrows i m hm; exact ⟨r, q1, (q2.upd hupd (fun _ _ h => h)).ext e1⟩)
    (by rw [hkl]; exact e4.upd (Upd.below (F := fun _ => False) (below_alloc w2 o)) (fun _ _ h => h)) (by rw [hkl]; exact e5.upd (Upd.below (F := fun _ => False) (below_alloc w2 o)) (fun _ _ h => h))
    (Upd.grown hg (fun j hj => hj)) (by rw [hkl]; exact hown) (by
      rcases hat with h | h
      · exact .inl (by rw [h]; rfl)
      · exact .inr ⟨gg, rfl, by simp [h]⟩)
  have hnvge : ∀ j, nv.ownBlock = some j → w.heap.size ≤ j := fun j hj => c3 j (by rw [hrole j hj]; omega)
  have hall : Upd (fun j => j = bo ∨ nv.ownBlock = some j) w (w3.setCell ⟨bo, 0, none⟩ (.slice (some ⟨gg, 0, none⟩) (k + 1) cap)) :=
    (Upd.below (c1.trans (hB2a.mono c1.size))).trans f7
  have hσ2 : ∀ j, σ2 j ≠ 0 → w.heap.size ≤ j := fun j hj => by
    by_cases h1 : j < (w2.alloc o).heap.size
    · rw [f5 j h1] at hj
      by_cases h2 : j < W.heap.size
      · rw [e2 j h2] at hj; exact c3 j hj
      · have := c1.size; omega
    · have := c1.size; simp at h1; omega
  refine ⟨σ2, hall.toBelow (fun j hj h => ?_), f1, hσ2, f2, f3, by rw [hst]; exact f4, ?_⟩
  · rcases h with rfl | h
    · have := c3 j (by rw [c4]; omega); omega
    · have := hnvge j h; omega
  · have m1 := ((c7.upd hupd (fun _ _ h => h)).ext e1).role f5
    refine m1.upd f7 (fun j hj h => ?_)
    rcases h with rfl | h
    · rw [f2] at hj; omega
    · have h3 := hrole j h
      have hjl : j < (w2.alloc o).heap.size := by have := c2 j (by omega); simp; omega
      rw [f5 j hjl, e1 j (by omega), h3] at hj; omega

theorem infoNodeT : (Tryz.prog.info? 115).map (fun i => (i.zero, i.size, i.bytes)) = some (some (.agg #[.int .i64 0, .int .i64 0, .slice none 0 0, .int .i64 0, .int .i64 0, .string ByteArray.empty, .slice none 0 0, .string ByteArray.empty, .string ByteArray.empty, .string ByteArray.empty, .bool false, .int .i64 0, .int .i64 0]), 13, 168) := by kernel_rfl

set_option maxRecDepth 100000 in
set_option maxHeartbeats 4000000 in
theorem Copy_any (A : Ar) (ρ : Nat → Nat) (b : Nat) (w : World) (hA : AMem w ρ b A) (hS : A.Short) :
    Calls Tryz.prog 77 #[.pointer (some ⟨b, 0, none⟩)] w fun e w' => Below w.heap.size w w' ∧ ∃ bo σ, e = .returned (.pointer (some ⟨bo, 0, none⟩)) ∧ AMem w' σ bo A ∧ ∀ j, σ j ≠ 0 → w.heap.size ≤ j := by
  obtain ⟨i0, hi, hz0, hz1, hz2⟩ := info_parts infoNodeT
  obtain ⟨a, c, mv, h0, h1, hf, hlt, hm, hN⟩ := hA.head
  obtain ⟨q1, q2, q3, nv0, mv0, q4, q5, q6⟩ := id hA
  have hmv : mv = mv0 := by
    have : w.cell? ⟨b, 1, none⟩ = some mv0 := by rw [cell_of_row w b _ _ _ _ q4]; rfl
    rw [h1] at this; injection this
  subst hmv
  have HI := Lib.hid hi
  have HS := Lib.hid hS
  have HN := Lib.hid hN
  have hsm := hS.1
  have HIL := Lib.hid q3
  have HCL := Lib.hid (MClone_any mv A.inert ρ w q6)
  clear hi hS hN q1 q2 q3 q4 q5 q6 hA hf
  go_enter Tryz.func77, Tryz.ntmps77
  go_wp2_with fail
  refine HCL.out.mono ?_
  rintro e w1 ⟨hB1, mv', rfl, hcase, hIM⟩
  have hw1 : w.heap.size ≤ w1.heap.size := hB1.size
  have hnew : ∀ mb, mv' = .map (some mb) → mb < w1.heap.size ∧ w.heap.size ≤ mb := by
    intro mb hmb
    rcases hcase with ⟨rfl, -⟩ | ⟨rfl, hs⟩
    · cases hmb
    · simp at hmb; subst hmb; omega
  have hst0 : CopyI A w w1.heap.size mv' 0 (.slice none 0 0) (fun j => if j = w1.heap.size then 1 else if mv' = .map (some j) then 3 else 0) (w1.alloc (.cells #[.slice none 0 0, mv'] 110)) := by
    refine ⟨hB1.trans ((below_alloc _ _).mono hw1), fun j hj => ?_, fun j hj => ?_, by simp, (MapKept.heap_alloc w1 _).1, ⟨[], ⟨World.ownsRow_nil _ _ _ _, fun g hg => by simp [Value.ownBlock] at hg⟩, rfl, fun i n hn => by simp at hn⟩, ?_⟩
    · dsimp only at hj
      split at hj
      · rename_i e; simp [e]
      · split at hj
        · rename_i e; have := hnew j e; simp; omega
        · exact absurd rfl hj
    · dsimp only at hj
      split at hj
      · rename_i e; omega
      · split at hj
        · rename_i e; exact (hnew j e).2
        · exact absurd rfl hj
    · refine (hIM _ (fun mb hmb => ?_)).upd (Upd.below (F := fun _ => False) (below_alloc _ _)) (fun _ _ h => h)
      have := hnew mb hmb
      rw [if_neg (by omega), if_pos hmb]
  obtain ⟨mp, hmp⟩ : ∃ mp, mv' = .map mp := by rcases hcase with ⟨rfl, -⟩ | ⟨rfl, -⟩ <;> exact ⟨_, rfl⟩
  subst hmp
  have HST := Lib.hid hst0
  have hB1' := hB1
  have g0 : (w1.alloc (.cells #[.slice none 0 0, .map mp] 110)).cell? ⟨b, 0, none⟩ = some (.slice a A.ns.length c) := Below.old (below_alloc _ _) (Below.old hB1 h0)
  clear hst0 hnew hIM hcase hB1 hB1'
  generalize hbo : w1.heap.size = bo at *
  go_wp2
  go_loopw [19] (fun i wr => ∃ k : Nat, k ≤ A.ns.length ∧ i = .int .i64 k ∧ Hid (∃ nv σ, CopyI A w bo (.map mp) k nv σ wr)) (fun i _ => A.ns.length - (intOf i).toNat)
  case atStart => exact ⟨0, Nat.zero_le _, rfl, _, _, HST.out⟩
  case round =>
    obtain ⟨k, hk, rfl, hT⟩ := hrel
    by_cases hlt : k < A.ns.length
    · obtain ⟨nb, rfl, hr, hnb, hfn, hNx⟩ := HN.out (by omega)
      have hx : A.has ((k : Int) + 1) := ⟨by omega, by unfold Ar.n; omega⟩
      have hkk : ((k : Int) + 1).toNat - 1 = k := by omega
      obtain ⟨kv, av, F, hK, hAt⟩ := hNx _ hx
      rw [hkk] at F
      have hgn := Ar.get_some hx
      rw [hkk] at hgn
      have hsh := HS.out.get hx
      generalize A.get ((k : Int) + 1) = n at *
      obtain ⟨nv, σ, hCI⟩ := hT.out
      obtain ⟨c1, c2, c3, c4, c5, c6, c7⟩ := id hCI
      have hkl : (A.ns.take k).length = k := by simp; omega
      obtain ⟨rows, ⟨r1, r4⟩, r2, r3⟩ := c6
      rw [hkl] at r1
      obtain ⟨na, nc, rfl⟩ := ownsForm r1
      have HD := Lib.hid (fun W (hW : Below wr.heap.size wr W) => describe_any nb (k * 13) n kv av W ((F.below c1).below hW) ((RInts.below hK.reads c1).below hW) ((RAttrs.below hAt.reads c1).below hW) hsh.1 hsh.2)
      have HSTEP := Lib.hid (fun W w2 w3 kv' av' gg cap o (hW : Below wr.heap.size wr W) (hB : Below W.heap.size W w2) hk' ha' hg' hown' hat' => CopyI.step (w2 := w2) (w3 := w3) (W := W) (kv := kv') (av := av') (gg := gg) (cap := cap) hCI hgn r2 r3 r4 hW hB hk' ha' o hg' hown' hat')
      have d0 := Below.old c1 h0
      have hbl := lt_of_block c5
      have e0 : wr.cell? ⟨bo, 0, none⟩ = some (.slice na k nc) := by rw [cell_of_row wr bo _ _ _ _ c5]; rfl
      have ef : wr.frozen? ⟨bo, 0, none⟩ = false := frozen_of_row wr bo _ _ _ c5
      have hne : some bo ≠ (Value.slice na k nc).ownBlock := fun h => by have := r4 bo h.symm; omega
      have HROW := Lib.hid r1
      have HC5 := Lib.hid c5
      have HFROM := Lib.hid (fun (W : World) ka aa kc ac => show ∀ (j : Nat) (u : Value), (n.cells (.slice ka n.kids.length kc) (.slice aa n.attrs.length ac))[j]? = some u → (W.alloc (.cells (n.cells (.slice ka n.kids.length kc) (.slice aa n.attrs.length ac)).toArray 115)).cell? ((⟨W.heap.size, 0, none⟩ : Addr).add j) = some u from by
        intro j u hj; rw [Addr.add_mid, Nat.zero_add]; exact cell_new' rfl (by simpa [Nd.cells] using hj))
      have HGB := Lib.hid (fun (w2 w3 : World) (o : Obj) (hB : Below wr.drew.heap.size wr.drew w2) (hg : (w2.alloc o).grownBy w3 (Value.slice na k nc).ownBlock) => show w3.heap[bo]? = some (.cells #[.slice na k nc, .map mp] 110 (0, 0)) from by
        have hb2 : bo < w2.heap.size := Nat.lt_of_lt_of_le hbl hB.size
        exact (hg.block bo (by simp; omega) hne).trans ((Below.heap_alloc _ _ bo hb2).trans ((hB.block bo hbl).trans c5)))
      clear c1 c2 c3 c4 c5 c7 F hNx hfn hK hAt hgn hkk hx hsh hCI r1 r2 r3 r4 hT
      go_wp2
      go_region_law (first
        | (go_simp; go_at_call 118; refine (HD.out _ (Below.drew (Below.refl _ _))).mono ?_
           rintro e w2 ⟨hB2, kv', av', rfl, ho1, ho2⟩
           obtain ⟨ka, kc, rfl⟩ := ownsForm ho1
           obtain ⟨aa, ac, rfl⟩ := ownsForm ho2
           have HB2 := Lib.hid hB2
           have HO := Lib.hid (And.intro ho1 ho2)
           have g2 : w2.cell? ⟨b, 0, none⟩ = some (.slice (some ⟨nb, 0, none⟩) A.ns.length c) := Below.old hB2 (Below.old (Below.drew (Below.refl _ _)) d0)
           have x2 : w2.cell? ⟨bo, 0, none⟩ = some (.slice na k nc) := Below.old hB2 (Below.old (Below.drew (Below.refl _ _)) e0)
           have hbo2 : bo < w2.heap.size := World.block_lt_of_cell? w2 _ x2
           clear hB2 ho1 ho2
           unfold Nd.cells)
        | (refine step_append_lies _ (by rfl) _ _ 107 (by rfl) 0 115 i0 _ 13 168 Tryz.underlying107 HI.out hz0 hz1 hz2 rfl (by omega) (.slice na k nc) k rows.flatten (by rfl) ?_ ⟨w2.heap.size, 0, none⟩ 1 1 (n.cells (.slice ka n.kids.length kc) (.slice aa n.attrs.length ac)) (by rfl) (by rfl) (HFROM.out w2 ka aa kc ac) (cellsOneCell n (.slice ka n.kids.length kc) (.slice aa n.attrs.length ac) rfl rfl) (by omega) (by unfold maxLen; omega) (by omega) (by omega) (w2.heap.size + 1) (by simp) ?_
           · exact (owns_base (owns_below (owns_below HROW.out (Below.drew (Below.refl _ _))) HB2.out) (Nat.zero_le _)).alloc _
           intro gg cap w3 hown3 hgrow hat hlt3
           have gb : w3.heap[bo]? = some (.cells #[.slice na k nc, .map mp] 110 (0, 0)) := HGB.out w2 w3 _ HB2.out hgrow
           have x3 : w3.cell? ⟨bo, 0, none⟩ = some (.slice na k nc) := by rw [cell_of_row w3 bo _ _ _ _ gb]; rfl
           have xf : w3.frozen? ⟨bo, 0, none⟩ = false := frozen_of_row w3 bo _ _ _ gb))
      all_goals
        have hstep := HSTEP.out wr.drew w2 w3 _ _ gg cap _ (Below.drew (Below.refl _ _)) HB2.out HO.out.1 HO.out.2 hgrow hown3 hat
        have HF := Lib.hid hstep
        have hs3 := hgrow.size
        clear hstep HO hown3 hgrow hat gb x3 xf g2 x2 e0 ef d0
        go_wp2
        go_roundw
        case rel => exact ⟨k + 1, hlt, by go_num, _, HF.out⟩
        case measure => simp [intOf]; omega
    · have hkl : A.ns.take k = A.ns := List.take_of_length_le (by omega)
      obtain ⟨nv, σ, c1, c2, c3, c4, c5, c6, c7⟩ := hT.out
      rw [hkl] at c6
      have HF := Lib.hid (And.intro c1 (show ∃ σ, AMem wr σ bo A ∧ ∀ j, σ j ≠ 0 → w.heap.size ≤ j from ⟨σ, ⟨c2, c4, HIL.out, nv, _, c5, c6, c7⟩, c3⟩))
      clear c1 c2 c3 c4 c5 c6 c7 hT hkl
      go_wp2
      go_ret
      obtain ⟨σ', h1, h2⟩ := HF.out.2
      exact ⟨HF.out.1, bo, σ', rfl, h1, h2⟩

end Go.Proofs.YtpicinjcmjaogaaGreat
