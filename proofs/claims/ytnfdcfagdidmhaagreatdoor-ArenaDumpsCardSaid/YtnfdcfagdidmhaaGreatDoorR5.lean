/-
  Contracts of the document's arena: New, Document, Make, InertOf.
-/
import Derived.Test.YtnfdcfagdidmhaaGreatDoorR4
namespace Go.Proofs.YtnfdcfagdidmhaaGreatDoor
open Go.RowKit
set_option linter.unusedVariables false

theorem rhav_nil (w : World) (ρ : Nat → Nat) (r : Nat) : ROwn w ρ r 123 3 (.slice none 0 0) 0 [] := ⟨World.ownsRow_nil _ _ _ _, fun g hg => by simp [Value.ownBlock] at hg⟩

theorem boxes3 (w : World) (o1 o2 o3 : Obj) : ∀ W, W = ((w.alloc o1).alloc o2).alloc o3 →
    W.heap[w.heap.size]? = some o1 ∧ W.heap[w.heap.size + 1]? = some o2 ∧ W.heap[w.heap.size + 2]? = some o3 ∧ W.heap.size = w.heap.size + 3 ∧ Below w.heap.size w W := by
  rintro W rfl
  have hnew : ∀ (v : World) (o : Obj) (k : Nat), k = v.heap.size → (v.alloc o).heap[k]? = some o := fun v o k hk => by rw [hk]; exact heap_alloc_new v o
  refine ⟨?_, ?_, ?_, by simp, ?_⟩
  · rw [heap_old_alloc _ _ _ (by simp; omega), heap_old_alloc _ _ _ (by simp)]; exact hnew _ _ _ rfl
  · rw [heap_old_alloc _ _ _ (by simp)]; exact hnew _ _ _ (by simp)
  · exact hnew _ _ _ (by simp)
  · exact (((Below.refl _ w).alloc (by simp) _).alloc (by simp) _).alloc (by simp; omega) _

theorem rnew_mem {w : World} {b nb ib : Nat} (h1 : w.heap[b]? = some (.cells #[.slice (some ⟨nb, 0, none⟩) 1 1, .slice (some ⟨ib, 0, none⟩) 1 1] 81 (0, 0))) (h2 : w.heap[nb]? = some (.cells (zeroNd.cells (.slice none 0 0) (.slice none 0 0)).toArray 56 (0, 0)))
    (h3 : w.heap[ib]? = some (.cells #[.int .i64 0] 3 (0, 0))) : RMem w (fun k => if k = b then 1 else if k = nb then 2 else if k = ib then 3 else 0) b Ar.new := by
  have hbn : nb ≠ b := fun e => by rw [e, h1] at h2; simp at h2
  have hbi : ib ≠ b := fun e => by rw [e, h1] at h3; simp at h3
  have hni : ib ≠ nb := fun e => by rw [e, h2] at h3; simp [Nd.cells] at h3
  refine ⟨fun k hk => ?_, by simp, rfl, _, _, h1, ⟨[zeroNd.cells (.slice none 0 0) (.slice none 0 0)], ⟨⟨rfl, .inr ⟨nb, 1, _, rfl, Nat.zero_le _, h2, Nat.le_refl _, by unfold maxLen; simp, by simp [Nd.cells], by simp [Nd.cells, Ar.new]⟩⟩, fun g hg => ?_⟩, rfl, fun i n hn => ?_⟩, ⟨rfl, .inr ⟨ib, 1, _, rfl, Nat.zero_le _, h3, Nat.le_refl _, by unfold maxLen; omega, rfl, rfl⟩⟩, fun g hg => ?_⟩
  · dsimp only at hk
    split at hk
    · rename_i e; rw [e]; exact lt_of_block h1
    · split at hk
      · rename_i e; rw [e]; exact lt_of_block h2
      · split at hk
        · rename_i e; rw [e]; exact lt_of_block h3
        · exact absurd rfl hk
  · simp [Value.ownBlock] at hg; subst hg; simp [hbn]
  · cases i with
    | zero =>
      simp at hn; subst hn
      exact ⟨_, rfl, _, _, rfl, ⟨World.ownsRow_nil _ _ _ _, fun g hg => by simp [Value.ownBlock] at hg⟩, ⟨World.ownsRow_nil _ _ _ _, fun g hg => by simp [Value.ownBlock] at hg⟩⟩
    | succ i => simp [Ar.new] at hn
  · simp [Value.ownBlock] at hg; subst hg; simp [hbi, hni]

set_option maxRecDepth 100000 in
set_option maxHeartbeats 1000000 in
theorem RNew_any (w : World) : Calls Tryz.prog 35 #[] w fun e w' => e = .returned (.pointer (some ⟨w.heap.size + 2, 0, none⟩)) ∧ Below w.heap.size w w' ∧ ∃ ρ, RMem w' ρ (w.heap.size + 2) Ar.new ∧ ∀ k, ρ k ≠ 0 → w.heap.size ≤ k := by
  obtain ⟨i0, hi, hz0, hz1, hz2⟩ := info_parts infoANode
  obtain ⟨j0, hj, hy0, hy1, hy2⟩ := info_parts infoInt
  have m46 := fun W : World => run_make (P := Tryz.prog) W 33 56 i0 _ Tryz.underlying33 hi hz0 .i64 .i64 1 1 (by omega) (by omega) (by rw [hz2]; omega) (by omega)
  have m32 := fun W : World => run_make (P := Tryz.prog) W 35 3 j0 _ Tryz.underlying35 hj hy0 .i64 .i64 1 1 (by omega) (by omega) (by rw [hy2]; omega) (by omega)
  rw [hz1] at m46
  rw [hy1] at m32
  have eN : madeCells (Value.agg #[.int .i64 0, .int .i64 0, .slice none 0 0, .int .i64 0, .int .i64 0, .string ByteArray.empty, .slice none 0 0, .string ByteArray.empty, .string ByteArray.empty, .string ByteArray.empty, .bool false, .int .i64 0, .int .i64 0]).cells ((1 : Int).toNat * 13) = (zeroNd.cells (.slice none 0 0) (.slice none 0 0)).toArray := by kernel_rfl
  have eI : madeCells (Value.int .i64 0).cells ((1 : Int).toNat * 1) = #[.int .i64 0] := by kernel_rfl
  rw [eN] at m46
  rw [eI] at m32
  simp only [show (1 : Int).toNat = 1 from rfl] at m46 m32
  clear eN eI hi hz0 hz1 hz2 hj hy0 hy1 hy2
  unfold Nd.cells at m46
  go_enter Tryz.func35, Tryz.ntmps35
  go_wp2
  go_region
  · go_wp2
    go_ret
    obtain ⟨q1, q2, q3, q4, q5⟩ := boxes3 w _ _ _ _ rfl
    refine ⟨rfl, Below.drew q5, _, RMem.upd (F := fun _ => False) (rnew_mem q3 q1 q2) ((Upd.refl _ _).drew) (fun _ _ => id), fun k hk => ?_⟩
    try dsimp only at hk
    repeat' split at hk
    all_goals omega
  · go_wp2
    go_ret
    obtain ⟨q1, q2, q3, q4, q5⟩ := boxes3 w _ _ _ _ rfl
    refine ⟨rfl, Below.drew q5, _, RMem.upd (F := fun _ => False) (rnew_mem q3 q2 q1) ((Upd.refl _ _).drew) (fun _ _ => id), fun k hk => ?_⟩
    try dsimp only at hk
    repeat' split at hk
    all_goals omega

set_option maxRecDepth 100000 in
set_option maxHeartbeats 1000000 in
theorem RDocument_any (A : Ar) (ρ : Nat → Nat) (b : Nat) (q : Bool) (w : World) (hA : RMem w ρ b A) (hsmall : A.ns.length ≤ 1000000) :
    Calls Tryz.prog 72 #[.pointer (some ⟨b, 0, none⟩), .bool q] w (RAddR (A.document q) ρ b w (.int .i64 (A.n + 1))) := by
  have HC := Lib.hid (radd_any A ρ b { zeroNd with kind := 1, quirks := q, doc := A.n + 1 } none 0 w hA hsmall rfl (rhav_nil _ _ _))
  obtain ⟨nb, c, h0, hm, hc, hfn, -, HH, hN⟩ := hA.look
  clear hN HH hfn hA
  go_enter Tryz.func72, Tryz.ntmps72
  go_wp2_with fail
  refine HC.out.mono ?_
  rintro e w1 ⟨rfl, hR⟩
  have HR := Lib.hid hR
  clear hR
  go_wp2
  go_ret
  exact ⟨rfl, HR.out⟩

theorem RAddR.from {A' : Ar} {ρ : Nat → Nat} {b : Nat} {w W : World} {v : Value} {e : Ending} {w' : World} (h : RAddR A' ρ b W v e w') (hB : Below w.heap.size w W) : RAddR A' ρ b w v e w' := by
  obtain ⟨rfl, ρ', h1, h2⟩ := h
  exact ⟨rfl, ρ', h1, (Turn.below hB).trans h2⟩

set_option maxRecDepth 100000 in
set_option maxHeartbeats 1000000 in
theorem RMake_any (A : Ar) (ρ : Nat → Nat) (b : Nat) (d : Int) (n : Nd) (w : World) (hA : RMem w ρ b A) (hsmall : A.ns.length ≤ 1000000) (hk : n.kids = []) (ha : n.attrs = []) :
    Calls Tryz.prog 73 #[.pointer (some ⟨b, 0, none⟩), .int .i64 d, .agg (n.cells (.slice none 0 0) (.slice none 0 0)).toArray] w (RAddR (A.make d n).2 ρ b w (pairV (A.make d n).1)) := by
  obtain ⟨x0, x1, x2, x3, x4, x5, x6, x7, x8, x9, x10, x11, x12⟩ := n
  dsimp only at hk ha
  subst hk
  subst ha
  generalize hnn : (⟨x0, x1, [], x3, x4, x5, [], x7, x8, x9, x10, x11, x12⟩ : Nd) = n
  have HC : Hid (A.ofDoc d = 0 → ∀ W, Below w.heap.size w W → Calls Tryz.prog 102 #[.pointer (some ⟨b, 0, none⟩), .agg ({ n with doc := d }.cells (.slice none 0 0) (.slice none 0 0)).toArray] W (RAddR (A.make d n).2 ρ b w (.int .i64 (A.n + 1)))) := Lib.hid (fun he W hW => by
    have e : (A.make d n).2 = A.add { n with doc := d } := by unfold Ar.make; rw [if_neg (by simp [he])]
    rw [e]
    subst hnn
    refine (radd_any A ρ b ⟨x0, x1, [], d, x4, x5, [], x7, x8, x9, x10, x11, x12⟩ none 0 W (hA.below hW) hsmall rfl (rhav_nil _ _ _)).mono ?_
    exact fun e w' h => h.from hW)
  have HO := Lib.hid (fun W (hW : Below w.heap.size w W) => ROfDoc_any A ρ b d W (hA.below hW))
  have HA := Lib.hid (fun (o : Obj) => hA.below (below_alloc w o))
  have HF := Lib.hid (show A.make d n = if A.ofDoc d ≠ 0 then ((0, A.ofDoc d), A) else ((A.n + 1, 0), A.add { n with doc := d }) from rfl)
  subst hnn
  dsimp only at HC
  generalize hm : A.make d _ = R at *
  unfold Nd.cells at HC ⊢
  dsimp only at HC ⊢
  clear hA hm
  by_cases he : A.ofDoc d = 0
  · have he1 : (A.ofDoc d != 0) = false := by simp [he]
    have hR : R.1 = (A.n + 1, 0) := by rw [HF.out, if_neg (by simp [he])]
    have HE := Lib.hid he
    rw [hR]
    clear he hR HF HA
    go_enter Tryz.func73, Tryz.ntmps73
    go_wp2_with fail
    refine (HO.out _ (below_alloc _ _)).mono ?_
    rintro e w1 ⟨rfl, rfl⟩
    go_wp2_with fail
    refine (HC.out HE.out _ (below_alloc _ _)).mono ?_
    rintro e w2 ⟨rfl, hR2⟩
    have HR := Lib.hid hR2
    clear hR2
    go_wp2
    go_ret2
    exact ⟨rfl, HR.out⟩
  · have he1 : (A.ofDoc d != 0) = true := by simp [he]
    have hR : R = ((0, A.ofDoc d), A) := by rw [HF.out, if_pos he]
    rw [hR]
    clear he hR HF HC
    go_enter Tryz.func73, Tryz.ntmps73
    go_wp2_with fail
    refine (HO.out _ (below_alloc _ _)).mono ?_
    rintro e w1 ⟨rfl, rfl⟩
    go_wp2
    go_ret2
    exact ⟨rfl, ρ, HA.out _, Turn.below (below_alloc _ _)⟩

end Go.Proofs.YtnfdcfagdidmhaaGreatDoor
