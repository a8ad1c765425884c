/-
  Parts: R4, R5, R6.
-/
import Derived.Test.YtpicinjcmjaogaaGreatN38

/- Contracts of the document's arena: SetData, SetQuirks, SetDoc. -/
namespace Go.Proofs.YtpicinjcmjaogaaGreat
open Go.RowKit
set_option linter.unusedVariables false

/-- A field that is no list is stored. -/
theorem RMem.field {w : World} {ρ : Nat → Nat} {b : Nat} {A : Ar} {x : Int} {f : Nd → Nd} {j nb c : Nat} {v : Value} (hA : RMem w ρ b A) (hx : A.has x)
    (hc0 : w.cell? ⟨b, 0, none⟩ = some (.slice (some ⟨nb, 0, none⟩) (A.ns.length + 1) c)) (hj : j < 13) (hf : ∀ kv av, ((A.get x).cells kv av).set j v = (f (A.get x)).cells kv av) (hk : (f (A.get x)).kids = (A.get x).kids) (ha : (f (A.get x)).attrs = (A.get x).attrs) :
    RMem (w.setCell ⟨nb, x.toNat * 13 + j, none⟩ v) ρ b (A.mod x f) ∧ Turn ρ ρ w (w.setCell ⟨nb, x.toNat * 13 + j, none⟩ v) :=
  RMem.store hA hx hc0 (Upd.refl _ _) (fun _ _ => rfl) hA.1 hj (fun kv av h1 h2 _ _ => ⟨kv, av, hf kv av, by rw [hk]; exact h1, by rw [ha]; exact h2⟩)

/-- What the setters find. -/
theorem RMem.look {w : World} {ρ : Nat → Nat} {b : Nat} {A : Ar} (hA : RMem w ρ b A) : ∃ nb c, w.cell? ⟨b, 0, none⟩ = some (.slice (some ⟨nb, 0, none⟩) (A.ns.length + 1) c) ∧ (A.ns.length : Int) + 1 ≤ 9223372036854775807 ∧ A.ns.length + 1 ≤ c ∧ (∀ j, w.frozen? ⟨nb, j, none⟩ = false) ∧ ρ nb = 2 ∧
    (∀ h W, W.cell? ⟨b, 0, none⟩ = some (.slice (some ⟨nb, 0, none⟩) (A.ns.length + 1) c) → Calls Tryz.prog 64 #[.pointer (some ⟨b, 0, none⟩), .int .i64 h] W fun e w' => e = .returned (.bool (decide (A.has h))) ∧ W = w') ∧
      ∀ x, A.has x → 1 ≤ x ∧ x ≤ A.ns.length ∧ ∃ kv av, NodeF w nb (x.toNat * 13) (A.get x) kv av ∧ ROwn w ρ (2 * x.toNat + 4) 3 1 kv (A.get x).kids.length ((A.get x).kids.map intv) ∧ ROwn w ρ (2 * x.toNat + 5) 132 3 av (A.get x).attrs.length ((A.get x).attrs.flatMap attrCells) := by
  obtain ⟨nb, c, ib, ic, h0, h1, hf, hlt, hm, hc, -, hnb, -, -, -, hfn, -, -, -, hN⟩ := hA.head
  exact ⟨nb, c, h0, hm, hc, hfn, hnb, fun h W hW => RHas_any A b _ c h W hW hm, fun x hx => ⟨hx.1, by have := hx.2; unfold Ar.n at this; exact this, hN x hx⟩⟩

theorem raddr_same {A : Ar} {ρ : Nat → Nat} {b : Nat} {w : World} {e : Int} (hA : RMem w ρ b A) : RAddR A ρ b w (.int .i64 e) (.returned (.int .i64 e)) w := ⟨rfl, ρ, hA, Turn.refl _ _⟩

end Go.Proofs.YtpicinjcmjaogaaGreat

/- Contracts of the document's arena: New, Document, Make, InertOf. -/
namespace Go.Proofs.YtpicinjcmjaogaaGreat
open Go.RowKit
set_option linter.unusedVariables false

theorem rhav_nil (w : World) (ρ : Nat → Nat) (r : Nat) : ROwn w ρ r 132 3 (.slice none 0 0) 0 [] := ⟨World.ownsRow_nil _ _ _ _, fun g hg => by simp [Value.ownBlock] at hg⟩

theorem boxes3 (w : World) (o1 o2 o3 : Obj) : ∀ W, W = ((w.alloc o1).alloc o2).alloc o3 →
    W.heap[w.heap.size]? = some o1 ∧ W.heap[w.heap.size + 1]? = some o2 ∧ W.heap[w.heap.size + 2]? = some o3 ∧ W.heap.size = w.heap.size + 3 ∧ Below w.heap.size w W := by
  rintro W rfl
  have hnew : ∀ (v : World) (o : Obj) (k : Nat), k = v.heap.size → (v.alloc o).heap[k]? = some o := fun v o k hk => by rw [hk]; exact heap_alloc_new v o
  refine ⟨?_, ?_, ?_, by simp, ?_⟩
  · rw [heap_old_alloc _ _ _ (by simp; omega), heap_old_alloc _ _ _ (by simp)]; exact hnew _ _ _ rfl
  · rw [heap_old_alloc _ _ _ (by simp)]; exact hnew _ _ _ (by simp)
  · exact hnew _ _ _ (by simp)
  · exact (((Below.refl _ w).alloc (by simp) _).alloc (by simp) _).alloc (by simp; omega) _

theorem rnew_mem {w : World} {b nb ib : Nat} (h1 : w.heap[b]? = some (.cells #[.slice (some ⟨nb, 0, none⟩) 1 1, .slice (some ⟨ib, 0, none⟩) 1 1] 112 (0, 0))) (h2 : w.heap[nb]? = some (.cells (zeroNd.cells (.slice none 0 0) (.slice none 0 0)).toArray 46 (0, 0)))
    (h3 : w.heap[ib]? = some (.cells #[.int .i64 0] 3 (0, 0))) : RMem w (fun k => if k = b then 1 else if k = nb then 2 else if k = ib then 3 else 0) b Ar.new := by
  have hbn : nb ≠ b := fun e => by rw [e, h1] at h2; simp at h2
  have hbi : ib ≠ b := fun e => by rw [e, h1] at h3; simp at h3
  have hni : ib ≠ nb := fun e => by rw [e, h2] at h3; simp [Nd.cells] at h3
  refine ⟨fun k hk => ?_, by simp, rfl, _, _, h1, ⟨[zeroNd.cells (.slice none 0 0) (.slice none 0 0)], ⟨⟨rfl, .inr ⟨nb, 1, _, rfl, Nat.zero_le _, h2, Nat.le_refl _, by unfold maxLen; simp, by simp [Nd.cells], by simp [Nd.cells, Ar.new]⟩⟩, fun g hg => ?_⟩, rfl, fun i n hn => ?_⟩, ⟨rfl, .inr ⟨ib, 1, _, rfl, Nat.zero_le _, h3, Nat.le_refl _, by unfold maxLen; omega, rfl, rfl⟩⟩, fun g hg => ?_⟩
  · dsimp only at hk
    split at hk
    · rename_i e; rw [e]; exact lt_of_block h1
    · split at hk
      · rename_i e; rw [e]; exact lt_of_block h2
      · split at hk
        · rename_i e; rw [e]; exact lt_of_block h3
        · exact absurd rfl hk
  · simp [Value.ownBlock] at hg; subst hg; simp [hbn]
  · cases i with
    | zero =>
      simp at hn; subst hn
      exact ⟨_, rfl, _, _, rfl, ⟨World.ownsRow_nil _ _ _ _, fun g hg => by simp [Value.ownBlock] at hg⟩, ⟨World.ownsRow_nil _ _ _ _, fun g hg => by simp [Value.ownBlock] at hg⟩⟩
    | succ i => simp [Ar.new] at hn
  · simp [Value.ownBlock] at hg; subst hg; simp [hbi, hni]

set_option maxRecDepth 100000 in
set_option maxHeartbeats 1000000 in
theorem RNew_any (w : World) : Calls Tryz.prog 21 #[] w fun e w' => e = .returned (.pointer (some ⟨w.heap.size + 2, 0, none⟩)) ∧ Below w.heap.size w w' ∧ ∃ ρ, RMem w' ρ (w.heap.size + 2) Ar.new ∧ ∀ k, ρ k ≠ 0 → w.heap.size ≤ k := by
  obtain ⟨i0, hi, hz0, hz1, hz2⟩ := info_parts infoANode
  obtain ⟨j0, hj, hy0, hy1, hy2⟩ := info_parts infoInt
  have m46 := fun W : World => run_make (P := Tryz.prog) W 60 46 i0 _ Tryz.underlying60 hi hz0 .i64 .i64 1 1 (by omega) (by omega) (by rw [hz2]; omega) (by omega)
  have m32 := fun W : World => run_make (P := Tryz.prog) W 41 3 j0 _ Tryz.underlying41 hj hy0 .i64 .i64 1 1 (by omega) (by omega) (by rw [hy2]; omega) (by omega)
  rw [hz1] at m46
  rw [hy1] at m32
  have eN : madeCells (Value.agg #[.int .i64 0, .int .i64 0, .slice none 0 0, .int .i64 0, .int .i64 0, .string ByteArray.empty, .slice none 0 0, .string ByteArray.empty, .string ByteArray.empty, .string ByteArray.empty, .bool false, .int .i64 0, .int .i64 0]).cells ((1 : Int).toNat * 13) = (zeroNd.cells (.slice none 0 0) (.slice none 0 0)).toArray := by kernel_rfl
  have eI : madeCells (Value.int .i64 0).cells ((1 : Int).toNat * 1) = #[.int .i64 0] := by kernel_rfl
  rw [eN] at m46
  rw [eI] at m32
  simp only [show (1 : Int).toNat = 1 from rfl] at m46 m32
  clear eN eI hi hz0 hz1 hz2 hj hy0 hy1 hy2
  unfold Nd.cells at m46
  go_enter Tryz.func21, Tryz.ntmps21
  go_wp2
  go_region
  · go_wp2
    go_ret
    obtain ⟨q1, q2, q3, q4, q5⟩ := boxes3 w _ _ _ _ rfl
    refine ⟨rfl, Below.drew q5, _, RMem.upd (F := fun _ => False) (rnew_mem q3 q1 q2) ((Upd.refl _ _).drew) (fun _ _ => id), fun k hk => ?_⟩
    try dsimp only at hk
    repeat' split at hk
    all_goals omega
  · go_wp2
    go_ret
    obtain ⟨q1, q2, q3, q4, q5⟩ := boxes3 w _ _ _ _ rfl
    refine ⟨rfl, Below.drew q5, _, RMem.upd (F := fun _ => False) (rnew_mem q3 q2 q1) ((Upd.refl _ _).drew) (fun _ _ => id), fun k hk => ?_⟩
    try dsimp only at hk
    repeat' split at hk
    all_goals omega

set_option maxRecDepth 100000 in
set_option maxHeartbeats 1000000 in
theorem RDocument_any (A : Ar) (ρ : Nat → Nat) (b : Nat) (q : Bool) (w : World) (hA : RMem w ρ b A) (hsmall : A.ns.length ≤ 1000000) :
    Calls Tryz.prog 23 #[.pointer (some ⟨b, 0, none⟩), .bool q] w (RAddR (A.document q) ρ b w (.int .i64 (A.n + 1))) := by
  have HC := Lib.hid (radd_any A ρ b { zeroNd with kind := 1, quirks := q, doc := A.n + 1 } none 0 w hA hsmall rfl (rhav_nil _ _ _))
  obtain ⟨nb, c, h0, hm, hc, hfn, -, HH, hN⟩ := hA.look
  clear hN HH hfn hA
  go_enter Tryz.func23, Tryz.ntmps23
  go_wp2_with fail
  refine HC.out.mono ?_
  rintro e w1 ⟨rfl, hR⟩
  have HR := Lib.hid hR
  clear hR
  go_wp2
  go_ret
  exact ⟨rfl, HR.out⟩

theorem RAddR.from {A' : Ar} {ρ : Nat → Nat} {b : Nat} {w W : World} {v : Value} {e : Ending} {w' : World} (h : RAddR A' ρ b W v e w') (hB : Below w.heap.size w W) : RAddR A' ρ b w v e w' := by
  obtain ⟨rfl, ρ', h1, h2⟩ := h
  exact ⟨rfl, ρ', h1, (Turn.below hB).trans h2⟩

end Go.Proofs.YtpicinjcmjaogaaGreat

/- Contracts of the document's arena: InertOf. -/
namespace Go.Proofs.YtpicinjcmjaogaaGreat
open Go.RowKit
set_option linter.unusedVariables false

theorem inertOf_old {A : Ar} {d : Int} (h : A.inertAt d ≠ 0) : A.inertOf d = (A.inertAt d, A) := by unfold Ar.inertOf; rw [if_pos h]
theorem inertOf_new {A : Ar} {d : Int} (h : A.inertAt d = 0) : A.inertOf d = (A.n + 1, { A.document false with inert := ((A.document false).inert.set d.toNat (A.n + 1)).set (A.n + 1).toNat (A.n + 1) }) := by unfold Ar.inertOf; rw [if_neg (by simp [h])]

set_option maxRecDepth 100000 in
set_option maxHeartbeats 1000000 in
theorem RInertOf_any (A : Ar) (ρ : Nat → Nat) (b : Nat) (d : Int) (w : World) (hA : RMem w ρ b A) (hsmall : A.ns.length ≤ 1000000) (hh : A.has d) :
    Calls Tryz.prog 107 #[.pointer (some ⟨b, 0, none⟩), .int .i64 d] w (RAddR (A.inertOf d).2 ρ b w (.int .i64 (A.inertOf d).1)) := by
  obtain ⟨nb, c, ib, ic, h0, h1, hf, hlt, hm, hc, hic, hnb, hib, -, -, -, -, hI, -, -⟩ := hA.head
  have hp := hh.1; have hq := hh.2; unfold Ar.n at hq
  have e0 := hI d (by omega) hh.2
  by_cases hz : A.inertAt d = 0
  · rw [inertOf_new hz]
    rw [hz] at e0
    have HD := Lib.hid (RDocument_any A ρ b false w hA hsmall)
    have hn1 : (A.document false).ns.length = A.ns.length + 1 := by simp [Ar.document, Ar.add]
    have hn2 : (A.document false).n = A.n + 1 := by simp [Ar.n, hn1]
    have hi1 : (A.document false).inert.length = A.ns.length + 2 := by have := hA.2.2.1; simp [Ar.document, Ar.add, this]
    generalize A.document false = A1 at *
    clear hI hf hA hz
    go_enter Tryz.func107, Tryz.ntmps107
    go_wp2_with fail
    refine HD.out.mono ?_
    rintro e w1 ⟨rfl, ρ1, hA1, hT1⟩
    clear h0 h1 e0
    obtain ⟨nb1, c1, ib1, ic1, g0, g1, gf, glt, gm, gc, gic, gnb, gib, -, gibl, -, gfi, gI, -, -⟩ := hA1.head
    obtain ⟨-, nv, iv, hP⟩ := hA1.part
    have hiv : iv = .slice (some ⟨ib1, 0, none⟩) A1.inert.length ic1 := by
      have := hP.2.2.1
      rw [cell_of_row w1 b _ _ _ _ this] at g1
      simp at g1
      rw [g1, hi1, hn1]
    rw [hiv] at hP
    have hneb : ib1 ≠ b := fun e => by have := hA1.2.1; rw [← e, gib] at this; omega
    obtain ⟨hP2, hT2⟩ := hP.setI (i := d.toNat) (x := A.n + 1)
    rw [show A1.inert.length = (A1.inert.set d.toNat (A.n + 1)).length by simp] at hP2
    obtain ⟨hP3, hT3⟩ := hP2.setI (i := (A.n + 1).toNat) (x := A.n + 1)
    have hM := RPart.mem (A := { A1 with inert := (A1.inert.set d.toNat (A.n + 1)).set (A.n + 1).toNat (A.n + 1) }) (by simpa using hP3) (by simp [hi1, hn1])
    have HF := Lib.hid (And.intro hM ((hT1.trans hT2).trans hT3))
    have x0 := gI d (by omega) (by rw [hn2]; unfold Ar.n; omega)
    have x1 := gI (A.n + 1) (by unfold Ar.n; omega) (by rw [hn2]; omega)
    have hne : (A.n + 1).toNat ≠ d.toNat := by unfold Ar.n; omega
    have y1 : (w1.setCell ⟨ib1, d.toNat, none⟩ (.int .i64 (A.n + 1))).cell? ⟨b, 1, none⟩ = some (.slice (some ⟨ib1, 0, none⟩) (A1.ns.length + 1) ic1) := (World.cell?_setCell_other _ _ _ _ (fun e => hneb (congrArg Addr.block e))).trans g1
    have y2 : (w1.setCell ⟨ib1, d.toNat, none⟩ (.int .i64 (A.n + 1))).cell? ⟨ib1, (A.n + 1).toNat, none⟩ = some (.int .i64 (A1.inertAt (A.n + 1))) := (World.cell?_setCell_other _ _ _ _ (fun e => hne (congrArg Addr.off e).symm)).trans x1
    have yd : (w1.setCell ⟨ib1, d.toNat, none⟩ (.int .i64 (A.n + 1))).cell? ⟨ib1, d.toNat, none⟩ = some (.int .i64 (A.n + 1)) := World.cell?_setCell_same _ _ _ x0
    have z1 : ((w1.setCell ⟨ib1, d.toNat, none⟩ (.int .i64 (A.n + 1))).setCell ⟨ib1, (A.n + 1).toNat, none⟩ (.int .i64 (A.n + 1))).cell? ⟨b, 1, none⟩ = some (.slice (some ⟨ib1, 0, none⟩) (A1.ns.length + 1) ic1) := (World.cell?_setCell_other _ _ _ _ (fun e => hneb (congrArg Addr.block e))).trans y1
    have z2 : ((w1.setCell ⟨ib1, d.toNat, none⟩ (.int .i64 (A.n + 1))).setCell ⟨ib1, (A.n + 1).toNat, none⟩ (.int .i64 (A.n + 1))).cell? ⟨ib1, d.toNat, none⟩ = some (.int .i64 (A.n + 1)) := (World.cell?_setCell_other _ _ _ _ (fun e => hne (congrArg Addr.off e))).trans yd
    have b1 : 0 ≤ A.n + 1 := by unfold Ar.n; omega
    have b2 : A.n + 1 < A1.ns.length + 1 := by unfold Ar.n; omega
    have b3 : d < A1.ns.length + 1 := by omega
    have b4 : 0 ≤ d := by omega
    have f1 := gfi d.toNat
    have f2 : (w1.setCell ⟨ib1, d.toNat, none⟩ (.int .i64 (A.n + 1))).frozen? ⟨ib1, (A.n + 1).toNat, none⟩ = false := by have := gfi (A.n + 1).toNat; simpa using this
    clear hA1 hT1 gI gfi gf hP hP2 hP3 hT2 hT3 hM hn1 hn2 hi1 yd hiv hne g0
    generalize A.n + 1 = i at *
    go_wp2
    go_ret
    exact ⟨rfl, ρ1, HF.out.1, HF.out.2⟩
  · rw [inertOf_old hz]
    have hz1 : (A.inertAt d == 0) = false := by simp [hz]
    have HA := Lib.hid hA
    clear hI hf hA hz
    go_enter Tryz.func107, Tryz.ntmps107
    go_wp2
    go_ret
    exact raddr_same HA.out

end Go.Proofs.YtpicinjcmjaogaaGreat
