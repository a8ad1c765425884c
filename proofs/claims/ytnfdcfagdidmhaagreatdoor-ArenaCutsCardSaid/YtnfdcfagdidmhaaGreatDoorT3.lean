/-
  The document's Alike, SameNode, SameNodes.
-/
import Derived.Test.YtnfdcfagdidmhaaGreatDoorT2
namespace Go.Proofs.YtnfdcfagdidmhaaGreatDoor
open Go.RowKit
set_option linter.unusedVariables false

def alikeP (x y : Nd) : Prop := x.kind = y.kind ∧ x.space = y.space ∧ x.name = y.name ∧ x.attrs = y.attrs ∧ x.data = y.data ∧ x.pub = y.pub ∧ x.sys = y.sys ∧ x.quirks = y.quirks
instance (x y : Nd) : Decidable (alikeP x y) := inferInstanceAs (Decidable (_ ∧ _ ∧ _ ∧ _ ∧ _ ∧ _ ∧ _ ∧ _))

/-- A node in a new box. -/
theorem boxF (w : World) (n : Nd) (kv av : Value) (t : TypeId) : NodeF (w.alloc (.cells (n.cells kv av).toArray t)) w.heap.size 0 n kv av :=
  ⟨cell_new' rfl rfl, cell_new' rfl rfl, cell_new' rfl rfl, cell_new' rfl rfl, cell_new' rfl rfl, cell_new' rfl rfl, cell_new' rfl rfl, cell_new' rfl rfl, cell_new' rfl rfl, cell_new' rfl rfl, cell_new' rfl rfl, cell_new' rfl rfl, cell_new' rfl rfl⟩
theorem below_alloc2 (w : World) (o o' : Obj) : Below w.heap.size w ((w.alloc o).alloc o') := (below_alloc w o).alloc (by simp) _

set_option maxHeartbeats 1000000 in
theorem Alike_any (x y : Nd) (kv av kv' av' : Value) (w : World) (hx : RAttrs w av x.attrs) (hy : RAttrs w av' y.attrs) :
    Calls Tryz.prog 60 #[.agg (x.cells kv av).toArray, .agg (y.cells kv' av').toArray] w fun e w' => e = .returned (.bool (decide (alikeP x y))) ∧ Below w.heap.size w w' := by
  have F1 := (boxF w x kv av 56).below (below_alloc _ (.cells (y.cells kv' av').toArray 56))
  have F2 := boxF (w.alloc (.cells (x.cells kv av).toArray 56)) y kv' av' 56
  obtain ⟨x0, x1, x2, x3, x4, x5, x6, x7, x8, x9, x10, x11, x12⟩ := x
  obtain ⟨y0, y1, y2, y3, y4, y5, y6, y7, y8, y9, y10, y11, y12⟩ := y
  unfold Nd.cells at F1 F2 ⊢
  dsimp only at hx hy F1 F2 ⊢
  simp only [World.size_alloc] at F2
  have HF := Lib.hid (And.intro F1 F2)
  have HX := Lib.hid (show ∀ o o', RAttrs ((w.alloc o).alloc o') av x6 ∧ RAttrs ((w.alloc o).alloc o') av' y6 from fun o o' => ⟨RAttrs.below hx (below_alloc2 w _ _), RAttrs.below hy (below_alloc2 w _ _)⟩)
  clear hx hy F1 F2
  go_enter Tryz.func60, Tryz.ntmps60
  go_wp2_with fail
  · have q0 : x0 = y0 := ‹_›
    have q4 : x4 = y4 := ‹_›
    subst q0
    subst q4
    refine (SameAttrs_any av av' _ _ _ (HX.out _ _).1 (HX.out _ _).2).mono ?_
    rintro e w2 ⟨rfl, hB2⟩
    have G1 := HF.out.1.below hB2
    have G2 := HF.out.2.below hB2
    have g17 := G1.c7; have g18 := G1.c8; have g19 := G1.c9; have g1a := G1.c10
    have g27 := G2.c7; have g28 := G2.c8; have g29 := G2.c9; have g2a := G2.c10
    try dsimp only at g17 g18 g19 g1a g27 g28 g29 g2a
    simp only [Nat.zero_add] at g17 g18 g19 g1a g27 g28 g29 g2a
    have HB := Lib.hid ((below_alloc2 w _ _).trans (hB2.mono (by simp; omega)))
    clear G1 G2 HF HX hB2
    by_cases ha : x6 = y6
    · have hd : decide (x6 = y6) = true := by simp [ha]
      rw [hd]
      clear hd
      go_wp2
      all_goals
        go_ret
        refine ⟨ret_bool ?_, HB.out⟩
      all_goals first
        | (refine (decide_eq_false (fun h => ?_)).symm; obtain ⟨q0, q1, q2, q3, q4, q5, q6, q7⟩ := h; simp_all; done)
        | (have s5 := str_inj ‹x5.toList = y5.toList›; have s7 := str_inj ‹x7.toList = y7.toList›; have s8 := str_inj ‹x8.toList = y8.toList›; have s9 := str_inj ‹x9.toList = y9.toList›; rw [Bool.eq_iff_iff]; simp [alikeP, s5, s7, s8, s9, ha]; done)
    · have hd : decide (x6 = y6) = false := by simp [ha]
      rw [hd]
      clear hd
      go_wp2
      go_ret
      exact ⟨ret_bool (decide_eq_false (fun h => ha h.2.2.2.1)).symm, HB.out⟩
  all_goals
    go_ret
    refine ⟨ret_bool (decide_eq_false (fun h => ?_)).symm, below_alloc2 w _ _⟩
    obtain ⟨q0, q1, q2, q3, q4, q5, q6, q7⟩ := h
    simp_all

def sameP (x y : Nd) : Prop := alikeP x y ∧ x.kids = y.kids ∧ x.parent = y.parent ∧ x.doc = y.doc ∧ x.contents = y.contents ∧ x.host = y.host
theorem same_iff (x y : Nd) : sameP x y ↔ x = y := by
  obtain ⟨x0, x1, x2, x3, x4, x5, x6, x7, x8, x9, x10, x11, x12⟩ := x
  obtain ⟨y0, y1, y2, y3, y4, y5, y6, y7, y8, y9, y10, y11, y12⟩ := y
  simp only [sameP, alikeP, Nd.mk.injEq]
  constructor
  · rintro ⟨⟨a, b, c, d, e, f, g, h⟩, i, j, k, l, m⟩; exact ⟨a, j, i, k, b, c, d, e, f, g, h, l, m⟩
  · rintro ⟨a, j, i, k, b, c, d, e, f, g, h, l, m⟩; exact ⟨⟨a, b, c, d, e, f, g, h⟩, i, j, k, l, m⟩
instance (x y : Nd) : Decidable (sameP x y) := inferInstanceAs (Decidable (_ ∧ _ ∧ _ ∧ _ ∧ _ ∧ _))
instance (x y : Nd) : Decidable (x = y) := decidable_of_decidable_of_iff (same_iff x y)

set_option maxHeartbeats 1000000 in
theorem SameNode_any (x y : Nd) (kv av kv' av' : Value) (w : World) (hk : RInts w kv x.kids) (hk' : RInts w kv' y.kids) (hx : RAttrs w av x.attrs) (hy : RAttrs w av' y.attrs) :
    Calls Tryz.prog 25 #[.agg (x.cells kv av).toArray, .agg (y.cells kv' av').toArray] w fun e w' => e = .returned (.bool (decide (x = y))) ∧ Below w.heap.size w w' := by
  have F1 := (boxF w x kv av 56).below (below_alloc _ (.cells (y.cells kv' av').toArray 56))
  have F2 := boxF (w.alloc (.cells (x.cells kv av).toArray 56)) y kv' av' 56
  have HA : Hid (∀ W : World, Below w.heap.size w W → Calls Tryz.prog 60 #[.agg (x.cells kv av).toArray, .agg (y.cells kv' av').toArray] W fun e w' => e = .returned (.bool (decide (alikeP x y))) ∧ Below W.heap.size W w') :=
    Lib.hid (fun W hW => Alike_any x y kv av kv' av' W (RAttrs.below hx hW) (RAttrs.below hy hW))
  have HI : Hid (∀ W : World, Below w.heap.size w W → Calls Tryz.prog 18 #[kv, kv'] W fun e w' => e = .returned (.bool (decide (x.kids = y.kids))) ∧ Below W.heap.size W w') :=
    Lib.hid (fun W hW => SameInts_any kv kv' _ _ W (RInts.below hk hW) (RInts.below hk' hW))
  have hsame := same_iff x y
  unfold sameP at hsame
  by_cases hal : alikeP x y
  · have hd : decide (alikeP x y) = true := decide_eq_true hal
    have HS := Lib.hid (And.intro hsame hal)
    have HD := Lib.hid hd
    clear hk hk' hx hy hsame hal hd
    obtain ⟨x0, x1, x2, x3, x4, x5, x6, x7, x8, x9, x10, x11, x12⟩ := x
    obtain ⟨y0, y1, y2, y3, y4, y5, y6, y7, y8, y9, y10, y11, y12⟩ := y
    unfold Nd.cells at *
    dsimp only at F1 F2 HA HI HS ⊢
    simp only [World.size_alloc] at F2
    have HF := Lib.hid (And.intro F1 F2)
    clear F1 F2
    go_enter Tryz.func25, Tryz.ntmps25
    go_wp2_with fail
    refine (HA.out _ (below_alloc2 w _ _)).mono ?_
    rintro e w2 ⟨rfl, hB2⟩
    rw [HD.out]
    have G1 := HF.out.1.below hB2
    have G2 := HF.out.2.below hB2
    have g12 := G1.c2
    have g22 := G2.c2
    try dsimp only at g12 g22
    simp only [Nat.zero_add] at g12 g22
    have HB := Lib.hid ((below_alloc2 w _ _).trans (hB2.mono (by simp; omega)))
    have HG := Lib.hid (And.intro G1 G2)
    clear G1 G2 HF hB2
    go_wp2_with fail
    refine (HI.out _ HB.out).mono ?_
    rintro e w3 ⟨rfl, hB3⟩
    have G1 := HG.out.1.below hB3
    have G2 := HG.out.2.below hB3
    have g11 := G1.c1; have g13 := G1.c3; have g1b := G1.c11; have g1c := G1.c12
    have g21 := G2.c1; have g23 := G2.c3; have g2b := G2.c11; have g2c := G2.c12
    try dsimp only at g11 g13 g1b g1c g21 g23 g2b g2c
    simp only [Nat.zero_add] at g11 g13 g1b g1c g21 g23 g2b g2c
    have HB3 := Lib.hid (HB.out.trans (hB3.mono HB.out.size))
    clear G1 G2 HG hB3 g12 g22
    by_cases hki : x2 = y2
    · have hd2 : decide (x2 = y2) = true := decide_eq_true hki
      rw [hd2]
      have HKI := Lib.hid hki
      clear hd2 hki
      go_wp2
      all_goals
        go_ret
        refine ⟨ret_bool ?_, HB3.out⟩
      all_goals first
        | (refine (decide_eq_false (fun h => ?_)).symm; rw [← HS.out.1] at h; obtain ⟨q0, q1, q2, q3, q4, q5⟩ := h; simp_all; done)
        | (have e1 : x1 = y1 := ‹_›; have e3 : x3 = y3 := ‹_›; have eb : x11 = y11 := ‹_›; subst e1; subst e3; subst eb; have q1 := HS.out.2; have q2 := HKI.out; have q3 := HS.out.1; rw [Bool.eq_iff_iff]; simp only [decide_eq_true_eq, beq_iff_eq]; rw [← q3]; exact ⟨fun e => ⟨q1, q2, rfl, rfl, rfl, e⟩, fun h => h.2.2.2.2.2⟩)
    · have hd2 : decide (x2 = y2) = false := decide_eq_false hki
      rw [hd2]
      have HKI := Lib.hid hki
      clear hd2 hki
      go_wp2
      go_ret
      exact ⟨ret_bool (decide_eq_false (fun h => HKI.out (HS.out.1.2 h).2.1)).symm, HB3.out⟩
  · have hd : decide (alikeP x y) = false := decide_eq_false hal
    have HS := Lib.hid (show decide (x = y) = false from decide_eq_false (fun h => hal (hsame.2 h).1))
    have HD := Lib.hid hd
    clear hk hk' hx hy hsame hal hd F1 F2 HI
    obtain ⟨x0, x1, x2, x3, x4, x5, x6, x7, x8, x9, x10, x11, x12⟩ := x
    obtain ⟨y0, y1, y2, y3, y4, y5, y6, y7, y8, y9, y10, y11, y12⟩ := y
    unfold Nd.cells at *
    dsimp only at HA HS ⊢
    go_enter Tryz.func25, Tryz.ntmps25
    go_wp2_with fail
    refine (HA.out _ (below_alloc2 w _ _)).mono ?_
    rintro e w2 ⟨rfl, hB2⟩
    rw [HD.out]
    have HB := Lib.hid ((below_alloc2 w _ _).trans (hB2.mono (by simp; omega)))
    clear hB2
    go_wp2
    go_ret
    exact ⟨ret_bool HS.out.symm, HB.out⟩

/-- The nodes of a list that is read. -/
theorem RNodes.at {w : World} {a : Option Addr} {n c : Nat} {ns : List Nd} (h : RNodes w (.slice a n c) ns) (hp : 0 < ns.length) : ∃ b o, a = some ⟨b, o, none⟩ ∧ n = ns.length ∧ ∀ i m, ns[i]? = some m → ∃ kv av, NodeF w b (o + i * 13) m kv av ∧ RInts w kv m.kids ∧ RAttrs w av m.attrs := by
  obtain ⟨a', c', e, h2, h3, h4⟩ := h
  simp at e
  obtain ⟨rfl, rfl, rfl⟩ := e
  obtain ⟨b, o, h5, h6⟩ := h4 hp
  exact ⟨b, o, h5, rfl, h6⟩

end Go.Proofs.YtnfdcfagdidmhaaGreatDoor
