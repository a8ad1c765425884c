/-
  Parts: T3, T4, AS0.
-/
import Derived.Test.YtpicinjcmjaogaaGreatN13

/- The document's Alike, SameNode, SameNodes. -/
namespace Go.Proofs.YtpicinjcmjaogaaGreat
open Go.RowKit
set_option linter.unusedVariables false

def alikeP (x y : Nd) : Prop := x.kind = y.kind ∧ x.space = y.space ∧ x.name = y.name ∧ x.attrs = y.attrs ∧ x.data = y.data ∧ x.pub = y.pub ∧ x.sys = y.sys ∧ x.quirks = y.quirks
instance (x y : Nd) : Decidable (alikeP x y) := inferInstanceAs (Decidable (_ ∧ _ ∧ _ ∧ _ ∧ _ ∧ _ ∧ _ ∧ _))

/-- A node in a new box. -/
theorem boxF (w : World) (n : Nd) (kv av : Value) (t : TypeId) : NodeF (w.alloc (.cells (n.cells kv av).toArray t)) w.heap.size 0 n kv av :=
  ⟨cell_new' rfl rfl, cell_new' rfl rfl, cell_new' rfl rfl, cell_new' rfl rfl, cell_new' rfl rfl, cell_new' rfl rfl, cell_new' rfl rfl, cell_new' rfl rfl, cell_new' rfl rfl, cell_new' rfl rfl, cell_new' rfl rfl, cell_new' rfl rfl, cell_new' rfl rfl⟩
theorem below_alloc2 (w : World) (o o' : Obj) : Below w.heap.size w ((w.alloc o).alloc o') := (below_alloc w o).alloc (by simp) _

set_option maxHeartbeats 1000000 in
theorem Alike_any (x y : Nd) (kv av kv' av' : Value) (w : World) (hx : RAttrs w av x.attrs) (hy : RAttrs w av' y.attrs) :
    Calls Tryz.prog 136 #[.agg (x.cells kv av).toArray, .agg (y.cells kv' av').toArray] w fun e w' => e = .returned (.bool (decide (alikeP x y))) ∧ Below w.heap.size w w' := by
  have F1 := (boxF w x kv av 46).below (below_alloc _ (.cells (y.cells kv' av').toArray 46))
  have F2 := boxF (w.alloc (.cells (x.cells kv av).toArray 46)) y kv' av' 46
  obtain ⟨x0, x1, x2, x3, x4, x5, x6, x7, x8, x9, x10, x11, x12⟩ := x
  obtain ⟨y0, y1, y2, y3, y4, y5, y6, y7, y8, y9, y10, y11, y12⟩ := y
  unfold Nd.cells at F1 F2 ⊢
  dsimp only at hx hy F1 F2 ⊢
  simp only [World.size_alloc] at F2
  have HF := Lib.hid (And.intro F1 F2)
  have HX := Lib.hid (show ∀ o o', RAttrs ((w.alloc o).alloc o') av x6 ∧ RAttrs ((w.alloc o).alloc o') av' y6 from fun o o' => ⟨RAttrs.below hx (below_alloc2 w _ _), RAttrs.below hy (below_alloc2 w _ _)⟩)
  clear hx hy F1 F2
  go_enter Tryz.func136, Tryz.ntmps136
  go_wp2_with fail
  · have q0 : x0 = y0 := ‹_›
    have q4 : x4 = y4 := ‹_›
    subst q0
    subst q4
    refine (SameAttrs_any av av' _ _ _ (HX.out _ _).1 (HX.out _ _).2).mono ?_
    rintro e w2 ⟨rfl, hB2⟩
    have G1 := HF.out.1.below hB2
    have G2 := HF.out.2.below hB2
    have g17 := G1.c7; have g18 := G1.c8; have g19 := G1.c9; have g1a := G1.c10
    have g27 := G2.c7; have g28 := G2.c8; have g29 := G2.c9; have g2a := G2.c10
    try dsimp only at g17 g18 g19 g1a g27 g28 g29 g2a
    simp only [Nat.zero_add] at g17 g18 g19 g1a g27 g28 g29 g2a
    have HB := Lib.hid ((below_alloc2 w _ _).trans (hB2.mono (by simp; omega)))
    clear G1 G2 HF HX hB2
    by_cases ha : x6 = y6
    · have hd : decide (x6 = y6) = true := by simp [ha]
      rw [hd]
      clear hd
      go_wp2
      all_goals
        go_ret
        refine ⟨ret_bool ?_, HB.out⟩
      all_goals first
        | (refine (decide_eq_false (fun h => ?_)).symm; obtain ⟨q0, q1, q2, q3, q4, q5, q6, q7⟩ := h; simp_all; done)
        | (have s5 := str_inj ‹x5.toList = y5.toList›; have s7 := str_inj ‹x7.toList = y7.toList›; have s8 := str_inj ‹x8.toList = y8.toList›; have s9 := str_inj ‹x9.toList = y9.toList›; rw [Bool.eq_iff_iff]; simp [alikeP, s5, s7, s8, s9, ha]; done)
    · have hd : decide (x6 = y6) = false := by simp [ha]
      rw [hd]
      clear hd
      go_wp2
      go_ret
      exact ⟨ret_bool (decide_eq_false (fun h => ha h.2.2.2.1)).symm, HB.out⟩
  all_goals
    go_ret
    refine ⟨ret_bool (decide_eq_false (fun h => ?_)).symm, below_alloc2 w _ _⟩
    obtain ⟨q0, q1, q2, q3, q4, q5, q6, q7⟩ := h
    simp_all

def sameP (x y : Nd) : Prop := alikeP x y ∧ x.kids = y.kids ∧ x.parent = y.parent ∧ x.doc = y.doc ∧ x.contents = y.contents ∧ x.host = y.host
theorem same_iff (x y : Nd) : sameP x y ↔ x = y := by
  obtain ⟨x0, x1, x2, x3, x4, x5, x6, x7, x8, x9, x10, x11, x12⟩ := x
  obtain ⟨y0, y1, y2, y3, y4, y5, y6, y7, y8, y9, y10, y11, y12⟩ := y
  simp only [sameP, alikeP, Nd.mk.injEq]
  constructor
  · rintro ⟨⟨a, b, c, d, e, f, g, h⟩, i, j, k, l, m⟩; exact ⟨a, j, i, k, b, c, d, e, f, g, h, l, m⟩
  · rintro ⟨a, j, i, k, b, c, d, e, f, g, h, l, m⟩; exact ⟨⟨a, b, c, d, e, f, g, h⟩, i, j, k, l, m⟩
instance (x y : Nd) : Decidable (sameP x y) := inferInstanceAs (Decidable (_ ∧ _ ∧ _ ∧ _ ∧ _ ∧ _))
instance (x y : Nd) : Decidable (x = y) := decidable_of_decidable_of_iff (same_iff x y)

set_option maxHeartbeats 1000000 in
theorem SameNode_any (x y : Nd) (kv av kv' av' : Value) (w : World) (hk : RInts w kv x.kids) (hk' : RInts w kv' y.kids) (hx : RAttrs w av x.attrs) (hy : RAttrs w av' y.attrs) :
    Calls Tryz.prog 53 #[.agg (x.cells kv av).toArray, .agg (y.cells kv' av').toArray] w fun e w' => e = .returned (.bool (decide (x = y))) ∧ Below w.heap.size w w' := by
  have F1 := (boxF w x kv av 46).below (below_alloc _ (.cells (y.cells kv' av').toArray 46))
  have F2 := boxF (w.alloc (.cells (x.cells kv av).toArray 46)) y kv' av' 46
  have HA : Hid (∀ W : World, Below w.heap.size w W → Calls Tryz.prog 136 #[.agg (x.cells kv av).toArray, .agg (y.cells kv' av').toArray] W fun e w' => e = .returned (.bool (decide (alikeP x y))) ∧ Below W.heap.size W w') :=
    Lib.hid (fun W hW => Alike_any x y kv av kv' av' W (RAttrs.below hx hW) (RAttrs.below hy hW))
  have HI : Hid (∀ W : World, Below w.heap.size w W → Calls Tryz.prog 36 #[kv, kv'] W fun e w' => e = .returned (.bool (decide (x.kids = y.kids))) ∧ Below W.heap.size W w') :=
    Lib.hid (fun W hW => SameInts_any kv kv' _ _ W (RInts.below hk hW) (RInts.below hk' hW))
  have hsame := same_iff x y
  unfold sameP at hsame
  by_cases hal : alikeP x y
  · have hd : decide (alikeP x y) = true := decide_eq_true hal
    have HS := Lib.hid (And.intro hsame hal)
    have HD := Lib.hid hd
    clear hk hk' hx hy hsame hal hd
    obtain ⟨x0, x1, x2, x3, x4, x5, x6, x7, x8, x9, x10, x11, x12⟩ := x
    obtain ⟨y0, y1, y2, y3, y4, y5, y6, y7, y8, y9, y10, y11, y12⟩ := y
    unfold Nd.cells at *
    dsimp only at F1 F2 HA HI HS ⊢
    simp only [World.size_alloc] at F2
    have HF := Lib.hid (And.intro F1 F2)
    clear F1 F2
    go_enter Tryz.func53, Tryz.ntmps53
    go_wp2_with fail
    refine (HA.out _ (below_alloc2 w _ _)).mono ?_
    rintro e w2 ⟨rfl, hB2⟩
    rw [HD.out]
    have G1 := HF.out.1.below hB2
    have G2 := HF.out.2.below hB2
    have g12 := G1.c2
    have g22 := G2.c2
    try dsimp only at g12 g22
    simp only [Nat.zero_add] at g12 g22
    have HB := Lib.hid ((below_alloc2 w _ _).trans (hB2.mono (by simp; omega)))
    have HG := Lib.hid (And.intro G1 G2)
    clear G1 G2 HF hB2
    go_wp2_with fail
    refine (HI.out _ HB.out).mono ?_
    rintro e w3 ⟨rfl, hB3⟩
    have G1 := HG.out.1.below hB3
    have G2 := HG.out.2.below hB3
    have g11 := G1.c1; have g13 := G1.c3; have g1b := G1.c11; have g1c := G1.c12
    have g21 := G2.c1; have g23 := G2.c3; have g2b := G2.c11; have g2c := G2.c12
    try dsimp only at g11 g13 g1b g1c g21 g23 g2b g2c
    simp only [Nat.zero_add] at g11 g13 g1b g1c g21 g23 g2b g2c
    have HB3 := Lib.hid (HB.out.trans (hB3.mono HB.out.size))
    clear G1 G2 HG hB3 g12 g22
    by_cases hki : x2 = y2
    · have hd2 : decide (x2 = y2) = true := decide_eq_true hki
      rw [hd2]
      have HKI := Lib.hid hki
      clear hd2 hki
      go_wp2
      all_goals
        go_ret
        refine ⟨ret_bool ?_, HB3.out⟩
      all_goals first
        | (refine (decide_eq_false (fun h => ?_)).symm; rw [← HS.out.1] at h; obtain ⟨q0, q1, q2, q3, q4, q5⟩ := h; simp_all; done)
        | (have e1 : x1 = y1 := ‹_›; have e3 : x3 = y3 := ‹_›; have eb : x11 = y11 := ‹_›; subst e1; subst e3; subst eb; have q1 := HS.out.2; have q2 := HKI.out; have q3 := HS.out.1; rw [Bool.eq_iff_iff]; simp only [decide_eq_true_eq, beq_iff_eq]; rw [← q3]; exact ⟨fun e => ⟨q1, q2, rfl, rfl, rfl, e⟩, fun h => h.2.2.2.2.2⟩)
    · have hd2 : decide (x2 = y2) = false := decide_eq_false hki
      rw [hd2]
      have HKI := Lib.hid hki
      clear hd2 hki
      go_wp2
      go_ret
      exact ⟨ret_bool (decide_eq_false (fun h => HKI.out (HS.out.1.2 h).2.1)).symm, HB3.out⟩
  · have hd : decide (alikeP x y) = false := decide_eq_false hal
    have HS := Lib.hid (show decide (x = y) = false from decide_eq_false (fun h => hal (hsame.2 h).1))
    have HD := Lib.hid hd
    clear hk hk' hx hy hsame hal hd F1 F2 HI
    obtain ⟨x0, x1, x2, x3, x4, x5, x6, x7, x8, x9, x10, x11, x12⟩ := x
    obtain ⟨y0, y1, y2, y3, y4, y5, y6, y7, y8, y9, y10, y11, y12⟩ := y
    unfold Nd.cells at *
    dsimp only at HA HS ⊢
    go_enter Tryz.func53, Tryz.ntmps53
    go_wp2_with fail
    refine (HA.out _ (below_alloc2 w _ _)).mono ?_
    rintro e w2 ⟨rfl, hB2⟩
    rw [HD.out]
    have HB := Lib.hid ((below_alloc2 w _ _).trans (hB2.mono (by simp; omega)))
    clear hB2
    go_wp2
    go_ret
    exact ⟨ret_bool HS.out.symm, HB.out⟩

/-- The nodes of a list that is read. -/
theorem RNodes.at {w : World} {a : Option Addr} {n c : Nat} {ns : List Nd} (h : RNodes w (.slice a n c) ns) (hp : 0 < ns.length) : ∃ b o, a = some ⟨b, o, none⟩ ∧ n = ns.length ∧ ∀ i m, ns[i]? = some m → ∃ kv av, NodeF w b (o + i * 13) m kv av ∧ RInts w kv m.kids ∧ RAttrs w av m.attrs := by
  obtain ⟨a', c', e, h2, h3, h4⟩ := h
  simp at e
  obtain ⟨rfl, rfl, rfl⟩ := e
  obtain ⟨b, o, h5, h6⟩ := h4 hp
  exact ⟨b, o, h5, rfl, h6⟩

end Go.Proofs.YtpicinjcmjaogaaGreat

/- The document's SameNodes. -/
namespace Go.Proofs.YtpicinjcmjaogaaGreat
open Go.RowKit
set_option linter.unusedVariables false

set_option maxRecDepth 100000 in
set_option maxHeartbeats 2000000 in
theorem SameNodes_any (v1 v2 : Value) (l1 l2 : List Nd) (w : World) (h1 : RNodes w v1 l1) (h2 : RNodes w v2 l2) :
    Calls Tryz.prog 46 #[v1, v2] w fun e w' => e = .returned (.bool (decide (l1 = l2))) ∧ Below w.heap.size w w' := by
  have H1 := Lib.hid h1
  have H2 := Lib.hid h2
  obtain ⟨a1, c1, rfl, p1, p2, -⟩ := h1
  obtain ⟨a2, c2, rfl, q1, q2, -⟩ := h2
  by_cases hl : l1.length = l2.length
  · have hl1 : ((l1.length : Int) != l2.length) = false := by simp [hl]
    have HL := Lib.hid hl
    clear hl
    go_enter Tryz.func46, Tryz.ntmps46
    go_wp2
    go_loopw [5] (fun i wr => ∃ k : Nat, k ≤ l1.length ∧ i = .int .i64 k ∧ Hid (∀ j : Nat, j < k → l1[j]? = l2[j]?) ∧ Below w.heap.size w wr) (fun i _ => l1.length - (intOf i).toNat)
    case atStart => exact ⟨0, Nat.zero_le _, rfl, fun j hj => by omega, Below.refl _ _⟩
    case round =>
      obtain ⟨k, hk, rfl, hT, hB⟩ := hrel
      by_cases hlt : k < l1.length
      · have hlt2 : k < l2.length := by have := HL.out; omega
        obtain ⟨b1, o1, rfl, -, hcs1⟩ := (H1.out.below hB).at (by omega)
        obtain ⟨b2, o2, rfl, -, hcs2⟩ := (H2.out.below hB).at (by omega)
        obtain ⟨x, hx⟩ : ∃ x, l1[k]? = some x := ⟨_, List.getElem?_eq_getElem hlt⟩
        obtain ⟨y, hy⟩ : ∃ y, l2[k]? = some y := ⟨_, List.getElem?_eq_getElem hlt2⟩
        obtain ⟨kv, av, F, hK, hA⟩ := hcs1 k x hx
        obtain ⟨kv', av', F', hK', hA'⟩ := hcs2 k y hy
        have HS : Hid (∀ W : World, Below wr.heap.size wr W → Calls Tryz.prog 53 #[.agg (x.cells kv av).toArray, .agg (y.cells kv' av').toArray] W fun e w' => e = .returned (.bool (decide (x = y))) ∧ Below W.heap.size W w') :=
          Lib.hid (fun W hW => SameNode_any x y kv av kv' av' W (RInts.below hK hW) (RInts.below hK' hW) (RAttrs.below hA hW) (RAttrs.below hA' hW))
        have HX := Lib.hid (And.intro hx hy)
        have c0 := F.c0; have c1 := F.c1; have c2 := F.c2; have c3 := F.c3; have c4 := F.c4; have c5 := F.c5; have c6 := F.c6; have c7 := F.c7; have c8 := F.c8; have c9 := F.c9; have c10 := F.c10; have c11 := F.c11; have c12 := F.c12
        have d0 := F'.c0; have d1 := F'.c1; have d2 := F'.c2; have d3 := F'.c3; have d4 := F'.c4; have d5 := F'.c5; have d6 := F'.c6; have d7 := F'.c7; have d8 := F'.c8; have d9 := F'.c9; have d10 := F'.c10; have d11 := F'.c11; have d12 := F'.c12
        clear hcs1 hcs2 hx hy F F' hK hA hK' hA'
        unfold Nd.cells at HS
        go_wp2
        go_region_with (refine (HS.out _ (Below.drewN (Below.refl _ _) _)).mono ?_; rintro e w2 ⟨rfl, hB2⟩)
        all_goals
          have HB2 : Hid (Below w.heap.size w w2) := Lib.hid (hB.trans (((Below.drewN (Below.refl wr.heap.size wr) _).trans (hB2.mono (by simp))).mono hB.size))
          clear hB2 HS c0 c1 c2 c3 c4 c5 c6 c7 c8 c9 c10 c11 c12 d0 d1 d2 d3 d4 d5 d6 d7 d8 d9 d10 d11 d12
          by_cases he : x = y
          · have hd : decide (x = y) = true := decide_eq_true he
            rw [hd]
            have HE := Lib.hid he
            clear hd he
            go_wp2
            go_roundw
            case rel => exact ⟨k + 1, hlt, by go_num, fun j hj => by
              by_cases hjk : j < k
              · exact hT.out j hjk
              · have : j = k := by omega
                rw [this, HX.out.1, HX.out.2, HE.out], HB2.out⟩
            case measure => simp [intOf]; omega
          · have hd : decide (x = y) = false := decide_eq_false he
            rw [hd]
            have HE := Lib.hid he
            clear hd he
            go_wp2
            go_ret
            exact ⟨ret_bool (decide_eq_false (fun h => HE.out (by have a := HX.out.1; have b := HX.out.2; rw [h, b] at a; simp at a; exact a.symm))).symm, HB2.out⟩
      · have hfin : l1 = l2 := by
          apply List.ext_getElem?
          intro j
          by_cases hj : j < k
          · exact hT.out j hj
          · have := HL.out
            rw [List.getElem?_eq_none (by omega), List.getElem?_eq_none (by omega)]
        have HF := Lib.hid hfin
        clear hfin
        go_wp2
        go_ret
        exact ⟨ret_bool (decide_eq_true HF.out).symm, hB⟩
  · have hl1 : ((l1.length : Int) != l2.length) = true := by simp; omega
    have HL := Lib.hid hl
    clear hl
    go_enter Tryz.func46, Tryz.ntmps46
    go_wp2
    go_ret
    exact ⟨ret_bool (decide_eq_false (fun h => HL.out (by rw [h]))).symm, Below.refl _ _⟩

theorem SameNodes_own {w0 w : World} {B : Nat} {v1 v2 : Value} {x y : List Nd} {l : List Asrt} (o : Own w0 B l w) (h1 : Asrt.nlist v1 x ∈ l) (h2 : Asrt.nlist v2 y ∈ l) :
    Calls Tryz.prog 46 #[v1, v2] w fun e w' => e = .returned (.bool (decide (x = y))) ∧ Own w0 B l w' := by
  refine (SameNodes_any v1 v2 x y w (o.nlist h1) (o.nlist h2)).mono ?_
  rintro e w' ⟨rfl, hB⟩
  exact ⟨rfl, o.read hB⟩

end Go.Proofs.YtpicinjcmjaogaaGreat

/- Two nodes with equal trees: the relation, plain. -/
namespace Go.Proofs.YtpicinjcmjaogaaGreat
set_option linter.unusedVariables false

/-- Two nodes, with all that hangs below them, are alike. -/
inductive AlkP (A B : Ar) : Int → Int → Prop
  | mk {h k : Int} (ha : A.has h) (hb : B.has k) (h1 : alikeP (A.get h) (B.get k)) (h2 : (A.get h).kids.length = (B.get k).kids.length) (h3 : (A.get h).contents = 0 ↔ (B.get k).contents = 0)
      (h4 : (A.get h).contents ≠ 0 → AlkP A B (A.get h).contents (B.get k).contents) (h5 : ∀ (i : Nat) (x y : Int), (A.get h).kids[i]? = some x → (B.get k).kids[i]? = some y → AlkP A B x y) : AlkP A B h k

theorem alikeP_symm {x y : Nd} (h : alikeP x y) : alikeP y x := by
  obtain ⟨a, b, c, d, e, f, g, i⟩ := h
  exact ⟨a.symm, b.symm, c.symm, d.symm, e.symm, f.symm, g.symm, i.symm⟩
theorem AlkP.symm {A B : Ar} {h k : Int} (q : AlkP A B h k) : AlkP B A k h := by
  induction q with
  | mk ha hb h1 h2 h3 h4 h5 ih4 ih5 => exact .mk hb ha (alikeP_symm h1) h2.symm h3.symm (fun hc => ih4 (fun e => hc (h3.1 e))) (fun i x y hx hy => ih5 i y x hy hx)
theorem AlkP.refl {A : Ar} (hI : A.Inv) : ∀ h, A.has h → AlkP A A h h :=
  walk_ind hI (fun h hh ihc ihk => .mk hh hh ⟨rfl, rfl, rfl, rfl, rfl, rfl, rfl, rfl⟩ rfl Iff.rfl ihc (fun i x y hx hy => by
    rw [hx] at hy; simp at hy; subst hy; exact ihk x (List.mem_of_getElem? hx)))
theorem AlkP.inv {A B : Ar} {h k : Int} (q : AlkP A B h k) : A.has h ∧ B.has k ∧ alikeP (A.get h) (B.get k) ∧ (A.get h).kids.length = (B.get k).kids.length ∧ ((A.get h).contents = 0 ↔ (B.get k).contents = 0) ∧
    ((A.get h).contents ≠ 0 → AlkP A B (A.get h).contents (B.get k).contents) ∧ ∀ (i : Nat) (x y : Int), (A.get h).kids[i]? = some x → (B.get k).kids[i]? = some y → AlkP A B x y := by
  cases q with
  | mk ha hb h1 h2 h3 h4 h5 => exact ⟨ha, hb, h1, h2, h3, h4, h5⟩

end Go.Proofs.YtpicinjcmjaogaaGreat
