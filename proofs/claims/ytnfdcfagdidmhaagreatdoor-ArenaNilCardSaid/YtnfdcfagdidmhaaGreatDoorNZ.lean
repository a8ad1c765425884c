/-
  The law ArenaNil: the walk.
-/
import Derived.Test.YtnfdcfagdidmhaaGreatDoorNW
import Derived.BigRegion
import Derived.Deep.CutRange
namespace Go.Proofs.YtnfdcfagdidmhaaGreatDoor
open Go.RowKit Classical
set_option linter.unusedVariables false

set_option maxRecDepth 100000 in
theorem Dump_nil (h : Int) (w : World) : Calls Tryz.prog 9 #[.pointer none, .int .i64 h] w fun e w' => e = .returned (.string ⟨#[]⟩) ∧ w = w' := by
  go_enter Tryz.func9, Tryz.ntmps9
  go_wp2_with fail
  refine (has_nil _ _).mono ?_
  rintro e w' ⟨rfl, rfl⟩
  go_wp2
  go_ret
  exact ⟨rfl, rfl⟩

theorem op_cells' {W : World} {g : Nat} {x : OpD} {av : Value} {t : TypeId} (h : W.heap[g]? = some (.cells (x.cells av).toArray t (0, 0))) : W.cell? ⟨g, 0, none⟩ = some (.int .i64 x.kind) ∧ W.cell? ⟨g, 1, none⟩ = some (.int .i64 x.a) ∧ W.cell? ⟨g, 2, none⟩ = some (.int .i64 x.b) ∧ W.cell? ⟨g, 3, none⟩ = some (.int .i64 x.c) ∧ W.cell? ⟨g, 4, none⟩ = some (.bool x.flag) ∧ W.cell? ⟨g, 5, none⟩ = some (.int .i64 x.space) ∧ W.cell? ⟨g, 6, none⟩ = some (.string x.name) ∧ W.cell? ⟨g, 7, none⟩ = some (.string x.s) ∧ W.cell? ⟨g, 8, none⟩ = some (.string x.t) ∧ W.cell? ⟨g, 9, none⟩ = some av := by
  refine ⟨?_, ?_, ?_, ?_, ?_, ?_, ?_, ?_, ?_, ?_⟩ <;> (rw [cell_of_row W g _ _ _ _ h]; rfl)

theorem new_has (h : Int) : ¬ Ar.new.has h := fun hh => by
  have h1 := hh.1
  have h2 := hh.2
  simp [Ar.new, Ar.n] at h2
  omega

set_option maxRecDepth 100000 in
set_option maxHeartbeats 1000000 in
theorem ArenaNil_no (x : OpD) (av : Value) (h : Int) (w : World) (hx : RAttrs w av x.attrs) (hs : ¬ smallOp x) :
    Calls Tryz.prog 5 #[.agg (x.cells av).toArray, .int .i64 h] w fun e w' => e = .returned (.bool true) ∧ Below w.heap.size w w' := by
  have HS' := Lib.hid (fun W (hB : Below w.heap.size w W) => SmallOp_any x av W (RAttrs.below hx hB))
  have HD' := Lib.hid (show decide (smallOp x) = false from decide_eq_false hs)
  obtain ⟨aa, ac, rfl, -⟩ := hx.form
  have o1 : Own w w.heap.size [.box w.heap.size (.cells (x.cells (.slice aa x.attrs.length ac)).toArray 46 (0, 0))] _ := (Own.start w).alloc (.cells (x.cells (.slice aa x.attrs.length ac)).toArray 46)
  clear hs hx
  unfold OpD.cells at o1 HS' ⊢
  have O1 := Lib.hid o1
  obtain ⟨c0, c1, c2, c3, c4, c5, c6, c7, c8, c9⟩ := op_cells' (x := x) (av := .slice aa x.attrs.length ac) (t := 46) (O1.out.box (g := w.heap.size) (by simp [OpD.cells]))
  clear o1
  go_enter Tryz.func5, Tryz.ntmps5
  go_wp2_with fail
  refine (HS'.out _ O1.out.low).mono ?_
  rintro e w2 ⟨rfl, hB2⟩
  rw [HD'.out]
  have O2 := Lib.hid (O1.out.read hB2)
  clear c0 c1 c2 c3 c4 c5 c6 c7 c8 c9 hB2
  go_wp2_with fail
  refine (known_any _).mono ?_
  rintro e w3 ⟨rfl, hB3⟩
  have O3 := Lib.hid (O2.out.back hB3)
  clear hB3
  go_wp2
  go_ret
  exact ⟨rfl, O3.out⟩

theorem has_new0 {w0 W : World} {B gz : Nat} {l : List Asrt} (o : Own w0 B l W) (hm : Asrt.arena gz Ar.new ∈ l) (h : Int) :
    Calls Tryz.prog 37 #[.pointer (some ⟨gz, 0, none⟩), .int .i64 h] W fun e w' => e = .returned (.bool false) ∧ W = w' := by
  obtain ⟨ρ, hA⟩ := o.arena hm
  obtain ⟨a, c, mv, h0, -⟩ := hA.head
  exact (has_any Ar.new gz a c h W h0).mono (fun e w' hh => ⟨by rw [hh.1, decide_eq_false (new_has h)], hh.2⟩)

theorem len_zero {w0 W : World} {B gz : Nat} {l : List Asrt} (o : Own w0 B l W) (hm : Asrt.arena gz Ar.new ∈ l) :
    Calls Tryz.prog 26 #[.pointer (some ⟨gz, 0, none⟩)] W fun e w' => e = .returned (.int .i64 0) ∧ W = w' := Len_own o hm

theorem New_own {w0 W : World} {B : Nat} {l : List Asrt} (o : Own w0 B l W) :
    Calls Tryz.prog 32 #[] W fun e w' => ∃ g, e = .returned (.pointer (some ⟨g, 0, none⟩)) ∧ Own w0 B (.arena g Ar.new :: l) w' :=
  (New_any W).mono (fun e w' h => ⟨W.heap.size, h.1, h.2 ▸ o.newArena⟩)

theorem SameNode_z (z : Nd) (hz : z = zeroNd) (W : World) :
    Calls Tryz.prog 25 #[.agg (z.cells (.slice none 0 0) (.slice none 0 0)).toArray, .agg zcells] W fun e w' => e = .returned (.bool true) ∧ Below W.heap.size W w' := by
  subst hz
  have hn : RInts W (.slice none 0 0) zeroNd.kids := ⟨rfl, none, 0, rfl, Nat.le_refl _, Nat.zero_le _, fun h => absurd h (by simp [zeroNd])⟩
  have ha : RAttrs W (.slice none 0 0) zeroNd.attrs := nilAttrs W
  exact (SameNode_any zeroNd zeroNd (.slice none 0 0) (.slice none 0 0) (.slice none 0 0) (.slice none 0 0) W hn hn ha ha).mono (fun e w' h => ⟨by rw [h.1, decide_eq_true rfl], h.2⟩)

theorem node_cells' {W : World} {g : Nat} {n : Nd} {kv av : Value} {t : TypeId} (h : W.heap[g]? = some (.cells (n.cells kv av).toArray t (0, 0))) : W.cell? ⟨g, 0, none⟩ = some (.int .i64 n.kind) ∧ W.cell? ⟨g, 1, none⟩ = some (.int .i64 n.parent) ∧ W.cell? ⟨g, 2, none⟩ = some kv ∧ W.cell? ⟨g, 3, none⟩ = some (.int .i64 n.doc) ∧ W.cell? ⟨g, 4, none⟩ = some (.int .i64 n.space) ∧ W.cell? ⟨g, 5, none⟩ = some (.string n.name) ∧ W.cell? ⟨g, 6, none⟩ = some av ∧ W.cell? ⟨g, 7, none⟩ = some (.string n.data) ∧ W.cell? ⟨g, 8, none⟩ = some (.string n.pub) ∧ W.cell? ⟨g, 9, none⟩ = some (.string n.sys) ∧ W.cell? ⟨g, 10, none⟩ = some (.bool n.quirks) ∧ W.cell? ⟨g, 11, none⟩ = some (.int .i64 n.contents) ∧ W.cell? ⟨g, 12, none⟩ = some (.int .i64 n.host) := by
  refine ⟨?_, ?_, ?_, ?_, ?_, ?_, ?_, ?_, ?_, ?_, ?_, ?_, ?_⟩ <;> (rw [cell_of_row W g _ _ _ _ h]; rfl)

set_option maxRecDepth 100000 in
set_option maxHeartbeats 4000000 in
theorem ArenaNil_some (x : OpD) (av : Value) (h : Int) (w : World) (hx : RAttrs w av x.attrs) (hs : smallOp x) :
    Calls Tryz.prog 5 #[.agg (x.cells av).toArray, .int .i64 h] w fun e w' => e = .returned (.bool true) ∧ Below w.heap.size w w' := by
  have HS' := Lib.hid (fun W (hB : Below w.heap.size w W) => SmallOp_any x av W (RAttrs.below hx hB))
  have HD' := Lib.hid (show decide (smallOp x) = true from decide_eq_true hs)
  have hxa : x.attrs.length ≤ 20 := hs.2.2.2.1
  have HNIL := Lib.hid (fun W (hB : Below w.heap.size w W) => Do_nil x av W (RAttrs.below hx hB))
  have HDO := Lib.hid (fun W b (ll : List Asrt) (o : Own w w.heap.size (.arena b Ar.new :: ll) W) => o.call (fun ρ hA => Do_any _ ρ _ x av W hA inv_new.wf (RAttrs.below hx o.low) (by simp [Ar.new]) (by omega)))
  obtain ⟨aa, ac, rfl, -⟩ := hx.form
  have o1 : Own w w.heap.size [.box w.heap.size (.cells (x.cells (.slice aa x.attrs.length ac)).toArray 46 (0, 0))] _ := (Own.start w).alloc (.cells (x.cells (.slice aa x.attrs.length ac)).toArray 46)
  obtain ⟨en, hen⟩ : ∃ en : Int, en = if 2 ≤ x.kind ∧ x.kind ≤ 13 then 1 else 0 := ⟨_, rfl⟩
  rw [← hen] at HNIL
  have HEN := Lib.hid hen
  clear hs hx hen
  unfold OpD.cells at o1 HS' HNIL HDO ⊢
  have O1 := Lib.hid o1
  obtain ⟨c0, c1, c2, c3, c4, c5, c6, c7, c8, c9⟩ := op_cells' (x := x) (av := .slice aa x.attrs.length ac) (t := 46) (O1.out.box (g := w.heap.size) (by simp [OpD.cells]))
  clear o1
  go_enter Tryz.func5, Tryz.ntmps5
  go_wp2_with fail
  refine (HS'.out _ O1.out.low).mono ?_
  rintro e w2 ⟨rfl, hB2⟩
  rw [HD'.out]
  have o2 := (O1.out.read hB2).newArena
  clear c0 c1 c2 c3 c4 c5 c6 c7 c8 c9 hB2 O1 HS' HD'
  generalize hgx : w.heap.size = gx at *
  have HGX := Lib.hid hgx
  clear hgx
  go_upto_region 5 with fail
  generalize hW2 : w2.alloc _ = W2 at o2 ⊢
  generalize hgz : w2.heap.size = gz at o2 ⊢
  have O2 := Lib.hid o2
  obtain ⟨c0, c1, c2, c3, c4, c5, c6, c7, c8, c9⟩ := op_cells' (x := x) (av := .slice aa x.attrs.length ac) (t := 46) (O2.out.box (g := gx) (by simp [OpD.cells]))
  clear o2 hW2 hgz
  go_wp2_with fail
  refine (HNIL.out _ O2.out.low).mono ?_
  rintro e w3 ⟨rfl, hB3⟩
  have O3 := Lib.hid (O2.out.read hB3)
  clear c0 c1 c2 c3 c4 c5 c6 c7 c8 c9 hB3 O2 HNIL
  go_upto_region 6 with fail
  obtain ⟨c0, -, -, -, -, -, -, -, -, -⟩ := op_cells' (x := x) (av := .slice aa x.attrs.length ac) (t := 46) (O3.out.box (g := gx) (by simp [OpD.cells]))
  go_cut [42] from 27 to 42 (fun v wx => v = .bool false ∧ wx = w3)
  case first =>
    by_cases h2 : 2 ≤ x.kind
    · by_cases h13 : x.kind ≤ 13
      · have he : en = 1 := by rw [HEN.out, if_pos ⟨h2, h13⟩]
        subst he
        have d1 : decide (x.kind ≥ 2) = true := by simp; omega
        have d2 : decide (x.kind ≤ 13) = true := by simp; omega
        clear h2 h13
        go_wp2
        go_meet
        exact ⟨rfl, rfl⟩
      · have d1 : decide (x.kind ≥ 2) = true := by simp; omega
        have d2 : decide (x.kind ≤ 13) = false := by simp; omega
        clear h2 h13
        go_wp2
        go_meet
        exact ⟨rfl, rfl⟩
    · have d1 : decide (x.kind ≥ 2) = false := by simp; omega
      clear h2
      go_wp2
      go_meet
      exact ⟨rfl, rfl⟩
  case rest =>
    obtain ⟨rfl, rfl⟩ := hcut
    clear HEN c0
    go_wp2_with fail
    obtain ⟨z, hz⟩ : ∃ z, z = zeroNd := ⟨_, rfl⟩
    have hNN := Node_nil h wc
    rw [← hz] at hNN
    have hSN := fun W => SameNode_z z hz W
    unfold Nd.cells at hSN
    have HSN := Lib.hid hSN
    clear hz hSN
    refine hNN.mono ?_
    rintro e w4 ⟨rfl, hB4⟩
    clear hNN
    have o4 := O3.out.read hB4
    clear hB4 O3
    have HT := Lib.hid (nodeBox_facts (w := w4) z none 0 none 0 0 0)
    have O5 := Lib.hid (o4.nodeBox z (.slice none 0 0) (.slice none 0 0))
    clear o4
    go_wp2_with ((with_reducible refine wpList_store_mid ?_ 56 (.tmp 9) (.tmp 47) ?_ w4.heap.size 0 (z.cells (.slice none 0 0) (.slice none 0 0)).toArray ?_ ?_ ?_ ?_ ?_ ?_); exact rfl; exact rfl; exact rfl; exact rfl; exact HT.out.1; exact sizeNode _ _ _; exact all_oneCell_toArray HT.out.2; generalize hw5 : World.setCells _ _ _ _ = w5 at O5 ⊢; generalize hg4 : w4.heap.size = g4 at O5 ⊢; clear hw5 hg4 HT; obtain ⟨d0, d1, d2, d3, d4, d5, d6, d7, d8, d9, d10, d11, d12⟩ := node_cells' (n := z) (kv := .slice none 0 0) (av := .slice none 0 0) (t := 56) (O5.out.box (g := g4) (by simp)))
    refine (HSN.out _).mono ?_
    rintro e w6 ⟨rfl, hB6⟩
    have O6 := Lib.hid (O5.out.read hB6)
    clear hB6 O5 d0 d1 d2 d3 d4 d5 d6 d7 d8 d9 d10 d11 d12 HSN
    go_wp2_with fail
    refine (Len_nil _).mono ?_
    rintro e w7 ⟨rfl, rfl⟩
    go_wp2_with fail
    refine (Nodes_nil _).mono ?_
    rintro e w7 ⟨rfl, rfl⟩
    go_wp2_with fail
    refine (Kids_nil _ _).mono ?_
    rintro e w7 ⟨rfl, rfl⟩
    go_wp2_with fail
    refine (Parent_nil _ _).mono ?_
    rintro e w7 ⟨rfl, rfl⟩
    go_wp2_with fail
    refine (Index_nil _ _).mono ?_
    rintro e w7 ⟨rfl, rfl⟩
    go_wp2_with fail
    refine (Root_nil _ _).mono ?_
    rintro e w7 ⟨rfl, hB7⟩
    have O7 := Lib.hid (O6.out.read hB7)
    clear hB7 O6
    go_wp2_with fail
    refine (Contains_nil _ _ _).mono ?_
    rintro e w8 ⟨rfl, hB8⟩
    have O8 := Lib.hid (O7.out.read hB8)
    clear hB8 O7
    go_wp2_with fail
    refine (Copy_nil _).mono ?_
    rintro e w9 ⟨rfl, rfl⟩
    go_wp2_with fail
    refine (walk_nil _ _).mono ?_
    rintro e w9 ⟨rfl, hB9⟩
    have O9 := Lib.hid (O8.out.read hB9)
    clear hB9 O8
    go_wp2_with fail
    refine (Dump_nil _ _).mono ?_
    rintro e w10 ⟨rfl, rfl⟩
    go_wp2_with fail
    refine (Same_no none (some ⟨gz, 0, none⟩) h h _ (fun W _ => has_nil h W)).mono ?_
    rintro e w10 ⟨rfl, rfl⟩
    go_wp2_with fail
    refine (Same_no (some ⟨gz, 0, none⟩) none h h _ (fun W hB => has_new0 (O9.out.read hB) (by simp) h)).mono ?_
    rintro e w10 ⟨rfl, rfl⟩
    go_wp2_with fail
    refine (Equal_nil2 gz _ (len_zero O9.out (by simp))).mono ?_
    rintro e w10 ⟨rfl, rfl⟩
    go_wp2_with fail
    refine (Equal_nil3 gz _ (len_zero O9.out (by simp))).mono ?_
    rintro e w10 ⟨rfl, rfl⟩
    go_wp2_with fail
    refine (Equal_nil1 _).mono ?_
    rintro e w10 ⟨rfl, rfl⟩
    obtain ⟨c0, c1, c2, c3, c4, c5, c6, c7, c8, c9⟩ := op_cells' (x := x) (av := .slice aa x.attrs.length ac) (t := 46) (O9.out.box (g := gx) (by simp [OpD.cells]))
    generalize hst : Ar.new.step x = st at HDO
    unfold pairV at HDO
    clear hst
    go_wp2_with fail
    refine (HDO.out _ gz _ O9.out.swap).mono ?_
    rintro e w10 ⟨rfl, o10⟩
    clear c0 c1 c2 c3 c4 c5 c6 c7 c8 c9 O9
    have O10 := Lib.hid o10
    obtain ⟨c0, c1, c2, c3, c4, c5, c6, c7, c8, c9⟩ := op_cells' (x := x) (av := .slice aa x.attrs.length ac) (t := 46) (O10.out.box (g := gx) (by simp [OpD.cells]))
    clear o10
    go_upto_region 15 with fail
    go_region_with (first
      | (refine (New_own (O10.out.read (by first | exact Below.drew (Below.refl _ _) | exact Below.drewN (Below.refl _ _) _))).mono ?_; rintro e w11 ⟨gn, rfl, o11⟩; have O11 := Lib.hid o11; clear o11; obtain ⟨d0, d1, d2, d3, d4, d5, d6, d7, d8, d9⟩ := op_cells' (x := x) (av := .slice aa x.attrs.length ac) (t := 46) (O11.out.box (g := gx) (by simp [OpD.cells])))
      | (refine (HDO.out _ _ _ O11.out).mono ?_; rintro e w12 ⟨rfl, o12⟩; have O12 := Lib.hid o12; clear o12))
    all_goals
      have hq1 : (st.1.1 == st.1.1) = true := by simp
      have hq2 : (st.1.2 == st.1.2) = true := by simp
      go_wp2_with fail
      refine (known_any _).mono ?_
      rintro e w13 ⟨rfl, hB13⟩
      have HF := Lib.hid (O12.out.back hB13)
      rw [← HGX.out] at HF
      clear hB13
      go_wp2
      go_ret
      exact ⟨rfl, HF.out⟩

theorem ArenaNil_any (x : OpD) (av : Value) (h : Int) (w : World) (hx : RAttrs w av x.attrs) :
    Calls Tryz.prog 5 #[.agg (x.cells av).toArray, .int .i64 h] w fun e w' => e = .returned (.bool true) ∧ Below w.heap.size w w' := by
  by_cases hs : smallOp x
  · exact ArenaNil_some x av h w hx hs
  · exact ArenaNil_no x av h w hx hs

end Go.Proofs.YtnfdcfagdidmhaaGreatDoor
