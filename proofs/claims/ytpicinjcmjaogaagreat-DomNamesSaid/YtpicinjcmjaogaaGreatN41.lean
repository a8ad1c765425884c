/-
  Parts: PL2.
-/
import Derived.Test.YtpicinjcmjaogaaGreatN40

/- The document's Own, Nodes. -/
namespace Go.Proofs.YtpicinjcmjaogaaGreat
open Go.RowKit
set_option linter.unusedVariables false

theorem wpList_append_nil {P : Program} (w : World) {ops : Array Oper} {rest : List Oper} {o : Oper} {a : Act} {Q : Exit → Act → World → Prop} (hgd : o.guard = none) (s x : Operand) (t : TypeId)
    (ho : o.op = .call { callee := .builtin .append, args := #[s, x], argTypes := #[t, t] }) (e : TypeId) (i : TypeInfo) (ht : P.underlying t = some (.slice e)) (hi : P.info? e = some i)
    (hs : a.eval s = .slice none 0 0) (hx : a.eval x = .slice none 0 0) (h : wpList P ops Q rest (a.put o.dst (.slice none 0 0)) w) : wpList P ops Q (o :: rest) a w := by
  refine wpList_plain hgd fun K hK => ?_
  have hr := run_append_owned_none (P := P) w 0 t o.type e i 1 ht hi (.slice none 0 0) 0 [] (World.ownsRow_nil _ _ _ _)
  unfold Oper.wp execOp
  simp only [ho, resolve, invoke, builtin, Sem.run_bind, Sem.run_pure, Result.andThen_ok, List.map_toArray, List.map_cons, List.map_nil, hs, hx, hr]
  exact hK _ _ h

/-- What a list of a node is: nil, or a row. -/
theorem owns_cases {w : World} {e : TypeId} {size : Nat} {v : Value} {n : Nat} {xs : List Value} (h : w.ownsRow 0 e size v n xs) : (v = .slice none 0 0 ∧ n = 0 ∧ xs = []) ∨ ∃ g c, v = .slice (some ⟨g, 0, none⟩) n c ∧ ∀ j u, xs[j]? = some u → w.cell? ⟨g, j, none⟩ = some u := by
  rcases h.2 with ⟨rfl, rfl⟩ | ⟨g, cap, cur, rfl, _, hg, _, _, _, ht⟩
  · exact .inl ⟨rfl, rfl, List.length_eq_zero_iff.1 (by simpa using h.1)⟩
  · refine .inr ⟨g, cap, rfl, fun j u hj => ?_⟩
    rw [cell_of_row w g j cur e (0, 0) hg]
    rw [← ht, List.getElem?_take] at hj
    split at hj
    · simpa using hj
    · simp at hj

/-- A copy by 'append(nil, s...)'. -/
theorem wpList_append_copy {P : Program} (w : World) {ops : Array Oper} {rest : List Oper} {o : Oper} {a : Act} {Q : Exit → Act → World → Prop} (hgd : o.guard = none) (s x : Operand) (t : TypeId)
    (ho : o.op = .call { callee := .builtin .append, args := #[s, x], argTypes := #[t, t] }) (base : Nat) (e : TypeId) (i : TypeInfo) (z : Value) (size bytes : Nat) (ht : P.underlying t = some (.slice e)) (hi : P.info? e = some i) (hz : i.zero = some z) (hsize : i.size = size) (hby : i.bytes = bytes) (hzs : z.cells.size = size) (hsz : 0 < size)
    (v : Value) (n : Nat) (xs : List Value) (hs : a.eval s = .slice none 0 0) (hx : a.eval x = v) (hown : w.ownsRow 0 e size v n xs) (h1 : ∀ u ∈ xs, u.oneCell' = true) (hn : n ≤ 1000000) (hbytes : bytes ≤ 1000) (hbase : base ≤ w.heap.size)
    (h : ∀ v' w', w'.ownsRow base e size v' n xs → w.grownBy w' none → wpList P ops Q rest (a.put o.dst v') w') : wpList P ops Q (o :: rest) a w := by
  have hl := hown.1
  rcases owns_cases hown with ⟨rfl, rfl, rfl⟩ | ⟨g, c, rfl, hc⟩
  · exact wpList_append_nil w hgd s x t ho e i ht hi hs hx (h _ _ (World.ownsRow_nil _ _ _ _) (World.grownBy.refl w none))
  · refine wpList_append_own w hgd s x t ho base e i z size bytes ht hi hz hsize hby hzs hsz (.slice none 0 0) 0 [] hs (World.ownsRow_nil _ _ _ _) ⟨g, 0, none⟩ n c xs hx hl (fun j u hj => by rw [Addr.add_mid, Nat.zero_add]; exact hc j u hj) h1 (by unfold maxLen; omega) ?_ hbase (fun v' w' q1 q2 _ => h v' w' (by simpa using q1) q2)
    calc (0 + n) * bytes ≤ 1000000 * 1000 := Nat.mul_le_mul (by omega) hbytes
      _ ≤ 140737488355328 := by omega

set_option maxRecDepth 100000 in
set_option maxHeartbeats 4000000 in
theorem ROwn_any (n : Nd) (kv av : Value) (w : World) (hk : w.ownsRow 0 3 1 kv n.kids.length (n.kids.map intv)) (ha : w.ownsRow 0 132 3 av n.attrs.length (n.attrs.flatMap attrCells)) (hs1 : n.kids.length ≤ 1000000) (hs2 : n.attrs.length ≤ 1000000) :
    Calls Tryz.prog 171 #[.agg (n.cells kv av).toArray] w (DescR n w) := by
  obtain ⟨i0, hi, hz0, hz1, hz2⟩ := info_parts infoInt
  obtain ⟨j0, hj, hy0, hy1, hy2⟩ := info_parts infoAttr
  obtain ⟨ka, kc, rfl⟩ := ownsForm hk
  obtain ⟨aa, ac, rfl⟩ := ownsForm ha
  have HK := Lib.hid hk
  have HA := Lib.hid ha
  have HI := Lib.hid (And.intro hi hj)
  clear hi hj hk ha
  go_enter Tryz.func171, Tryz.ntmps171
  unfold Nd.cells
  go_wp2_with (at_builtin; refine wpList_append_copy _ rfl _ _ 41 rfl (w.heap.size + 2) 3 i0 _ 1 8 Tryz.underlying41 HI.out.1 hz0 hz1 hz2 rfl (by decide) _ _ _ rfl rfl ((HK.out.alloc _).alloc _) (oneInts _) hs1 (by omega) (by simp) ?_)
  intro v1 w1 ho1 hg1
  obtain ⟨a1, c1, rfl⟩ := ownsForm ho1
  have hd1 : w1.heap[w.heap.size]? = some (.cells (n.cells (.slice ka n.kids.length kc) (.slice aa n.attrs.length ac)).toArray 46 (0, 0)) := (hg1.block _ (by simp; omega) (by simp)).trans (heap_alloc2_old w _ _)
  have hr1 : w1.heap[w.heap.size + 1]? = some (.cells zcells 46 (0, 0)) := (hg1.block _ (by simp) (by simp)).trans (heap_alloc2_new w _ _)
  have hB1 : Below w.heap.size w w1 := (below_alloc2 w _ _).grown hg1 (by simp; omega) (fun k hk => by simp at hk)
  have k2 : w1.cell? ⟨w.heap.size, 2, none⟩ = some (.slice ka n.kids.length kc) := by rw [cell_of_row w1 _ _ _ _ _ hd1]; rfl
  have k6 : w1.cell? ⟨w.heap.size, 6, none⟩ = some (.slice aa n.attrs.length ac) := by rw [cell_of_row w1 _ _ _ _ _ hd1]; rfl
  have kf2 : w1.frozen? ⟨w.heap.size, 2, none⟩ = false := frozen_of_row w1 _ _ _ _ hd1
  have hU1 : Upd (fun k => k = w.heap.size) w1 (w1.setCell ⟨w.heap.size, 2, none⟩ (.slice a1 n.kids.length c1)) := (Upd.refl (fun k => k = w.heap.size) w1).setCell (p := ⟨w.heap.size, 2, none⟩) (.inr rfl) _
  have hHA2 := owns_upd (owns_below HA.out hB1) hU1 (fun k hk e => by have := (owns_block HA.out k hk).2; omega)
  have hd2 : (w1.setCell ⟨w.heap.size, 2, none⟩ (.slice a1 n.kids.length c1)).heap[w.heap.size]? = some (.cells (n.cells (.slice a1 n.kids.length c1) (.slice aa n.attrs.length ac)).toArray 46 (0, 0)) := by
    simp [World.setCell, Array.getElem?_modify, hd1, Nd.cells]
  have hr2 : (w1.setCell ⟨w.heap.size, 2, none⟩ (.slice a1 n.kids.length c1)).heap[w.heap.size + 1]? = some (.cells zcells 46 (0, 0)) := (hU1.block _ (lt_of_block hr1) (by omega)).trans hr1
  have hB2 : Below w.heap.size w (w1.setCell ⟨w.heap.size, 2, none⟩ (.slice a1 n.kids.length c1)) := hB1.trans (hU1.toBelow' (fun k hk e => by omega) hB1.size)
  have ho1' := owns_upd ho1 hU1 (fun k hk e => by have := (owns_block ho1 k hk).1; omega)
  have HHA2 := Lib.hid hHA2
  have HO1 := Lib.hid ho1'
  have HD2 := Lib.hid (And.intro hd2 hr2)
  have HB2 := Lib.hid hB2
  have hs2' : w.heap.size + 2 ≤ w1.heap.size := by have := hg1.size; simp at this; omega
  clear ho1 hg1 hd1 hr1 hHA2 hd2 hr2 hB1 hB2 hU1 ho1'
  go_wp2_with (at_builtin; refine wpList_append_copy _ rfl _ _ 44 rfl (w.heap.size + 2) 132 j0 _ 3 40 Tryz.underlying44 HI.out.2 hy0 hy1 hy2 rfl (by decide) _ _ _ rfl rfl HHA2.out (oneAttrs _) hs2 (by omega) (by simp; omega) ?_)
  intro v2 w3 ho2 hg2
  obtain ⟨a2, c2, rfl⟩ := ownsForm ho2
  have hd3 := (hg2.block _ (lt_of_block HD2.out.1) (by simp)).trans HD2.out.1
  have hr3 := (hg2.block _ (lt_of_block HD2.out.2) (by simp)).trans HD2.out.2
  have hB3 := HB2.out.grown hg2 (by simp; omega) (fun k hk => by simp at hk)
  have ho1 : w3.ownsRow (w.heap.size + 2) 3 1 (.slice a1 n.kids.length c1) n.kids.length (n.kids.map intv) := owns_upd HO1.out (Upd.grown (F := fun _ => False) hg2 (fun k hk => by simp at hk)) (fun _ _ => id)
  have m6 : w3.cell? ⟨w.heap.size, 6, none⟩ = some (.slice aa n.attrs.length ac) := by rw [cell_of_row w3 _ _ _ _ _ hd3]; rfl
  have mf6 : w3.frozen? ⟨w.heap.size, 6, none⟩ = false := frozen_of_row w3 _ _ _ _ hd3
  have hU3 : Upd (fun k => k = w.heap.size) w3 (w3.setCell ⟨w.heap.size, 6, none⟩ (.slice a2 n.attrs.length c2)) := (Upd.refl (fun k => k = w.heap.size) w3).setCell (p := ⟨w.heap.size, 6, none⟩) (.inr rfl) _
  have hX : (w3.setCell ⟨w.heap.size, 6, none⟩ (.slice a2 n.attrs.length c2)).heap[w.heap.size]? = some (.cells (n.cells (.slice a1 n.kids.length c1) (.slice a2 n.attrs.length c2)).toArray 46 (0, 0)) := by
    simp [World.setCell, Array.getElem?_modify, hd3, Nd.cells]
  have hXr := (hU3.block _ (lt_of_block hr3) (by omega)).trans hr3
  have hBX := hB3.trans (hU3.toBelow' (fun k hk e => by omega) hB3.size)
  have hoX1 := owns_upd ho1 hU3 (fun k hk e => by have := (owns_block ho1 k hk).1; omega)
  have hoX2 := owns_upd ho2 hU3 (fun k hk e => by have := (owns_block ho2 k hk).1; omega)
  have hc : ∀ (j : Nat) (v : Value), (n.cells (.slice a1 n.kids.length c1) (.slice a2 n.attrs.length c2))[j]? = some v → (w3.setCell ⟨w.heap.size, 6, none⟩ (.slice a2 n.attrs.length c2)).cell? ⟨w.heap.size, j, none⟩ = some v := fun j v hv => by rw [cell_of_row _ _ _ _ _ _ hX]; simpa using hv
  have y0 := hc 0 _ rfl; have y1 := hc 1 _ rfl; have y2 := hc 2 _ rfl; have y3 := hc 3 _ rfl; have y4 := hc 4 _ rfl; have y5 := hc 5 _ rfl; have y6 := hc 6 _ rfl
  have y7 := hc 7 _ rfl; have y8 := hc 8 _ rfl; have y9 := hc 9 _ rfl; have y10 := hc 10 _ rfl; have y11 := hc 11 _ rfl; have y12 := hc 12 _ rfl
  have HT := Lib.hid (And.intro (cellsOneCell n (.slice a1 n.kids.length c1) (.slice a2 n.attrs.length c2) rfl rfl) (box_there n (.slice a1 n.kids.length c1) (.slice a2 n.attrs.length c2) hXr rfl))
  have HB := Lib.hid (box_written n (.slice a1 n.kids.length c1) (.slice a2 n.attrs.length c2) hXr rfl)
  have hUF := (Upd.refl (fun k => k = w.heap.size + 1) (w3.setCell ⟨w.heap.size, 6, none⟩ (.slice a2 n.attrs.length c2))).setCells (b := w.heap.size + 1) (.inr rfl) 0 (n.cells (.slice a1 n.kids.length c1) (.slice a2 n.attrs.length c2))
  have HE := Lib.hid (And.intro (hBX.trans (hUF.toBelow' (fun k hk e => by omega) hBX.size)) (And.intro (owns_base (base' := w.heap.size) (owns_upd hoX1 hUF (fun k hk e => by have := (owns_block hoX1 k hk).1; omega)) (by omega)) (owns_base (base' := w.heap.size) (owns_upd hoX2 hUF (fun k hk e => by have := (owns_block hoX2 k hk).1; omega)) (by omega))))
  clear hc hX hXr hBX hoX1 hoX2 hUF hU3 ho1 ho2 hg2 hd3 hr3 hB3 HD2 HO1 HB2 HHA2 k2 k6 kf2
  go_wp2_with ((with_reducible refine wpList_store_mid ?_ 46 (.tmp 2) (.tmp 11) ?_ (w.heap.size + 1) 0 (n.cells (.slice a1 n.kids.length c1) (.slice a2 n.attrs.length c2)).toArray ?_ ?_ ?_ ?_ ?_ ?_); exact rfl; exact rfl; exact rfl; exact rfl; exact HT.out.2; exact sizeNode _ _ _; exact all_oneCell_toArray HT.out.1)
  refine bodyPost_ret (results_cell_row rfl _ _ (w.heap.size + 1) 46 _ (0, 0) _ rfl HB.out Tryz.underlying46 rfl (sizeNode _ _ _)) rfl ?_
  exact ⟨HE.out.1, _, _, rfl, HE.out.2.1, HE.out.2.2⟩

set_option maxRecDepth 100000 in
set_option maxHeartbeats 2000000 in
theorem RNodes_any (A : Ar) (ρ : Nat → Nat) (b : Nat) (w : World) (hA : RMem w ρ b A) (hS : A.Short) :
    Calls Tryz.prog 97 #[.pointer (some ⟨b, 0, none⟩)] w fun e w' => Below w.heap.size w w' ∧ ∃ a c, e = .returned (.slice a A.ns.length c) ∧ NodesR w' w.heap.size (.slice a A.ns.length c) A.ns := by
  obtain ⟨i0, hi, hz0, hz1, hz2⟩ := info_parts infoANode
  obtain ⟨nb, c, h0, hm, hc, hfn, hnb, HH0, hN⟩ := hA.look
  have HI := Lib.hid hi
  have HS := Lib.hid hS
  have hsm := hS.1
  have HN := Lib.hid hN
  clear hi hS hN HH0 hfn hA
  go_enter Tryz.func97, Tryz.ntmps97
  go_wp2
  go_loopw [3, 4] (fun out i wr => ∃ k : Nat, k ≤ A.ns.length ∧ i = .int .i64 (k + 1) ∧ Hid (NodesR wr w.heap.size out (A.ns.take k)) ∧ Below w.heap.size w wr) (fun _ i _ => A.ns.length + 1 - (intOf i).toNat)
  case atStart => exact ⟨0, Nat.zero_le _, rfl, NodesR.nil _ _, Below.refl _ _⟩
  case round =>
    obtain ⟨k, hk, rfl, hT, hB⟩ := hrel
    have c0 := Below.old hB h0
    by_cases hlt : k < A.ns.length
    · have hx : A.has ((k : Int) + 1) := ⟨by omega, by unfold Ar.n; omega⟩
      have hkk : ((k : Int) + 1).toNat = k + 1 := by omega
      obtain ⟨-, -, kv, av, F, hK, hAt⟩ := HN.out _ hx
      have hgn := Ar.get_some hx
      rw [hkk, Nat.add_sub_cancel] at hgn
      have HG := Lib.hid hgn
      have hsh := HS.out.get hx
      rw [hkk] at F
      have F := F.below hB
      have d0 := F.c0; have d1 := F.c1; have d2 := F.c2; have d3 := F.c3; have d4 := F.c4; have d5 := F.c5; have d6 := F.c6
      have d7 := F.c7; have d8 := F.c8; have d9 := F.c9; have d10 := F.c10; have d11 := F.c11; have d12 := F.c12
      have HD := Lib.hid (ROwn_any (A.get ((k : Int) + 1)) kv av wr (owns_below hK.1 hB) (owns_below hAt.1 hB) hsh.1 hsh.2)
      clear F hK hAt hgn hkk hx hsh
      generalize A.get ((k : Int) + 1) = n at *
      unfold Nd.cells at HD
      obtain ⟨rows, r1, r2, r3⟩ := hT.out
      have hkl : (A.ns.take k).length = k := by simp; omega
      go_wp2_with fail
      refine HD.out.mono ?_
      rintro e w2 ⟨hB2, kv', av', rfl, ho1, ho2⟩
      clear d0 d1 d2 d3 d4 d5 d6 d7 d8 d9 d10 d11 d12 HD
      obtain ⟨ka, kc, rfl⟩ := ownsForm ho1
      obtain ⟨aa, ac, rfl⟩ := ownsForm ho2
      have hwr : w.heap.size ≤ wr.heap.size := hB.size
      have hB2' : Below w.heap.size w w2 := hB.trans (hB2.mono hwr)
      have hw2 : w.heap.size ≤ w2.heap.size := hB2'.size
      have hrows := owns_below r1 hB2
      rw [hkl] at hrows
      have HR := Lib.hid (And.intro r2 r3)
      have hone := cellsOneCell n (.slice ka n.kids.length kc) (.slice aa n.attrs.length ac) rfl rfl
      have HO := Lib.hid (And.intro (owns_base ho1 hwr) (owns_base ho2 hwr))
      have HONE := Lib.hid hone
      have HROW := Lib.hid hrows
      clear r1 r2 r3 ho1 ho2 hone hrows hT
      unfold Nd.cells
      go_wp2_with (at_builtin; refine wpList_append_own _ rfl _ _ 60 rfl w.heap.size 46 i0 _ 13 168 Tryz.underlying60 HI.out hz0 hz1 hz2 rfl (by decide) _ k rows.flatten rfl (HROW.out.alloc _) ⟨w2.heap.size, 0, none⟩ 1 1 (n.cells (.slice ka n.kids.length kc) (.slice aa n.attrs.length ac)) rfl rfl ?c1 ?c2 ?c3 ?c4 ?c5 ?_)
      case c1 => intro j u hj; rw [Addr.add_mid, Nat.zero_add]; exact cell_new' rfl (by simpa [Nd.cells] using hj)
      case c2 => exact HONE.out
      case c3 => unfold maxLen; omega
      case c4 => omega
      case c5 => simp; omega
      intro v' w3 hown hgrow _
      have hB3 : Below w.heap.size w w3 := (hB2'.alloc hw2 _).grown hgrow (by simp; omega) (fun q hq => (owns_block HROW.out q hq).1)
      have hst : A.ns.take (k + 1) = A.ns.take k ++ [n] := by
        rw [List.take_succ_eq_append_getElem hlt]
        have := (List.getElem?_eq_some_iff.1 HG.out).2
        rw [this]
      have hfin : NodesR w3 w.heap.size v' (A.ns.take (k + 1)) := by
        rw [hst]
        refine NodesR.snoc (w := w2.alloc (.cells (n.cells (.slice ka n.kids.length kc) (.slice aa n.attrs.length ac)).toArray 46)) HR.out.1 (by rw [hkl]; exact HROW.out.alloc _) (fun i m hm => ?_) (HO.out.1.alloc _) (HO.out.2.alloc _) hgrow (by rw [hkl]; exact hown)
        obtain ⟨kv1, av1, g1, g2, g3⟩ := HR.out.2 i m hm
        exact ⟨kv1, av1, g1, (owns_below g2 hB2).alloc _, (owns_below g3 hB2).alloc _⟩
      have HFIN := Lib.hid hfin
      clear hown hgrow hst hfin
      go_wp2
      go_roundw
      case rel => exact ⟨k + 1, hlt, by go_num, HFIN, hB3⟩
      case measure => simp [intOf]; omega
    · have hkl : A.ns.take k = A.ns := List.take_of_length_le (by omega)
      have hfin := hT.out
      rw [hkl] at hfin
      obtain ⟨fa, fc, hfe⟩ := ownsForm hfin.choose_spec.1
      have HF := Lib.hid (And.intro hfin hfe)
      clear hfin hfe hT
      go_wp2
      go_ret
      obtain ⟨g1, g2⟩ := HF.out
      subst g2
      exact ⟨hB, fa, fc, rfl, g1⟩

end Go.Proofs.YtpicinjcmjaogaaGreat
