/-
  Parts: C0, P24, C0b.
-/
import Derived.ProofKit
import Derived.Test.YtpicinjcmjaogaaGreatN08

/- What the frames of the laws share. -/
namespace Go.Proofs.YtpicinjcmjaogaaGreat
open Go.ChangeShapes Go.WideShapes Go.ChangeAt Go.RowKit
set_option linter.unusedVariables false

theorem own_knob : ownKnob Tryz.prog.godebug = none := by kernel_rfl
theorem laid_out : laidOutB Tryz.prog = true := by kernel_rfl

set_option maxRecDepth 100000 in
/-- A list of operations that came in. -/
theorem arg_ops {H : Type} {enc : TypeId × Value → H} {W : World} {base : Nat} {spare : Nat → Bool} {held : Bool} {v : Value} {d : DataW H} {p : List MemPlace} {r : Reach} {b0 : Nat}
    (hv : Value.okWide Tryz.prog W r b0 38 v) (h : DataW.Trod enc Tryz.prog W base spare held 38 v d p) : ∃ l, ROps W v l := by
  obtain ⟨a, len, cap, rfl⟩ := okWide_slice Tryz.underlying38 hv
  obtain ⟨fuel, hf⟩ := h
  simp only [Value.cells] at hf
  exact open_ops (fuel := fuel) (x := (d, p)) hf

end Go.Proofs.YtpicinjcmjaogaaGreat

/- Contracts of the program's arena: Nodes. -/
namespace Go.Proofs.YtpicinjcmjaogaaGreat
open Go.RowKit
set_option linter.unusedVariables false

/-- Rows of different element types lie in different blocks. -/
theorem owns_apart {w : World} {b b' : Nat} {e e' : TypeId} {s s' : Nat} {v v' : Value} {n n' : Nat} {xs xs' : List Value} (h : w.ownsRow b e s v n xs) (h' : w.ownsRow b' e' s' v' n' xs') (hne : e ≠ e') : ∀ k, v.ownBlock = some k → v'.ownBlock ≠ some k := by
  intro k hk hk'
  rcases h.2 with ⟨rfl, _⟩ | ⟨g, cap, cur, rfl, _, hg, _⟩
  · simp [Value.ownBlock] at hk
  · rcases h'.2 with ⟨rfl, _⟩ | ⟨g', cap', cur', rfl, _, hg', _⟩
    · simp [Value.ownBlock] at hk'
    · simp [Value.ownBlock] at hk hk'
      subst hk; subst hk'
      rw [hg] at hg'
      simp at hg'
      exact hne hg'.2

/-- A list of descriptions in new memory, with the rows of their lists. -/
def NodesR (w : World) (base : Nat) (v : Value) (ns : List Nd) : Prop :=
  ∃ rows : List (List Value), w.ownsRow base 46 13 v ns.length rows.flatten ∧ rows.length = ns.length ∧ ∀ (i : Nat) (n : Nd), ns[i]? = some n → ∃ kv av, rows[i]? = some (n.cells kv av) ∧ w.ownsRow base 3 1 kv n.kids.length (n.kids.map intv) ∧ w.ownsRow base 132 3 av n.attrs.length (n.attrs.flatMap attrCells)

theorem NodesR.nil (w : World) (base : Nat) : NodesR w base (.slice none 0 0) [] := ⟨[], World.ownsRow_nil _ _ _ _, rfl, fun i n h => by simp at h⟩

/-- One more. -/
theorem NodesR.snoc {w w' : World} {base : Nat} {v v' kv av : Value} {ns : List Nd} {n : Nd} {rows : List (List Value)} (hl : rows.length = ns.length) (hv : w.ownsRow base 46 13 v ns.length rows.flatten)
    (hN : ∀ (i : Nat) (n : Nd), ns[i]? = some n → ∃ kv av, rows[i]? = some (n.cells kv av) ∧ w.ownsRow base 3 1 kv n.kids.length (n.kids.map intv) ∧ w.ownsRow base 132 3 av n.attrs.length (n.attrs.flatMap attrCells))
    (hk : w.ownsRow base 3 1 kv n.kids.length (n.kids.map intv)) (ha : w.ownsRow base 132 3 av n.attrs.length (n.attrs.flatMap attrCells))
    (hg : w.grownBy w' v.ownBlock) (ho : w'.ownsRow base 46 13 v' (ns.length + 1) (rows.flatten ++ n.cells kv av)) : NodesR w' base v' (ns ++ [n]) := by
  have hU : Upd (fun k => v.ownBlock = some k) w w' := Upd.grown hg (fun k hk => hk)
  have keep : ∀ {e : TypeId} {s : Nat} {x : Value} {m : Nat} {xs : List Value}, w.ownsRow base e s x m xs → e ≠ 46 → w'.ownsRow base e s x m xs := fun h hne =>
    owns_upd h hU (fun k hk hf => owns_apart h hv hne k hk hf)
  refine ⟨rows ++ [n.cells kv av], by simpa [List.flatten_append] using ho, by simp [hl], fun i m hm => ?_⟩
  rw [List.getElem?_append] at hm
  split at hm
  · rename_i hi
    obtain ⟨kv', av', h1, h2, h3⟩ := hN i m hm
    exact ⟨kv', av', by rw [List.getElem?_append_left (by omega)]; exact h1, keep h2 (by decide), keep h3 (by decide)⟩
  · rename_i hi
    have hi' : i = ns.length := by have := (List.getElem?_eq_some_iff.1 hm).1; simp at this; omega
    subst hi'
    simp at hm
    subst hm
    exact ⟨kv, av, by rw [← hl]; simp, keep hk (by decide), keep ha (by decide)⟩

theorem infoANode : (Tryz.prog.info? 46).map (fun i => (i.zero, i.size, i.bytes)) = some (some (.agg #[.int .i64 0, .int .i64 0, .slice none 0 0, .int .i64 0, .int .i64 0, .string ByteArray.empty, .slice none 0 0, .string ByteArray.empty, .string ByteArray.empty, .string ByteArray.empty, .bool false, .int .i64 0, .int .i64 0]), 13, 168) := by kernel_rfl

theorem NodesR.below {w w' : World} {base : Nat} {v : Value} {ns : List Nd} (h : NodesR w base v ns) (hb : Below w.heap.size w w') : NodesR w' base v ns := by
  obtain ⟨rows, h1, h2, h3⟩ := h
  refine ⟨rows, owns_below h1 hb, h2, fun i n hn => ?_⟩
  obtain ⟨kv, av, h4, h5, h6⟩ := h3 i n hn
  exact ⟨kv, av, h4, owns_below h5 hb, owns_below h6 hb⟩

set_option maxRecDepth 100000 in
set_option maxHeartbeats 2000000 in
theorem Nodes_any (A : Ar) (ρ : Nat → Nat) (b : Nat) (w : World) (hA : AMem w ρ b A) (hS : A.Short) :
    Calls Tryz.prog 43 #[.pointer (some ⟨b, 0, none⟩)] w fun e w' => Below w.heap.size w w' ∧ ∃ a c, e = .returned (.slice a A.ns.length c) ∧ NodesR w' w.heap.size (.slice a A.ns.length c) A.ns := by
  obtain ⟨i0, hi, hz0, hz1, hz2⟩ := info_parts infoANode
  obtain ⟨a, c, mv, h0, -, hf, hlt, hm, hN⟩ := hA.head
  have HI := Lib.hid hi
  have HS := Lib.hid hS
  have hsm := hS.1
  clear hi hS
  have HN := Lib.hid hN
  clear hN
  go_enter Tryz.func43, Tryz.ntmps43
  go_wp2
  go_loopw [3, 12] (fun out i wr => ∃ k : Nat, k ≤ A.ns.length ∧ i = .int .i64 k ∧ Hid (NodesR wr w.heap.size out (A.ns.take k)) ∧ Below w.heap.size w wr) (fun _ i _ => A.ns.length - (intOf i).toNat)
  case atStart => exact ⟨0, Nat.zero_le _, rfl, NodesR.nil _ _, Below.refl _ _⟩
  case round =>
    obtain ⟨k, hk, rfl, hT, hB⟩ := hrel
    by_cases hlt : k < A.ns.length
    · obtain ⟨nb, rfl, hr, hnb, hfn, hNx⟩ := HN.out (by omega)
      have hx : A.has ((k : Int) + 1) := ⟨by omega, by unfold Ar.n; omega⟩
      have hkk : ((k : Int) + 1).toNat - 1 = k := by omega
      obtain ⟨kv, av, F, hK, hAt⟩ := hNx _ hx
      rw [hkk] at F
      have hgn := Ar.get_some hx
      rw [hkk] at hgn
      have HG := Lib.hid hgn
      have hsh := HS.out.get hx
      have c0 := Below.old hB h0
      have HD := Lib.hid (describe_any nb (k * 13) (A.get ((k : Int) + 1)) kv av wr (F.below hB) (RInts.below hK.reads hB) (RAttrs.below hAt.reads hB) hsh.1 hsh.2)
      clear F hNx hfn hK hAt hgn hkk hx hsh
      generalize A.get ((k : Int) + 1) = n at *
      obtain ⟨rows, r1, r2, r3⟩ := hT.out
      have hkl : (A.ns.take k).length = k := by simp; omega
      go_wp2_with fail
      refine HD.out.mono ?_
      rintro e w2 ⟨hB2, kv', av', rfl, ho1, ho2⟩
      obtain ⟨ka, kc, rfl⟩ := ownsForm ho1
      obtain ⟨aa, ac, rfl⟩ := ownsForm ho2
      have hwr : w.heap.size ≤ wr.heap.size := hB.size
      have hB2' : Below w.heap.size w w2 := hB.trans (hB2.mono hwr)
      have hw2 : w.heap.size ≤ w2.heap.size := hB2'.size
      have hrows := owns_below r1 hB2
      rw [hkl] at hrows
      have HR := Lib.hid (And.intro r2 r3)
      have hone := cellsOneCell n (.slice ka n.kids.length kc) (.slice aa n.attrs.length ac) rfl rfl
      have HO := Lib.hid (And.intro (owns_base ho1 hwr) (owns_base ho2 hwr))
      have HONE := Lib.hid hone
      have HROW := Lib.hid hrows
      clear r1 r2 r3 ho1 ho2 hone hrows hT
      unfold Nd.cells
      go_wp2_with (at_builtin; refine wpList_append_own _ rfl _ _ 60 rfl w.heap.size 46 i0 _ 13 168 Tryz.underlying60 HI.out hz0 hz1 hz2 rfl (by decide) _ k rows.flatten rfl (HROW.out.alloc _) ⟨w2.heap.size, 0, none⟩ 1 1 (n.cells (.slice ka n.kids.length kc) (.slice aa n.attrs.length ac)) rfl rfl ?c1 ?c2 ?c3 ?c4 ?c5 ?_)
      case c1 => intro j u hj; rw [Addr.add_mid, Nat.zero_add]; exact cell_new' rfl (by simpa [Nd.cells] using hj)
      case c2 => exact HONE.out
      case c3 => unfold maxLen; omega
      case c4 => omega
      case c5 => simp; omega
      intro v' w3 hown hgrow _
      have hB3 : Below w.heap.size w w3 := (hB2'.alloc hw2 _).grown hgrow (by simp; omega) (fun q hq => (owns_block HROW.out q hq).1)
      have hst : A.ns.take (k + 1) = A.ns.take k ++ [n] := by
        rw [List.take_succ_eq_append_getElem hlt]
        have := (List.getElem?_eq_some_iff.1 HG.out).2
        rw [this]
      have hfin : NodesR w3 w.heap.size v' (A.ns.take (k + 1)) := by
        rw [hst]
        refine NodesR.snoc (w := w2.alloc (.cells (n.cells (.slice ka n.kids.length kc) (.slice aa n.attrs.length ac)).toArray 46)) HR.out.1 (by rw [hkl]; exact HROW.out.alloc _) (fun i m hm => ?_) (HO.out.1.alloc _) (HO.out.2.alloc _) hgrow (by rw [hkl]; exact hown)
        obtain ⟨kv1, av1, g1, g2, g3⟩ := HR.out.2 i m hm
        exact ⟨kv1, av1, g1, (owns_below g2 hB2).alloc _, (owns_below g3 hB2).alloc _⟩
      have HFIN := Lib.hid hfin
      clear hown hgrow hst hfin
      go_wp2
      go_roundw
      case rel => exact ⟨k + 1, hlt, by go_num, HFIN, hB3⟩
      case measure => simp [intOf]; omega
    · have hkl : A.ns.take k = A.ns := List.take_of_length_le (by omega)
      have hfin := hT.out
      rw [hkl] at hfin
      obtain ⟨fa, fc, hfe⟩ := ownsForm hfin.choose_spec.1
      have HF := Lib.hid (And.intro hfin hfe)
      clear hfin hfe hT
      go_wp2
      go_ret
      obtain ⟨g1, g2⟩ := HF.out
      subst g2
      exact ⟨hB, fa, fc, rfl, g1⟩

end Go.Proofs.YtpicinjcmjaogaaGreat

/- What the frames of the laws share: an operation, a list of attributes that came in. -/
namespace Go.Proofs.YtpicinjcmjaogaaGreat
open Go.ChangeShapes Go.WideShapes Go.ChangeAt Go.RowKit Go.Deep
set_option linter.unusedVariables false

/-- A struct of one-cell fields, opened. -/
theorem open_fields {H : Type} {P : Program} {enc : TypeId × Value → H} {w : World} {base : Nat} {spare : Nat → Bool} {held : Bool} {e : TypeId} {fs : Array Field} {fuel : Nat} {cs : List Value} {x : DataW H × List MemPlace} (he : P.underlying e = some (.struct fs))
    (hone : oneCellFields P fs = true) (hC : cs.length = fs.size) (h : DataW.trod enc P w base spare held fuel e cs = some x) :
    ∃ (ys : List (DataW H × List MemPlace)) (n : Nat),
        ∀ (j : Nat) (f : Field), fs[j]? = some f → ∃ (v : Value) (y : DataW H × List MemPlace), cs[j]? = some v ∧ ys[j]? = some y ∧ DataW.trod enc P w base spare held n f.type [v] = some y := by
  obtain ⟨ys, n', hn', hy, hlen, hyl, hf⟩ := DataW.trod_struct he h
  refine ⟨ys, n', fun j f hj => ?_⟩
  obtain ⟨ho, hk⟩ := hone_of hone j f hj
  have hjl : j < fs.size := (Array.getElem?_eq_some_iff.1 hj).1
  have hv : cs[j]? = some (cs[j]'(by omega)) := List.getElem?_eq_getElem (by omega)
  have h1 := hf j f hj
  rw [ho, hk] at h1
  have hone' : (cs.drop j).take 1 = [cs[j]'(by omega)] := by
    rw [List.drop_eq_getElem_cons (by omega)]
    rfl
  rw [hone'] at h1
  have hys : ys[j]? = some (ys[j]'(by omega)) := List.getElem?_eq_getElem (by omega)
  exact ⟨_, _, hv, hys, h1.trans hys⟩

set_option maxRecDepth 100000 in
/-- An operation that came in. -/
theorem arg_op {H : Type} {enc : TypeId × Value → H} {W : World} {base : Nat} {spare : Nat → Bool} {held : Bool} {v : Value} {d : DataW H} {p : List MemPlace} {r : Reach} {b0 : Nat}
    (hv : Value.okWide Tryz.prog W r b0 92 v) (h : DataW.Trod enc Tryz.prog W base spare held 92 v d p) : ∃ x av, v = .agg (OpD.cells x av).toArray ∧ RAttrs W av x.attrs := by
  obtain ⟨cs, rfl, hs⟩ := okWide_struct Tryz.underlying92 hv
  obtain ⟨fuel, hf⟩ := h
  simp only [Value.cells] at hf
  have h10 : cs.size = 10 := hs
  obtain ⟨ys, n, hf⟩ := open_fields Tryz.underlying92 (by kernel_rfl) (by simpa using h10) hf
  obtain ⟨v0, y0, c0, -, t0⟩ := hf 0 _ rfl
  obtain ⟨v1, y1, c1, -, t1⟩ := hf 1 _ rfl
  obtain ⟨v2, y2, c2, -, t2⟩ := hf 2 _ rfl
  obtain ⟨v3, y3, c3, -, t3⟩ := hf 3 _ rfl
  obtain ⟨v4, y4, c4, -, t4⟩ := hf 4 _ rfl
  obtain ⟨v5, y5, c5, -, t5⟩ := hf 5 _ rfl
  obtain ⟨v6, y6, c6, -, t6⟩ := hf 6 _ rfl
  obtain ⟨v7, y7, c7, -, t7⟩ := hf 7 _ rfl
  obtain ⟨v8, y8, c8, -, t8⟩ := hf 8 _ rfl
  obtain ⟨v9, y9, c9, -, t9⟩ := hf 9 _ rfl
  obtain ⟨x0, e0, -⟩ := DataW.trod_int Tryz.underlying3 t0
  obtain ⟨x1, e1, -⟩ := DataW.trod_int Tryz.underlying3 t1
  obtain ⟨x2, e2, -⟩ := DataW.trod_int Tryz.underlying3 t2
  obtain ⟨x3, e3, -⟩ := DataW.trod_int Tryz.underlying3 t3
  obtain ⟨x4, e4, -⟩ := DataW.trod_bool Tryz.underlying4 t4
  obtain ⟨x5, e5, -⟩ := DataW.trod_int Tryz.underlying34 t5
  obtain ⟨x6, e6, -⟩ := DataW.trod_string Tryz.underlying9 t6
  obtain ⟨x7, e7, -⟩ := DataW.trod_string Tryz.underlying9 t7
  obtain ⟨x8, e8, -⟩ := DataW.trod_string Tryz.underlying9 t8
  obtain ⟨l, hl⟩ := open_attrs t9
  simp at e0 e1 e2 e3 e4 e5 e6 e7 e8
  subst e0; subst e1; subst e2; subst e3; subst e4; subst e5; subst e6; subst e7; subst e8
  refine ⟨⟨x0, x1, x2, x3, x4, x5, x6, x7, x8, l⟩, v9, ?_, hl⟩
  congr 1
  apply Array.ext'
  show cs.toList = OpD.cells ⟨x0, x1, x2, x3, x4, x5, x6, x7, x8, l⟩ v9
  apply List.ext_getElem?
  intro j
  by_cases hj : j < 10
  · rcases (show j = 0 ∨ j = 1 ∨ j = 2 ∨ j = 3 ∨ j = 4 ∨ j = 5 ∨ j = 6 ∨ j = 7 ∨ j = 8 ∨ j = 9 by omega) with rfl | rfl | rfl | rfl | rfl | rfl | rfl | rfl | rfl | rfl <;> (simp only [OpD.cells]; first | exact c0 | exact c1 | exact c2 | exact c3 | exact c4 | exact c5 | exact c6 | exact c7 | exact c8 | exact c9)
  · rw [List.getElem?_eq_none (by simp; omega), List.getElem?_eq_none (by simp [OpD.cells]; omega)]

set_option maxRecDepth 100000 in
/-- A list of attributes that came in. -/
theorem arg_attrs {H : Type} {enc : TypeId × Value → H} {W : World} {base : Nat} {spare : Nat → Bool} {held : Bool} {v : Value} {d : DataW H} {p : List MemPlace} {r : Reach} {b0 : Nat}
    (hv : Value.okWide Tryz.prog W r b0 44 v) (h : DataW.Trod enc Tryz.prog W base spare held 44 v d p) : ∃ l, RAttrs W v l := by
  obtain ⟨a, len, cap, rfl⟩ := okWide_slice Tryz.underlying44 hv
  obtain ⟨fuel, hf⟩ := h
  simp only [Value.cells] at hf
  exact open_attrs (fuel := fuel) (x := (d, p)) hf

end Go.Proofs.YtpicinjcmjaogaaGreat
