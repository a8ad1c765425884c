/-
  Contracts of the program's arena: Nodes.
-/
import Derived.Test.YtnfdcfagdidmhaaGreatDoorC0
import Derived.Test.YtnfdcfagdidmhaaGreatDoorM1
namespace Go.Proofs.YtnfdcfagdidmhaaGreatDoor
open Go.RowKit
set_option linter.unusedVariables false

/-- Rows of different element types lie in different blocks. -/
theorem owns_apart {w : World} {b b' : Nat} {e e' : TypeId} {s s' : Nat} {v v' : Value} {n n' : Nat} {xs xs' : List Value} (h : w.ownsRow b e s v n xs) (h' : w.ownsRow b' e' s' v' n' xs') (hne : e ≠ e') : ∀ k, v.ownBlock = some k → v'.ownBlock ≠ some k := by
  intro k hk hk'
  rcases h.2 with ⟨rfl, _⟩ | ⟨g, cap, cur, rfl, _, hg, _⟩
  · simp [Value.ownBlock] at hk
  · rcases h'.2 with ⟨rfl, _⟩ | ⟨g', cap', cur', rfl, _, hg', _⟩
    · simp [Value.ownBlock] at hk'
    · simp [Value.ownBlock] at hk hk'
      subst hk; subst hk'
      rw [hg] at hg'
      simp at hg'
      exact hne hg'.2

/-- A list of descriptions in new memory, with the rows of their lists. -/
def NodesR (w : World) (base : Nat) (v : Value) (ns : List Nd) : Prop :=
  ∃ rows : List (List Value), w.ownsRow base 56 13 v ns.length rows.flatten ∧ rows.length = ns.length ∧ ∀ (i : Nat) (n : Nd), ns[i]? = some n → ∃ kv av, rows[i]? = some (n.cells kv av) ∧ w.ownsRow base 3 1 kv n.kids.length (n.kids.map intv) ∧ w.ownsRow base 123 3 av n.attrs.length (n.attrs.flatMap attrCells)

theorem NodesR.nil (w : World) (base : Nat) : NodesR w base (.slice none 0 0) [] := ⟨[], World.ownsRow_nil _ _ _ _, rfl, fun i n h => by simp at h⟩

/-- One more. -/
theorem NodesR.snoc {w w' : World} {base : Nat} {v v' kv av : Value} {ns : List Nd} {n : Nd} {rows : List (List Value)} (hl : rows.length = ns.length) (hv : w.ownsRow base 56 13 v ns.length rows.flatten)
    (hN : ∀ (i : Nat) (n : Nd), ns[i]? = some n → ∃ kv av, rows[i]? = some (n.cells kv av) ∧ w.ownsRow base 3 1 kv n.kids.length (n.kids.map intv) ∧ w.ownsRow base 123 3 av n.attrs.length (n.attrs.flatMap attrCells))
    (hk : w.ownsRow base 3 1 kv n.kids.length (n.kids.map intv)) (ha : w.ownsRow base 123 3 av n.attrs.length (n.attrs.flatMap attrCells))
    (hg : w.grownBy w' v.ownBlock) (ho : w'.ownsRow base 56 13 v' (ns.length + 1) (rows.flatten ++ n.cells kv av)) : NodesR w' base v' (ns ++ [n]) := by
  have hU : Upd (fun k => v.ownBlock = some k) w w' := Upd.grown hg (fun k hk => hk)
  have keep : ∀ {e : TypeId} {s : Nat} {x : Value} {m : Nat} {xs : List Value}, w.ownsRow base e s x m xs → e ≠ 56 → w'.ownsRow base e s x m xs := fun h hne =>
    owns_upd h hU (fun k hk hf => owns_apart h hv hne k hk hf)
  refine ⟨rows ++ [n.cells kv av], by simpa [List.flatten_append] using ho, by simp [hl], fun i m hm => ?_⟩
  rw [List.getElem?_append] at hm
  split at hm
  · rename_i hi
    obtain ⟨kv', av', h1, h2, h3⟩ := hN i m hm
    exact ⟨kv', av', by rw [List.getElem?_append_left (by omega)]; exact h1, keep h2 (by decide), keep h3 (by decide)⟩
  · rename_i hi
    have hi' : i = ns.length := by have := (List.getElem?_eq_some_iff.1 hm).1; simp at this; omega
    subst hi'
    simp at hm
    subst hm
    exact ⟨kv, av, by rw [← hl]; simp, keep hk (by decide), keep ha (by decide)⟩

theorem infoANode : (Tryz.prog.info? 56).map (fun i => (i.zero, i.size, i.bytes)) = some (some (.agg #[.int .i64 0, .int .i64 0, .slice none 0 0, .int .i64 0, .int .i64 0, .string ByteArray.empty, .slice none 0 0, .string ByteArray.empty, .string ByteArray.empty, .string ByteArray.empty, .bool false, .int .i64 0, .int .i64 0]), 13, 168) := by kernel_rfl

theorem NodesR.below {w w' : World} {base : Nat} {v : Value} {ns : List Nd} (h : NodesR w base v ns) (hb : Below w.heap.size w w') : NodesR w' base v ns := by
  obtain ⟨rows, h1, h2, h3⟩ := h
  refine ⟨rows, owns_below h1 hb, h2, fun i n hn => ?_⟩
  obtain ⟨kv, av, h4, h5, h6⟩ := h3 i n hn
  exact ⟨kv, av, h4, owns_below h5 hb, owns_below h6 hb⟩

set_option maxRecDepth 100000 in
set_option maxHeartbeats 2000000 in
theorem Nodes_any (A : Ar) (ρ : Nat → Nat) (b : Nat) (w : World) (hA : AMem w ρ b A) (hS : A.Short) :
    Calls Tryz.prog 14 #[.pointer (some ⟨b, 0, none⟩)] w fun e w' => Below w.heap.size w w' ∧ ∃ a c, e = .returned (.slice a A.ns.length c) ∧ NodesR w' w.heap.size (.slice a A.ns.length c) A.ns := by
  obtain ⟨i0, hi, hz0, hz1, hz2⟩ := info_parts infoANode
  obtain ⟨a, c, mv, h0, -, hf, hlt, hm, hN⟩ := hA.head
  have HI := Lib.hid hi
  have HS := Lib.hid hS
  have hsm := hS.1
  clear hi hS
  have HN := Lib.hid hN
  clear hN
  go_enter Tryz.func14, Tryz.ntmps14
  go_wp2
  go_loopw [3, 12] (fun out i wr => ∃ k : Nat, k ≤ A.ns.length ∧ i = .int .i64 k ∧ Hid (NodesR wr w.heap.size out (A.ns.take k)) ∧ Below w.heap.size w wr) (fun _ i _ => A.ns.length - (intOf i).toNat)
  case atStart => exact ⟨0, Nat.zero_le _, rfl, NodesR.nil _ _, Below.refl _ _⟩
  case round =>
    obtain ⟨k, hk, rfl, hT, hB⟩ := hrel
    by_cases hlt : k < A.ns.length
    · obtain ⟨nb, rfl, hr, hnb, hfn, hNx⟩ := HN.out (by omega)
      have hx : A.has ((k : Int) + 1) := ⟨by omega, by unfold Ar.n; omega⟩
      have hkk : ((k : Int) + 1).toNat - 1 = k := by omega
      obtain ⟨kv, av, F, hK, hAt⟩ := hNx _ hx
      rw [hkk] at F
      have hgn := Ar.get_some hx
      rw [hkk] at hgn
      have HG := Lib.hid hgn
      have hsh := HS.out.get hx
      have c0 := Below.old hB h0
      have HD := Lib.hid (describe_any nb (k * 13) (A.get ((k : Int) + 1)) kv av wr (F.below hB) (RInts.below hK.reads hB) (RAttrs.below hAt.reads hB) hsh.1 hsh.2)
      clear F hNx hfn hK hAt hgn hkk hx hsh
      generalize A.get ((k : Int) + 1) = n at *
      obtain ⟨rows, r1, r2, r3⟩ := hT.out
      have hkl : (A.ns.take k).length = k := by simp; omega
      go_wp2_with fail
      refine HD.out.mono ?_
      rintro e w2 ⟨hB2, kv', av', rfl, ho1, ho2⟩
      obtain ⟨ka, kc, rfl⟩ := ownsForm ho1
      obtain ⟨aa, ac, rfl⟩ := ownsForm ho2
      have hwr : w.heap.size ≤ wr.heap.size := hB.size
      have hB2' : Below w.heap.size w w2 := hB.trans (hB2.mono hwr)
      have hw2 : w.heap.size ≤ w2.heap.size := hB2'.size
      have hrows := owns_below r1 hB2
      rw [hkl] at hrows
      have HR := Lib.hid (And.intro r2 r3)
      have hone := cellsOneCell n (.slice ka n.kids.length kc) (.slice aa n.attrs.length ac) rfl rfl
      have HO := Lib.hid (And.intro (owns_base ho1 hwr) (owns_base ho2 hwr))
      have HONE := Lib.hid hone
      have HROW := Lib.hid hrows
      clear r1 r2 r3 ho1 ho2 hone hrows hT
      unfold Nd.cells
      go_wp2_with (at_builtin; refine wpList_append_own _ rfl _ _ 33 rfl w.heap.size 56 i0 _ 13 168 Tryz.underlying33 HI.out hz0 hz1 hz2 rfl (by decide) _ k rows.flatten rfl (HROW.out.alloc _) ⟨w2.heap.size, 0, none⟩ 1 1 (n.cells (.slice ka n.kids.length kc) (.slice aa n.attrs.length ac)) rfl rfl ?c1 ?c2 ?c3 ?c4 ?c5 ?_)
      case c1 => intro j u hj; rw [Addr.add_mid, Nat.zero_add]; exact cell_new' rfl (by simpa [Nd.cells] using hj)
      case c2 => exact HONE.out
      case c3 => unfold maxLen; omega
      case c4 => omega
      case c5 => simp; omega
      intro v' w3 hown hgrow _
      have hB3 : Below w.heap.size w w3 := (hB2'.alloc hw2 _).grown hgrow (by simp; omega) (fun q hq => (owns_block HROW.out q hq).1)
      have hst : A.ns.take (k + 1) = A.ns.take k ++ [n] := by
        rw [List.take_succ_eq_append_getElem hlt]
        have := (List.getElem?_eq_some_iff.1 HG.out).2
        rw [this]
      have hfin : NodesR w3 w.heap.size v' (A.ns.take (k + 1)) := by
        rw [hst]
        refine NodesR.snoc (w := w2.alloc (.cells (n.cells (.slice ka n.kids.length kc) (.slice aa n.attrs.length ac)).toArray 56)) HR.out.1 (by rw [hkl]; exact HROW.out.alloc _) (fun i m hm => ?_) (HO.out.1.alloc _) (HO.out.2.alloc _) hgrow (by rw [hkl]; exact hown)
        obtain ⟨kv1, av1, g1, g2, g3⟩ := HR.out.2 i m hm
        exact ⟨kv1, av1, g1, (owns_below g2 hB2).alloc _, (owns_below g3 hB2).alloc _⟩
      have HFIN := Lib.hid hfin
      clear hown hgrow hst hfin
      go_wp2
      go_roundw
      case rel => exact ⟨k + 1, hlt, by go_num, HFIN, hB3⟩
      case measure => simp [intOf]; omega
    · have hkl : A.ns.take k = A.ns := List.take_of_length_le (by omega)
      have hfin := hT.out
      rw [hkl] at hfin
      obtain ⟨fa, fc, hfe⟩ := ownsForm hfin.choose_spec.1
      have HF := Lib.hid (And.intro hfin hfe)
      clear hfin hfe hT
      go_wp2
      go_ret
      obtain ⟨g1, g2⟩ := HF.out
      subst g2
      exact ⟨hB, fa, fc, rfl, g1⟩

end Go.Proofs.YtnfdcfagdidmhaaGreatDoor
