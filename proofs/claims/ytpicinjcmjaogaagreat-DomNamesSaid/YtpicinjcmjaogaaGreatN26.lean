/-
  Parts: D12.
-/
import Derived.Test.YtpicinjcmjaogaaGreatN25

/- Contracts of dom: attribute, Attribute, CreateElement. (Printed by gend12.py.) -/
namespace Go.Proofs.YtpicinjcmjaogaaGreat
open Go.RowKit Go.Shelf
set_option linter.unusedVariables false

attribute [local go_sem] Oper.semAt_some

/-- A slice of attributes that owns its row. -/
abbrev Asrt.atts (v : Value) (l : List AttrD) : Asrt := .row 132 3 v l.length (l.flatMap attrCells)
theorem atts_reads {w : World} {b : Nat} {v : Value} {l : List AttrD} (h : w.ownsRow b 132 3 v l.length (l.flatMap attrCells)) : RAttrs w v l := by
  have h' : ROwn w (fun k => if v.ownBlock = some k then 1 else 0) 1 132 3 v l.length (l.flatMap attrCells) := by
    refine ⟨⟨h.1, ?_⟩, fun g hg => by simp [hg]⟩
    rcases h.2 with h2 | ⟨g, cap, cur, h3, _, h4⟩
    · exact .inl h2
    · exact .inr ⟨g, cap, cur, h3, Nat.zero_le _, h4⟩
  exact h'.reads
theorem Own.atts {w0 w : World} {B : Nat} {v : Value} {x : List AttrD} {l : List Asrt} (h : Own w0 B l w) (hm : Asrt.atts v x ∈ l) : RAttrs w v x := atts_reads (h.row hm)
theorem Own.noAtts {w0 w : World} {B : Nat} {l : List Asrt} (h : Own w0 B l w) : Own w0 B (.atts (.slice none 0 0) [] :: l) w :=
  h.fresh (Below.refl _ _) ⟨fun _ => False, ⟨World.ownsRow_nil _ 0 132 3, fun k => ⟨fun h => h.elim, fun h => by simp [Value.ownBlock] at h⟩⟩, fun k hk => hk.elim⟩

/-- A description whose attributes are the caller's. -/
theorem NodeA_own {w0 w : World} {B b : Nat} {A : Ar} {l : List Asrt} {h : Int} {n : Nd} (o : Own w0 B l w) (hm : Asrt.arena b A ∈ l) (hS : A.Short) (hh : A.has h) (hn : A.get h = n) :
    Calls Tryz.prog 34 #[.pointer (some ⟨b, 0, none⟩), .int .i64 h] w fun e w' => ∃ ka kl kc aa ac, e = .returned (.tuple #[.agg (n.cells (.slice ka kl kc) (.slice aa n.attrs.length ac)).toArray, .int .i64 0]) ∧ Own w0 B (.atts (.slice aa n.attrs.length ac) n.attrs :: l) w' := by
  subst hn
  obtain ⟨ρ, hA⟩ := o.arena hm
  refine (Node_any A ρ b h w hA hS).mono ?_
  rintro e w' ⟨hB, kv, av, rfl, h1, h2⟩
  rw [if_pos hh] at h1 h2 ⊢
  rw [if_pos hh]
  obtain ⟨ka, kc, rfl⟩ := ownsForm h1
  obtain ⟨aa, ac, rfl⟩ := ownsForm h2
  exact ⟨ka, _, kc, aa, ac, rfl, o.newRow hB h2⟩

theorem attrIs_any (sb nb : Nat) (s : Int) (nm : ByteArray) (y : AttrD) (w : World) (h0 : w.cell? ⟨sb, 0, none⟩ = some (.int .i64 s)) (h1 : w.cell? ⟨nb, 0, none⟩ = some (.string nm)) :
    Calls Tryz.prog 174 #[attrV y, .pointer (some ⟨sb, 0, none⟩), .pointer (some ⟨nb, 0, none⟩)] w fun e w' => e = .returned (.bool (attrIs s nm y)) ∧ Below w.heap.size w w' := by
  obtain ⟨ys, yn, yv⟩ := y
  have hlt := World.block_lt_of_cell? w _ h0
  have hlt1 := World.block_lt_of_cell? w _ h1
  unfold attrV
  by_cases e1 : ys = s
  · have he : (ys == s) = true := by simp [e1]
    have hfin : attrIs s nm (ys, yn, yv) = (yn.toList == nm.toList) := by rw [str_beq]; simp [attrIs, e1]
    have Hfin := Lib.hid hfin
    clear hfin e1
    go_enter Tryz.func174, Tryz.ntmps174
    go_wp2
    go_ret
    exact ⟨ret_bool Hfin.out.symm, below_alloc _ _⟩
  · have he : (ys == s) = false := by simp [e1]
    have hfin : attrIs s nm (ys, yn, yv) = false := by simp [attrIs, e1]
    have Hfin := Lib.hid hfin
    clear hfin e1
    go_enter Tryz.func174, Tryz.ntmps174
    go_wp2
    go_ret
    exact ⟨ret_bool Hfin.out.symm, below_alloc _ _⟩

set_option maxHeartbeats 400000 in
theorem IndexAttr_any (v : Value) (l : List AttrD) (sb nb : Nat) (s : Int) (nm : ByteArray) (w : World) (hv : RAttrs w v l) (h0 : w.cell? ⟨sb, 0, none⟩ = some (.int .i64 s)) (h1 : w.cell? ⟨nb, 0, none⟩ = some (.string nm)) :
    Calls Tryz.prog 173 #[v, .func (.func 174) #[] #[.pointer (some ⟨sb, 0, none⟩), .pointer (some ⟨nb, 0, none⟩)]] w fun e w' => e = .returned (.int .i64 (findI (attrIs s nm) l)) ∧ Below w.heap.size w w' := by
  obtain ⟨av, cv, rfl, hc1, hc2, hc3⟩ := hv.form
  go_enter Tryz.func173, Tryz.ntmps173
  go_wp2
  go_loopw [8] (fun i wr => ∃ k : Nat, k ≤ l.length ∧ i = .int .i64 k ∧ Hid (∀ j y, j < k → l[j]? = some y → attrIs s nm y = false) ∧ Below w.heap.size w wr) (fun i _ => l.length - (intOf i).toNat)
  case atStart => exact ⟨0, Nat.zero_le _, rfl, fun j y hj => by omega, Below.refl _ _⟩
  case round =>
    obtain ⟨k, hk, rfl, hT, hB⟩ := hrel
    by_cases hlt : k < l.length
    · obtain ⟨b1, o1, rfl, hcs⟩ := hc3 (by omega)
      obtain ⟨y, hy⟩ : ∃ y, l[k]? = some y := ⟨_, List.getElem?_eq_getElem hlt⟩
      obtain ⟨d0, d1, d2⟩ := hcs k y hy
      have d0 := Below.old hB d0
      have d1 := Below.old hB d1
      have d2 := Below.old hB d2
      have g0 := Below.old hB h0
      have g1 := Below.old hB h1
      have HY := Lib.hid hy
      clear hc3 hcs hy
      cases hp : attrIs s nm y with
      | true =>
        have HP := Lib.hid hp
        clear hp
        go_wp2_with fail
        refine (attrIs_any sb nb s nm y _ g0 g1).mono ?_
        rintro e w1 ⟨rfl, hB1⟩
        rw [HP.out]
        go_wp2
        go_ret
        exact ⟨ret_int (findI_hit HY.out HP.out hT.out).symm, Below.from0 hB hB1⟩
      | false =>
        have HP := Lib.hid hp
        clear hp
        go_wp2_with fail
        refine (attrIs_any sb nb s nm y _ g0 g1).mono ?_
        rintro e w1 ⟨rfl, hB1⟩
        rw [HP.out]
        go_wp2
        go_roundw
        case rel => exact ⟨k + 1, hlt, by go_num, fun j z hj hz => by
          by_cases hjk : j < k
          · exact hT.out j z hjk hz
          · have hjk : j = k := by omega
            rw [hjk, HY.out] at hz; cases hz; exact HP.out, Below.from0 hB hB1⟩
        case measure => simp [intOf]; omega
    · go_wp2
      go_ret
      exact ⟨ret_int (findI_none (fun j y hj => hT.out j y (by have := (List.getElem?_eq_some_iff.1 hj).1; omega) hj)).symm, hB⟩

theorem results_tmp4 {fn : Func} {t u v x : Tmp} (h : fn.results = #[.tmp t, .tmp u, .tmp v, .tmp x]) (tmps : Array Value) (P : Program) (w : World) :
    (results fn tmps).run P w = .ok (.tuple #[tmps.getD t undef, tmps.getD u undef, tmps.getD v undef, tmps.getD x undef]) w := by
  simp [results, h]

/-- What the call for an attribute gives. -/
def Ar.attrRes (A : Ar) (el s : Int) (name : ByteArray) : List AttrD × Int × ByteArray × Int :=
  if A.attrErr el s ≠ 0 then ([], -1, ByteArray.empty, A.attrErr el s) else ((A.get el).attrs, A.attrAt el s name, A.attrName el s name, 0)

set_option maxRecDepth 100000 in
set_option maxHeartbeats 2000000 in
theorem attribute_own {w0 w : World} {B b : Nat} {A : Ar} {L : List Asrt} {el s : Int} {name : ByteArray} (o : Own w0 B L w) (hm : Asrt.arena b A ∈ L) (hS : A.Short) (hs : name.size ≤ 1000000) :
    Calls Tryz.prog 108 #[.pointer (some ⟨b, 0, none⟩), .int .i64 el, .int .i64 s, .string name] w fun e w' => ∃ aa ac, e = .returned (.tuple #[.slice aa (A.attrRes el s name).1.length ac, .int .i64 (A.attrRes el s name).2.1, .string (A.attrRes el s name).2.2.1, .int .i64 (A.attrRes el s name).2.2.2]) ∧
      Own w0 B (.atts (.slice aa (A.attrRes el s name).1.length ac) (A.attrRes el s name).1 :: L) w' := by
  have o1 := (o.alloc (.cells #[.int .i64 s] 34)).alloc (.cells #[.string name] 9)
  have hz : (w.alloc (.cells #[.int .i64 s] 34)).heap.size = w.heap.size + 1 := by simp
  rw [hz] at o1
  have HM := Lib.hid hm
  have HS := Lib.hid hS
  obtain ⟨LL, hLL⟩ : ∃ LL, LL = Asrt.box (w.heap.size + 1) (.cells #[.string name] 9 (0, 0)) :: .box w.heap.size (.cells #[.int .i64 s] 34 (0, 0)) :: L := ⟨_, rfl⟩
  rw [← hLL] at o1
  have HLL : Hid (Asrt.arena b A ∈ LL) := Lib.hid (by rw [hLL]; simp [hm])
  have HO1 := Lib.hid o1
  have HLE := Lib.hid hLL
  clear o o1 hm hS hz hLL
  by_cases hh : A.has el
  · have HC := Lib.hid (fun W k (hk : W.heap.size = k) (q : Own w0 B LL W) => (by subst hk; exact Check1_own (opt := -1) (x := el) q (b := b) (A := A) HLL.out HS.out (chk1n.trans (if_pos hh)) : Calls Tryz.prog 89 #[.pointer (some ⟨b, 0, none⟩), .int .i64 (-1), .slice (some ⟨k, 0, none⟩) 1 1] (W.alloc (.cells #[.int .i64 el] 3)) fun e w' => e = .returned (.int .i64 0) ∧ Own w0 B LL w'))
    obtain ⟨nd, hnd⟩ : ∃ nd, A.get el = nd := ⟨_, rfl⟩
    have HN := Lib.hid (fun W (q : Own w0 B LL W) => NodeA_own (b := b) (A := A) q HLL.out HS.out hh hnd)
    have HE : Hid (A.attrErr el s = if nd.kind ≠ 4 then 9 else if ¬ inSpaces s then 2 else 0) := Lib.hid (by unfold Ar.attrErr; rw [if_neg (fun q => q hh), hnd])
    have HAT : Hid (A.attrErr el s = 0 → A.attrRes el s name = (nd.attrs, findI (attrIs s (A.attrName el s name)) nd.attrs, A.attrName el s name, 0)) := Lib.hid (fun h0 => by
      unfold Ar.attrRes Ar.attrAt; rw [if_neg (fun q => q h0), hnd])
    have HNM : Hid (A.attrName el s name = if nd.space = 1 ∧ s = 0 then lowerS name else name) := Lib.hid (by unfold Ar.attrName; rw [hnd])
    clear hh hnd HM HS
    by_cases hk : nd.kind = 4
    · have g1 : (nd.kind != 4) = false := by simp [hk]
      have HK := Lib.hid hk
      by_cases hsp : inSpaces s
      · have HE0 : Hid (A.attrErr el s = 0) := Lib.hid (by rw [HE.out, if_neg (fun q => q hk), if_neg (fun q => q hsp)])
        obtain ⟨s1, s2⟩ := hsp
        have HR := Lib.hid (HAT.out HE0.out)
        clear hk HE HAT HE0
        by_cases hlo : nd.space = 1 ∧ s = 0
        · have HNM2 : Hid (A.attrName el s name = lowerS name) := Lib.hid (HNM.out.trans (if_pos hlo))
          obtain ⟨hl1, hl2⟩ := hlo
          have g3 : (nd.space == 1) = true := by simp [hl1]
          have g4 : (s == 0) = true := by simp [hl2]
          clear hl1 hl2 HNM
          generalize A.attrName el s name = nm at *
          have HLO := Lib.hid (fun W => Lower_any name W hs)
          go_enter Tryz.func108, Tryz.ntmps108
          go_wp2_with fail
          refine (HC.out _ _ (by simp) HO1.out).mono ?_
          rintro e w1 ⟨rfl, o1⟩
          generalize w.heap.size = gs at *
          have HN1 := Lib.hid (HN.out _ o1)
          clear HC HN o1 HO1
          go_wp2_with fail
          refine HN1.out.mono ?_
          rintro e w2 ⟨ka, kl, kc, aa, ac, rfl, o2⟩
          clear HN1
          have HT := Lib.hid (nodeBox_facts (w := w2) nd ka kc aa ac kl nd.attrs.length)
          have o5 := o2.nodeBox nd (.slice ka kl kc) (.slice aa nd.attrs.length ac)
          go_wp2_with ((with_reducible refine wpList_store_mid ?_ 46 (.tmp 13) (.tmp 27) ?_ w2.heap.size 0 (nd.cells (.slice ka kl kc) (.slice aa nd.attrs.length ac)).toArray ?_ ?_ ?_ ?_ ?_ ?_); exact rfl; exact rfl; exact rfl; exact rfl; exact HT.out.1; exact sizeNode _ _ _; exact all_oneCell_toArray HT.out.2; clear HT; generalize hw5 : World.setCells _ _ _ _ = w5 at o5 ⊢; generalize hg5 : w2.heap.size = g5 at o5 ⊢; clear hw5 hg5; rw [HLE.out] at o5; have q0 : w5.cell? ⟨g5, 0, none⟩ = some (.int .i64 nd.kind) := (cell_of_row w5 _ _ _ _ _ (o5.box (g := g5) (o := .cells (nd.cells (.slice ka kl kc) (.slice aa nd.attrs.length ac)).toArray 46 (0, 0)) (by simp))).trans rfl; have q4 : w5.cell? ⟨g5, 4, none⟩ = some (.int .i64 nd.space) := (cell_of_row w5 _ _ _ _ _ (o5.box (g := g5) (o := .cells (nd.cells (.slice ka kl kc) (.slice aa nd.attrs.length ac)).toArray 46 (0, 0)) (by simp))).trans rfl; have bs : w5.cell? ⟨gs, 0, none⟩ = some (.int .i64 s) := box_cell (o5.box (g := gs) (o := .cells #[.int .i64 s] 34 (0, 0)) (by simp)); have bn : w5.cell? ⟨gs + 1, 0, none⟩ = some (.string name) := box_cell (o5.box (g := gs + 1) (o := .cells #[.string name] 9 (0, 0)) (by simp)); have bf : w5.frozen? ⟨gs + 1, 0, none⟩ = false := frozen_of_row w5 _ _ _ _ (o5.box (g := gs + 1) (o := .cells #[.string name] 9 (0, 0)) (by simp)))
          have HO5 := Lib.hid o5
          clear o5
          go_wp2_with fail
          refine (HLO.out _).mono ?_
          rintro e w6 ⟨rfl, hB6⟩
          have o6 := HO5.out.read hB6
          clear HO5 hB6 HLO q0 q4 bs bn bf
          have bf : w6.frozen? ⟨gs + 1, 0, none⟩ = false := frozen_of_row w6 _ _ _ _ (o6.box (g := gs + 1) (o := .cells #[.string name] 9 (0, 0)) (by simp))
          have bn : w6.cell? ⟨gs + 1, 0, none⟩ = some (.string name) := box_cell (o6.box (g := gs + 1) (o := .cells #[.string name] 9 (0, 0)) (by simp))
          have o7 := (((o6.rot3).set1 (u := .string (lowerS name))))
          generalize hw7 : w6.setCell ⟨gs + 1, 0, none⟩ (.string (lowerS name)) = w7 at o7
          have HW7 := Lib.hid hw7
          rw [← HNM2.out] at o7
          have q6 : w7.cell? ⟨g5, 6, none⟩ = some (.slice aa nd.attrs.length ac) := (cell_of_row w7 _ _ _ _ _ (o7.box (g := g5) (o := (.cells (nd.cells (.slice ka kl kc) (.slice aa nd.attrs.length ac)).toArray 46 (0, 0))) (by simp))).trans rfl
          have bs : w7.cell? ⟨gs, 0, none⟩ = some (.int .i64 s) := box_cell (o7.box (g := gs) (o := .cells #[.int .i64 s] 34 (0, 0)) (by simp))
          have bn7 : w7.cell? ⟨gs + 1, 0, none⟩ = some (.string nm) := box_cell (o7.box (g := gs + 1) (o := .cells #[.string nm] 9 (0, 0)) (by simp))
          have HIX := Lib.hid (IndexAttr_any (.slice aa nd.attrs.length ac) nd.attrs gs (gs + 1) s nm w7 (o7.atts (v := .slice aa nd.attrs.length ac) (x := nd.attrs) (by simp)) bs bn7)
          have HO7 := Lib.hid o7
          clear o6 o7
          go_wp2_with fail
          refine HIX.out.mono ?_
          rintro e w8 ⟨rfl, hB8⟩
          have o8 := HO7.out.read hB8
          clear HIX hB8 HO7 q6 bs bn bf bn7 hw7 HW7
          have q6 : w8.cell? ⟨g5, 6, none⟩ = some (.slice aa nd.attrs.length ac) := (cell_of_row w8 _ _ _ _ _ (o8.box (g := g5) (o := (.cells (nd.cells (.slice ka kl kc) (.slice aa nd.attrs.length ac)).toArray 46 (0, 0))) (by simp))).trans rfl
          have bn8 : w8.cell? ⟨gs + 1, 0, none⟩ = some (.string nm) := box_cell (o8.box (g := gs + 1) (o := .cells #[.string nm] 9 (0, 0)) (by simp))
          have HO8 := Lib.hid o8
          clear o8
          go_wp2_with (go_quiet (fail))
          refine bodyPost_ret (results_tmp4 rfl _ _ _) rfl ?_
          rw [HR.out]
          exact ⟨aa, ac, rfl, (HO8.out.read (Below.drewN (Below.refl _ _) _)).drop.drop.swap.drop⟩
        · have HNM2 : Hid (A.attrName el s name = name) := Lib.hid (HNM.out.trans (if_neg hlo))
          have HR2 := HR.out
          rw [HNM2.out] at HR2
          have HR := Lib.hid HR2
          clear HR2 HNM HNM2
          by_cases hl1 : nd.space = 1
          · have g3 : (nd.space == 1) = true := by simp [hl1]
            have g4 : (s == 0) = false := by simp; exact fun q => hlo ⟨hl1, q⟩
            clear hl1 hlo
            obtain ⟨nm, hnm⟩ : ∃ nm, name = nm := ⟨_, rfl⟩
            subst hnm
            go_enter Tryz.func108, Tryz.ntmps108
            go_wp2_with fail
            refine (HC.out _ _ (by simp) HO1.out).mono ?_
            rintro e w1 ⟨rfl, o1⟩
            generalize w.heap.size = gs at *
            have HN1 := Lib.hid (HN.out _ o1)
            clear HC HN o1 HO1
            go_wp2_with fail
            refine HN1.out.mono ?_
            rintro e w2 ⟨ka, kl, kc, aa, ac, rfl, o2⟩
            clear HN1
            have HT := Lib.hid (nodeBox_facts (w := w2) nd ka kc aa ac kl nd.attrs.length)
            have o5 := o2.nodeBox nd (.slice ka kl kc) (.slice aa nd.attrs.length ac)
            go_wp2_with ((with_reducible refine wpList_store_mid ?_ 46 (.tmp 13) (.tmp 27) ?_ w2.heap.size 0 (nd.cells (.slice ka kl kc) (.slice aa nd.attrs.length ac)).toArray ?_ ?_ ?_ ?_ ?_ ?_); exact rfl; exact rfl; exact rfl; exact rfl; exact HT.out.1; exact sizeNode _ _ _; exact all_oneCell_toArray HT.out.2; clear HT; generalize hw5 : World.setCells _ _ _ _ = w5 at o5 ⊢; generalize hg5 : w2.heap.size = g5 at o5 ⊢; clear hw5 hg5; rw [HLE.out] at o5; have q0 : w5.cell? ⟨g5, 0, none⟩ = some (.int .i64 nd.kind) := (cell_of_row w5 _ _ _ _ _ (o5.box (g := g5) (o := .cells (nd.cells (.slice ka kl kc) (.slice aa nd.attrs.length ac)).toArray 46 (0, 0)) (by simp))).trans rfl; have q4 : w5.cell? ⟨g5, 4, none⟩ = some (.int .i64 nd.space) := (cell_of_row w5 _ _ _ _ _ (o5.box (g := g5) (o := .cells (nd.cells (.slice ka kl kc) (.slice aa nd.attrs.length ac)).toArray 46 (0, 0)) (by simp))).trans rfl; have q6 : w5.cell? ⟨g5, 6, none⟩ = some (.slice aa nd.attrs.length ac) := (cell_of_row w5 _ _ _ _ _ (o5.box (g := g5) (o := .cells (nd.cells (.slice ka kl kc) (.slice aa nd.attrs.length ac)).toArray 46 (0, 0)) (by simp))).trans rfl; have bs : w5.cell? ⟨gs, 0, none⟩ = some (.int .i64 s) := box_cell (o5.box (g := gs) (o := .cells #[.int .i64 s] 34 (0, 0)) (by simp)); have bn : w5.cell? ⟨gs + 1, 0, none⟩ = some (.string name) := box_cell (o5.box (g := gs + 1) (o := .cells #[.string name] 9 (0, 0)) (by simp)); have bf : w5.frozen? ⟨gs + 1, 0, none⟩ = false := frozen_of_row w5 _ _ _ _ (o5.box (g := gs + 1) (o := .cells #[.string name] 9 (0, 0)) (by simp)))
            have HIX := Lib.hid (IndexAttr_any (.slice aa nd.attrs.length ac) nd.attrs gs (gs + 1) s name w5 (o5.atts (v := .slice aa nd.attrs.length ac) (x := nd.attrs) (by simp)) bs bn)
            have HO5 := Lib.hid o5
            clear o5
            go_wp2_with fail
            refine HIX.out.mono ?_
            rintro e w8 ⟨rfl, hB8⟩
            have o8 := HO5.out.read hB8
            clear HIX hB8 HO5 q0 q4 q6 bs bn bf
            have q6 : w8.cell? ⟨g5, 6, none⟩ = some (.slice aa nd.attrs.length ac) := (cell_of_row w8 _ _ _ _ _ (o8.box (g := g5) (o := (.cells (nd.cells (.slice ka kl kc) (.slice aa nd.attrs.length ac)).toArray 46 (0, 0))) (by simp))).trans rfl
            have bn8 : w8.cell? ⟨gs + 1, 0, none⟩ = some (.string name) := box_cell (o8.box (g := gs + 1) (o := .cells #[.string name] 9 (0, 0)) (by simp))
            have HO8 := Lib.hid o8
            clear o8
            go_wp2_with (go_quiet (fail))
            refine bodyPost_ret (results_tmp4 rfl _ _ _) rfl ?_
            rw [HR.out]
            exact ⟨aa, ac, rfl, (HO8.out.read (Below.drewN (Below.refl _ _) _)).drop.swap.drop.swap.drop⟩
          · have g3 : (nd.space == 1) = false := by simp [hl1]
            clear hl1 hlo
            go_enter Tryz.func108, Tryz.ntmps108
            go_wp2_with fail
            refine (HC.out _ _ (by simp) HO1.out).mono ?_
            rintro e w1 ⟨rfl, o1⟩
            generalize w.heap.size = gs at *
            have HN1 := Lib.hid (HN.out _ o1)
            clear HC HN o1 HO1
            go_wp2_with fail
            refine HN1.out.mono ?_
            rintro e w2 ⟨ka, kl, kc, aa, ac, rfl, o2⟩
            clear HN1
            have HT := Lib.hid (nodeBox_facts (w := w2) nd ka kc aa ac kl nd.attrs.length)
            have o5 := o2.nodeBox nd (.slice ka kl kc) (.slice aa nd.attrs.length ac)
            go_wp2_with ((with_reducible refine wpList_store_mid ?_ 46 (.tmp 13) (.tmp 27) ?_ w2.heap.size 0 (nd.cells (.slice ka kl kc) (.slice aa nd.attrs.length ac)).toArray ?_ ?_ ?_ ?_ ?_ ?_); exact rfl; exact rfl; exact rfl; exact rfl; exact HT.out.1; exact sizeNode _ _ _; exact all_oneCell_toArray HT.out.2; clear HT; generalize hw5 : World.setCells _ _ _ _ = w5 at o5 ⊢; generalize hg5 : w2.heap.size = g5 at o5 ⊢; clear hw5 hg5; rw [HLE.out] at o5; have q0 : w5.cell? ⟨g5, 0, none⟩ = some (.int .i64 nd.kind) := (cell_of_row w5 _ _ _ _ _ (o5.box (g := g5) (o := .cells (nd.cells (.slice ka kl kc) (.slice aa nd.attrs.length ac)).toArray 46 (0, 0)) (by simp))).trans rfl; have q4 : w5.cell? ⟨g5, 4, none⟩ = some (.int .i64 nd.space) := (cell_of_row w5 _ _ _ _ _ (o5.box (g := g5) (o := .cells (nd.cells (.slice ka kl kc) (.slice aa nd.attrs.length ac)).toArray 46 (0, 0)) (by simp))).trans rfl; have q6 : w5.cell? ⟨g5, 6, none⟩ = some (.slice aa nd.attrs.length ac) := (cell_of_row w5 _ _ _ _ _ (o5.box (g := g5) (o := .cells (nd.cells (.slice ka kl kc) (.slice aa nd.attrs.length ac)).toArray 46 (0, 0)) (by simp))).trans rfl; have bs : w5.cell? ⟨gs, 0, none⟩ = some (.int .i64 s) := box_cell (o5.box (g := gs) (o := .cells #[.int .i64 s] 34 (0, 0)) (by simp)); have bn : w5.cell? ⟨gs + 1, 0, none⟩ = some (.string name) := box_cell (o5.box (g := gs + 1) (o := .cells #[.string name] 9 (0, 0)) (by simp)); have bf : w5.frozen? ⟨gs + 1, 0, none⟩ = false := frozen_of_row w5 _ _ _ _ (o5.box (g := gs + 1) (o := .cells #[.string name] 9 (0, 0)) (by simp)))
            have HIX := Lib.hid (IndexAttr_any (.slice aa nd.attrs.length ac) nd.attrs gs (gs + 1) s name w5 (o5.atts (v := .slice aa nd.attrs.length ac) (x := nd.attrs) (by simp)) bs bn)
            have HO5 := Lib.hid o5
            clear o5
            go_wp2_with fail
            refine HIX.out.mono ?_
            rintro e w8 ⟨rfl, hB8⟩
            have o8 := HO5.out.read hB8
            clear HIX hB8 HO5 q0 q4 q6 bs bn bf
            have q6 : w8.cell? ⟨g5, 6, none⟩ = some (.slice aa nd.attrs.length ac) := (cell_of_row w8 _ _ _ _ _ (o8.box (g := g5) (o := (.cells (nd.cells (.slice ka kl kc) (.slice aa nd.attrs.length ac)).toArray 46 (0, 0))) (by simp))).trans rfl
            have bn8 : w8.cell? ⟨gs + 1, 0, none⟩ = some (.string name) := box_cell (o8.box (g := gs + 1) (o := .cells #[.string name] 9 (0, 0)) (by simp))
            have HO8 := Lib.hid o8
            clear o8
            go_wp2_with (go_quiet (fail))
            refine bodyPost_ret (results_tmp4 rfl _ _ _) rfl ?_
            rw [HR.out]
            exact ⟨aa, ac, rfl, (HO8.out.read (Below.drewN (Below.refl _ _) _)).drop.swap.drop.swap.drop⟩
      · have HF0 : A.attrErr el s = 2 := by rw [HE.out, if_neg (fun q => q hk), if_pos hsp]
        have HF : Hid (A.attrRes el s name = ([], -1, ByteArray.empty, 2)) := Lib.hid (by unfold Ar.attrRes; rw [HF0]; rfl)
        clear hk HE HF0
        by_cases hs0 : s < 0
        · clear hsp
          go_enter Tryz.func108, Tryz.ntmps108
          go_wp2_with fail
          refine (HC.out _ _ (by simp) HO1.out).mono ?_
          rintro e w1 ⟨rfl, o1⟩
          generalize w.heap.size = gs at *
          have HN1 := Lib.hid (HN.out _ o1)
          clear HC HN o1 HO1
          go_wp2_with fail
          refine HN1.out.mono ?_
          rintro e w2 ⟨ka, kl, kc, aa, ac, rfl, o2⟩
          clear HN1
          have HT := Lib.hid (nodeBox_facts (w := w2) nd ka kc aa ac kl nd.attrs.length)
          have o5 := o2.nodeBox nd (.slice ka kl kc) (.slice aa nd.attrs.length ac)
          go_wp2_with ((with_reducible refine wpList_store_mid ?_ 46 (.tmp 13) (.tmp 27) ?_ w2.heap.size 0 (nd.cells (.slice ka kl kc) (.slice aa nd.attrs.length ac)).toArray ?_ ?_ ?_ ?_ ?_ ?_); exact rfl; exact rfl; exact rfl; exact rfl; exact HT.out.1; exact sizeNode _ _ _; exact all_oneCell_toArray HT.out.2; clear HT; generalize hw5 : World.setCells _ _ _ _ = w5 at o5 ⊢; generalize hg5 : w2.heap.size = g5 at o5 ⊢; clear hw5 hg5; rw [HLE.out] at o5; have q0 : w5.cell? ⟨g5, 0, none⟩ = some (.int .i64 nd.kind) := (cell_of_row w5 _ _ _ _ _ (o5.box (g := g5) (o := .cells (nd.cells (.slice ka kl kc) (.slice aa nd.attrs.length ac)).toArray 46 (0, 0)) (by simp))).trans rfl; have bs : w5.cell? ⟨gs, 0, none⟩ = some (.int .i64 s) := box_cell (o5.box (g := gs) (o := .cells #[.int .i64 s] 34 (0, 0)) (by simp)); have bn : w5.cell? ⟨gs + 1, 0, none⟩ = some (.string name) := box_cell (o5.box (g := gs + 1) (o := .cells #[.string name] 9 (0, 0)) (by simp)); have bf : w5.frozen? ⟨gs + 1, 0, none⟩ = false := frozen_of_row w5 _ _ _ _ (o5.box (g := gs + 1) (o := .cells #[.string name] 9 (0, 0)) (by simp)))
          have HO := Lib.hid o5
          clear o5 HAT HNM
          go_wp2
          refine bodyPost_ret (results_tmp4 rfl _ _ _) rfl ?_
          rw [HF.out]
          exact ⟨none, 0, rfl, HO.out.drop.drop.drop.drop.noAtts⟩
        · have hs7 : 7 < s := by unfold inSpaces at hsp; omega
          clear hsp
          go_enter Tryz.func108, Tryz.ntmps108
          go_wp2_with fail
          refine (HC.out _ _ (by simp) HO1.out).mono ?_
          rintro e w1 ⟨rfl, o1⟩
          generalize w.heap.size = gs at *
          have HN1 := Lib.hid (HN.out _ o1)
          clear HC HN o1 HO1
          go_wp2_with fail
          refine HN1.out.mono ?_
          rintro e w2 ⟨ka, kl, kc, aa, ac, rfl, o2⟩
          clear HN1
          have HT := Lib.hid (nodeBox_facts (w := w2) nd ka kc aa ac kl nd.attrs.length)
          have o5 := o2.nodeBox nd (.slice ka kl kc) (.slice aa nd.attrs.length ac)
          go_wp2_with ((with_reducible refine wpList_store_mid ?_ 46 (.tmp 13) (.tmp 27) ?_ w2.heap.size 0 (nd.cells (.slice ka kl kc) (.slice aa nd.attrs.length ac)).toArray ?_ ?_ ?_ ?_ ?_ ?_); exact rfl; exact rfl; exact rfl; exact rfl; exact HT.out.1; exact sizeNode _ _ _; exact all_oneCell_toArray HT.out.2; clear HT; generalize hw5 : World.setCells _ _ _ _ = w5 at o5 ⊢; generalize hg5 : w2.heap.size = g5 at o5 ⊢; clear hw5 hg5; rw [HLE.out] at o5; have q0 : w5.cell? ⟨g5, 0, none⟩ = some (.int .i64 nd.kind) := (cell_of_row w5 _ _ _ _ _ (o5.box (g := g5) (o := .cells (nd.cells (.slice ka kl kc) (.slice aa nd.attrs.length ac)).toArray 46 (0, 0)) (by simp))).trans rfl; have bs : w5.cell? ⟨gs, 0, none⟩ = some (.int .i64 s) := box_cell (o5.box (g := gs) (o := .cells #[.int .i64 s] 34 (0, 0)) (by simp)); have bn : w5.cell? ⟨gs + 1, 0, none⟩ = some (.string name) := box_cell (o5.box (g := gs + 1) (o := .cells #[.string name] 9 (0, 0)) (by simp)); have bf : w5.frozen? ⟨gs + 1, 0, none⟩ = false := frozen_of_row w5 _ _ _ _ (o5.box (g := gs + 1) (o := .cells #[.string name] 9 (0, 0)) (by simp)))
          have HO := Lib.hid o5
          clear o5 HAT HNM
          go_wp2
          refine bodyPost_ret (results_tmp4 rfl _ _ _) rfl ?_
          rw [HF.out]
          exact ⟨none, 0, rfl, HO.out.drop.drop.drop.drop.noAtts⟩
    · have g1 : (nd.kind != 4) = true := by simp [hk]
      have HF0 : A.attrErr el s = 9 := by rw [HE.out, if_pos hk]
      have HF : Hid (A.attrRes el s name = ([], -1, ByteArray.empty, 9)) := Lib.hid (by unfold Ar.attrRes; rw [HF0]; rfl)
      clear hk HE HF0
      go_enter Tryz.func108, Tryz.ntmps108
      go_wp2_with fail
      refine (HC.out _ _ (by simp) HO1.out).mono ?_
      rintro e w1 ⟨rfl, o1⟩
      generalize w.heap.size = gs at *
      have HN1 := Lib.hid (HN.out _ o1)
      clear HC HN o1 HO1
      go_wp2_with fail
      refine HN1.out.mono ?_
      rintro e w2 ⟨ka, kl, kc, aa, ac, rfl, o2⟩
      clear HN1
      have HT := Lib.hid (nodeBox_facts (w := w2) nd ka kc aa ac kl nd.attrs.length)
      have o5 := o2.nodeBox nd (.slice ka kl kc) (.slice aa nd.attrs.length ac)
      go_wp2_with ((with_reducible refine wpList_store_mid ?_ 46 (.tmp 13) (.tmp 27) ?_ w2.heap.size 0 (nd.cells (.slice ka kl kc) (.slice aa nd.attrs.length ac)).toArray ?_ ?_ ?_ ?_ ?_ ?_); exact rfl; exact rfl; exact rfl; exact rfl; exact HT.out.1; exact sizeNode _ _ _; exact all_oneCell_toArray HT.out.2; clear HT; generalize hw5 : World.setCells _ _ _ _ = w5 at o5 ⊢; generalize hg5 : w2.heap.size = g5 at o5 ⊢; clear hw5 hg5; rw [HLE.out] at o5; have q0 : w5.cell? ⟨g5, 0, none⟩ = some (.int .i64 nd.kind) := (cell_of_row w5 _ _ _ _ _ (o5.box (g := g5) (o := .cells (nd.cells (.slice ka kl kc) (.slice aa nd.attrs.length ac)).toArray 46 (0, 0)) (by simp))).trans rfl; have bs : w5.cell? ⟨gs, 0, none⟩ = some (.int .i64 s) := box_cell (o5.box (g := gs) (o := .cells #[.int .i64 s] 34 (0, 0)) (by simp)); have bn : w5.cell? ⟨gs + 1, 0, none⟩ = some (.string name) := box_cell (o5.box (g := gs + 1) (o := .cells #[.string name] 9 (0, 0)) (by simp)); have bf : w5.frozen? ⟨gs + 1, 0, none⟩ = false := frozen_of_row w5 _ _ _ _ (o5.box (g := gs + 1) (o := .cells #[.string name] 9 (0, 0)) (by simp)))
      have HO := Lib.hid o5
      clear o5 HAT HNM
      go_wp2
      refine bodyPost_ret (results_tmp4 rfl _ _ _) rfl ?_
      rw [HF.out]
      exact ⟨none, 0, rfl, HO.out.drop.drop.drop.drop.noAtts⟩
  · have HC := Lib.hid (fun W k (hk : W.heap.size = k) (q : Own w0 B LL W) => (by subst hk; exact Check1_own (opt := -1) (x := el) q (b := b) (A := A) HLL.out HS.out (chk1n.trans (if_neg hh)) : Calls Tryz.prog 89 #[.pointer (some ⟨b, 0, none⟩), .int .i64 (-1), .slice (some ⟨k, 0, none⟩) 1 1] (W.alloc (.cells #[.int .i64 el] 3)) fun e w' => e = .returned (.int .i64 3) ∧ Own w0 B LL w'))
    have HF : Hid (A.attrRes el s name = ([], -1, ByteArray.empty, 3)) := Lib.hid (by
      have h3 : A.attrErr el s = 3 := by unfold Ar.attrErr; rw [if_pos hh]
      unfold Ar.attrRes; rw [h3]; rfl)
    clear hh
    go_enter Tryz.func108, Tryz.ntmps108
    go_wp2_with fail
    refine (HC.out _ _ (by simp) HO1.out).mono ?_
    rintro e w1 ⟨rfl, o1⟩
    rw [HLE.out] at o1
    have HO := Lib.hid o1
    clear HC o1 HO1
    go_wp2
    refine bodyPost_ret (results_tmp4 rfl _ _ _) rfl ?_
    rw [HF.out]
    exact ⟨none, 0, rfl, HO.out.drop.drop.noAtts⟩

end Go.Proofs.YtpicinjcmjaogaaGreat
