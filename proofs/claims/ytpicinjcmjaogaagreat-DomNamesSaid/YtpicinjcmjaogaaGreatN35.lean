/-
  Parts: D23.
-/
import Derived.Lib.AppendStr
import Derived.Test.YtpicinjcmjaogaaGreatN34

/- Contracts of dom: TextContent. (Printed by gend23.py.) -/
namespace Go.Proofs.YtpicinjcmjaogaaGreat
open Go.RowKit Go.Shelf
set_option linter.unusedVariables false

attribute [local go_sem] Oper.semAt_some

theorem infoByte : (Tryz.prog.info? 5).map (fun i => (i.zero, i.size, i.bytes)) = some (some (.int .u8 0), 1, 1) := by kernel_rfl

/-- The row that an append of a string leaves: the old one or the next new one. -/
theorem append_str_at {P : Program} (w : World) (base : Nat) (t u ty e : TypeId) (i : TypeInfo) (ht : P.underlying t = some (.slice e)) (hu : P.underlying u = some .string) (hi : P.info? e = some i) (hz : i.zero = some (.int .u8 0)) (hsize : i.size = 1) (hby : i.bytes = 1)
    (v : Value) (n : Nat) (xs : List Value) (hown : w.ownsRow base e 1 v n xs) (s : ByteArray) (h63 : n + s.size ≤ maxLen) (hbytes : n + s.size ≤ 140737488355328) (hbase : base ≤ w.heap.size) :
    ∃ v' w', (Builtin.append_ #[t, u] ty #[v, .string s]).run P w = .ok v' w' ∧ w'.ownsRow base e 1 v' (n + s.size) (xs ++ Lib.strCells s) ∧ w.grownBy w' v.ownBlock ∧ (v'.ownBlock = v.ownBlock ∨ v'.ownBlock = some w.heap.size) := by
  obtain ⟨v', w', hr, h2, h3, h4⟩ := Lib.run_append_own_string (P := P) w base t u ty e i ht hu hi hz hsize hby v n xs hown s h63 hbytes hbase
  refine ⟨v', w', hr, h2, h3, ?_⟩
  have hl : xs.length = n := by simpa using hown.1
  unfold maxLen at h63
  have inj : ∀ {a b : Value} {x y : World}, Result.ok a x = Result.ok b y → a = b := fun h => by injection h
  rcases hown.2 with ⟨rfl, rfl⟩ | ⟨g, cap, cur, rfl, hbg, hg, hnc, hcm, hcs, htake⟩
  · by_cases hm : s.size = 0
    · left; rw [h4.2 ⟨rfl, hm⟩]
    · right
      have hr1 := run_append_nil_string (P := P) w t u ty e i (.int .u8 0) ht hu hi hz s (by omega) (by omega) (by rw [hby]; omega)
      rw [inj (hr.symm.trans hr1)]; rfl
  · by_cases hroom : n + s.size ≤ cap
    · left
      have hr1 := Lib.run_append_room_string (P := P) w t u ty e i ht hu hi hsize g n cap cur hg s hroom (by rw [hcs, Nat.mul_one]; exact hroom)
      rw [inj (hr.symm.trans hr1)]; rfl
    · right
      have holds : ∀ j u, xs[j]? = some u → w.cell? ((⟨g, 0, none⟩ : Addr).add j) = some u := hown.cells (g := g) rfl
      have hr1 := Lib.run_append_grow_string (P := P) w t u ty e i (.int .u8 0) ht hu hi hz ⟨g, 0, none⟩ n cap xs (by rw [hsize]; simpa using hl) holds s (by omega) (by omega) (by rw [hby]; exact growslice_fits (by omega) (by omega))
      rw [inj (hr.symm.trans hr1)]; rfl
theorem wpListIn_append_str_at {F : Fence} {nF : Nat} {P : Program} (w : World) {ops : Array Oper} {rest : List Oper} {o : Oper} {a : Act} {Q : Exit → Act → World → Prop} (hgd : o.guard = none) (s x : Operand) (t u : TypeId)
    (ho : o.op = .call { callee := .builtin .append, args := #[s, x], argTypes := #[t, u] }) (base : Nat) (e : TypeId) (i : TypeInfo) (ht : P.underlying t = some (.slice e)) (hu : P.underlying u = some .string) (hi : P.info? e = some i) (hz : i.zero = some (.int .u8 0)) (hsize : i.size = 1) (hby : i.bytes = 1)
    (v : Value) (n : Nat) (xs : List Value) (hs : a.eval s = v) (hown : w.ownsRow base e 1 v n xs) (c : ByteArray) (hx : a.eval x = .string c) (h63 : n + c.size ≤ maxLen) (hbytes : n + c.size ≤ 140737488355328) (hbase : base ≤ w.heap.size)
    (h : ∀ v' w', w'.ownsRow base e 1 v' (n + c.size) (xs ++ Lib.strCells c) → w.grownBy w' v.ownBlock → (v'.ownBlock = v.ownBlock ∨ v'.ownBlock = some w.heap.size) → wpListIn F nF P ops Q rest (a.put o.dst v') w') : wpListIn F nF P ops Q (o :: rest) a w := by
  refine wpListIn_plain hgd fun K hK => ?_
  obtain ⟨v', w', hr, h2, h3, h5⟩ := append_str_at (P := P) w base t u o.type e i ht hu hi hz hsize hby v n xs hown c h63 hbytes hbase
  unfold Oper.wpIn
  refine ⟨by simp [Oper.about, ho, resolve, Target.leads, Sem.run_pure], ?_⟩
  rw [Oper.semAt_plain F _ _ (by rw [ho]; intro c hc'; cases hc')]
  simp [execOp, ho, resolve, invoke, builtin, hs, hx, hr, Result.andThen]
  exact hK _ _ (h v' w' h2 h3 h5)
theorem wpListIn_store_mid {F : Fence} {nF : Nat} {P : Program} {ops : Array Oper} {rest : List Oper} {op : Oper} {a : Act} {w : World} {Q : Exit → Act → World → Prop} (hgd : op.guard = none) (ty : TypeId) (x y : Operand) (ho : op.op = .store ty x y)
    (b o : Nat) (cells : Array Value) (hx : a.eval x = .pointer (some ⟨b, o, none⟩)) (hy : a.eval y = .agg cells) (ht : w.there b o cells.size) (hi : (P.info? ty).map (·.size) = some cells.size) (h1 : cells.all (·.oneCell') = true)
    (h : wpListIn F nF P ops Q rest (a.put op.dst undef) (w.setCells b o cells.toList)) : wpListIn F nF P ops Q (op :: rest) a w := by
  refine wpListIn_plain hgd fun K hK => ?_
  unfold Oper.wpIn
  refine ⟨by simp [Oper.about, ho], ?_⟩
  rw [Oper.semAt_plain F _ _ (by rw [ho]; intro c hc'; cases hc')]
  simp [execOp, ho, hx, hy, Instr.storeAt, Instr.sureAddr, run_storeVar_mid w b o ty cells ht hi h1, Result.andThen]
  exact hK _ _ h

def u8v (b : UInt8) : Value := .int .u8 (b.toNat : Int)
theorem strCells_list (s : ByteArray) : Lib.strCells s = s.toList.map u8v := by unfold Lib.strCells u8v; rw [Go.ByteArray.toList_eq]
theorem toList_len (s : ByteArray) : s.toList.length = s.size := by rw [Go.ByteArray.toList_eq]; simp
/-- A row of bytes. -/
abbrev Asrt.bytes (v : Value) (l : List UInt8) : Asrt := .row 5 1 v l.length (l.map u8v)
theorem bytes_nil {w0 w : World} {B : Nat} {l : List Asrt} (o : Own w0 B l w) : Own w0 B (.bytes (.slice none 0 0) [] :: l) w :=
  o.fresh (Below.refl _ _) ⟨fun _ => False, ⟨World.ownsRow_nil _ _ _ _, fun k => by simp [Value.ownBlock]⟩, fun _ h => h.elim⟩
theorem bytes_back {w : World} {B : Nat} {v : Value} {l : List UInt8} (h : w.ownsRow B 5 1 v l.length (l.map u8v)) : (convert 145 9 v).run Tryz.prog w = .ok (.string ⟨l.toArray⟩) w := by
  rcases h.2 with ⟨rfl, h2⟩ | ⟨g, cap, cur, rfl, hbg, hg, hnc, hcm, hcs, htake⟩
  · have : l = [] := List.length_eq_zero_iff.1 h2
    subst this
    rw [run_convert_bytes_string w 145 9 5 none 0 0 Tryz.underlying145 Tryz.underlying5 Tryz.underlying9]
    simp [Conv.bytesToString]
    rfl
  · refine run_convert_bytes_back w 145 9 5 ⟨g, 0, none⟩ cap l Tryz.underlying145 Tryz.underlying5 Tryz.underlying9 (fun j hj => ?_)
    exact h.cells (g := g) rfl j _ (by simp [hj, u8v])

theorem textOf_app (A : Ar) (l m : List Int) : A.textOf (l ++ m) = A.textOf l ++ A.textOf m := by unfold Ar.textOf; rw [List.flatMap_append]
theorem textOf_one (A : Ar) (x : Int) : A.textOf [x] = if (A.get x).kind = 5 then (A.get x).data.toList else [] := by unfold Ar.textOf; simp

set_option maxRecDepth 100000 in
set_option maxHeartbeats 4000000 in
theorem TextContent_own {w0 w : World} {B b : Nat} {A : Ar} {L : List Asrt} {h : Int} (o : Own w0 B (.arena b A :: L) w) (hI : A.Inv) (hs : A.ns.length ≤ 100000) (hm : (A.textOf (A.below h)).length ≤ 140737488355328) :
    Calls Tryz.prog 38 #[.pointer (some ⟨b, 0, none⟩), .int .i64 h] w fun e w' => e = .returned (.tuple #[.string (A.textContent h).1, .int .i64 (A.textContent h).2]) ∧ Own w0 B (.arena b A :: L) w' := by
  obtain ⟨i0, hi, hz0, hz1, hz2⟩ := info_parts infoByte
  have HI := Lib.hid hi
  clear hi
  have HS := hI.short (show A.ns.length ≤ 1000000 by omega)
  have o1 := o.boxed (.cells #[.pointer (some ⟨b, 0, none⟩)] 23)
  clear o
  have q0 : (w.alloc (.cells #[.pointer (some ⟨b, 0, none⟩)] 23)).cell? ⟨w.heap.size, 0, none⟩ = some (.pointer (some ⟨b, 0, none⟩)) := box_cell (o1.box (g := w.heap.size) (o := .cells #[.pointer (some ⟨b, 0, none⟩)] 23 (0, 0)) (by simp))
  by_cases hh : A.has h
  · have HC1 := Lib.hid (Check1_own (opt := -1) (x := h) o1 (b := b) (A := A) (by simp) HS (chk1n.trans (if_pos hh)))
    simp only [World.size_alloc] at HC1
    obtain ⟨nd, hnd⟩ : ∃ nd, A.get h = nd := ⟨_, rfl⟩
    have HN := Lib.hid (fun W (q : Own w0 B (.arena b A :: .box w.heap.size (.cells #[.pointer (some ⟨b, 0, none⟩)] 23 (0, 0)) :: L) W) => Node_own (b := b) (A := A) q (by simp) HS hh hnd)
    have HF : Hid (A.textContent h = if nd.kind = 5 ∨ nd.kind = 6 then (nd.data, 0) else if nd.kind = 1 ∨ nd.kind = 3 then (ByteArray.empty, 0) else (⟨(A.textOf (A.below h)).toArray⟩, 0)) := Lib.hid (by
      unfold Ar.textContent; rw [if_neg (fun q => q hh), hnd])
    have hseq := fun (ab hb : Nat) => below_seq (ab := ab) (hb := hb) (b := b) hI hs hh w0 B 7
    have HNX := Lib.hid (fun (x : Int) (hx : A.has x) (W : World) (ll : List Asrt) (q : Own w0 B ll W) (hm : Asrt.arena b A ∈ ll) (n : Nd) (hn : A.get x = n) => Node_own (b := b) (A := A) q hm HS hx hn)
    have HBM := Lib.hid (fun x (hx : x ∈ A.below h) => (below_mem hI h hh x hx).1)
    have HTR : Hid (A.Tree A ∧ A.Inv ∧ A.ns.length ≤ 1000000) := Lib.hid ⟨Ar.Tree.refl _, hI, by omega⟩
    clear o1 HS hnd hI hs
    by_cases h5 : nd.kind = 5
    · have k5 : (nd.kind == 5) = true := by simp [h5]
      have HF := Lib.hid (HF.out.trans (if_pos (.inl h5)))
      clear h5
      clear HTR HBM HNX hseq
      go_enter Tryz.func38, Tryz.ntmps38
      go_wp2_with fail
      refine HC1.out.mono ?_
      rintro e w1 ⟨rfl, o1⟩
      clear q0
      have q0 : w1.cell? ⟨w.heap.size, 0, none⟩ = some (.pointer (some ⟨b, 0, none⟩)) := box_cell (o1.box (g := w.heap.size) (o := .cells #[.pointer (some ⟨b, 0, none⟩)] 23 (0, 0)) (by simp))
      have HN1 := Lib.hid (HN.out _ o1)
      clear HC1 HN o1
      go_wp2_with fail
      refine HN1.out.mono ?_
      rintro e w2 ⟨ka, kl, kc, aa, al, ac, rfl, o2, -⟩
      clear HN1 q0
      have HT := Lib.hid (nodeBox_facts (w := w2) nd ka kc aa ac kl al)
      have o5 := o2.nodeBox nd (.slice ka kl kc) (.slice aa al ac)
      go_wp2_with ((with_reducible refine wpList_store_mid ?_ 46 (.tmp 7) (.tmp 24) ?_ w2.heap.size 0 (nd.cells (.slice ka kl kc) (.slice aa al ac)).toArray ?_ ?_ ?_ ?_ ?_ ?_); exact rfl; exact rfl; exact rfl; exact rfl; exact HT.out.1; exact sizeNode _ _ _; exact all_oneCell_toArray HT.out.2; clear HT; generalize hw5 : World.setCells _ _ _ _ = w5 at o5 ⊢; generalize hg5 : w2.heap.size = g5 at o5 ⊢; clear hw5 hg5; have k0 : w5.cell? ⟨g5, 0, none⟩ = some (.int .i64 nd.kind) := (cell_of_row w5 _ _ _ _ _ (o5.box (g := g5) (o := .cells (nd.cells (.slice ka kl kc) (.slice aa al ac)).toArray 46 (0, 0)) (by simp))).trans rfl; have k7 : w5.cell? ⟨g5, 7, none⟩ = some (.string nd.data) := (cell_of_row w5 _ _ _ _ _ (o5.box (g := g5) (o := .cells (nd.cells (.slice ka kl kc) (.slice aa al ac)).toArray 46 (0, 0)) (by simp))).trans rfl; have q0 : w5.cell? ⟨w.heap.size, 0, none⟩ = some (.pointer (some ⟨b, 0, none⟩)) := box_cell (o5.box (g := w.heap.size) (o := .cells #[.pointer (some ⟨b, 0, none⟩)] 23 (0, 0)) (by simp)))
      have HO := Lib.hid o5.drop.unbox
      clear o5
      go_wp2
      go_ret2
      rw [HF.out]
      exact ⟨rfl, HO.out⟩
    have k5 : (nd.kind == 5) = false := by simp [h5]
    by_cases h6 : nd.kind = 6
    · have k6 : (nd.kind == 6) = true := by simp [h6]
      have HF := Lib.hid (HF.out.trans (if_pos (.inr h6)))
      clear h5 h6
      clear HTR HBM HNX hseq
      go_enter Tryz.func38, Tryz.ntmps38
      go_wp2_with fail
      refine HC1.out.mono ?_
      rintro e w1 ⟨rfl, o1⟩
      clear q0
      have q0 : w1.cell? ⟨w.heap.size, 0, none⟩ = some (.pointer (some ⟨b, 0, none⟩)) := box_cell (o1.box (g := w.heap.size) (o := .cells #[.pointer (some ⟨b, 0, none⟩)] 23 (0, 0)) (by simp))
      have HN1 := Lib.hid (HN.out _ o1)
      clear HC1 HN o1
      go_wp2_with fail
      refine HN1.out.mono ?_
      rintro e w2 ⟨ka, kl, kc, aa, al, ac, rfl, o2, -⟩
      clear HN1 q0
      have HT := Lib.hid (nodeBox_facts (w := w2) nd ka kc aa ac kl al)
      have o5 := o2.nodeBox nd (.slice ka kl kc) (.slice aa al ac)
      go_wp2_with ((with_reducible refine wpList_store_mid ?_ 46 (.tmp 7) (.tmp 24) ?_ w2.heap.size 0 (nd.cells (.slice ka kl kc) (.slice aa al ac)).toArray ?_ ?_ ?_ ?_ ?_ ?_); exact rfl; exact rfl; exact rfl; exact rfl; exact HT.out.1; exact sizeNode _ _ _; exact all_oneCell_toArray HT.out.2; clear HT; generalize hw5 : World.setCells _ _ _ _ = w5 at o5 ⊢; generalize hg5 : w2.heap.size = g5 at o5 ⊢; clear hw5 hg5; have k0 : w5.cell? ⟨g5, 0, none⟩ = some (.int .i64 nd.kind) := (cell_of_row w5 _ _ _ _ _ (o5.box (g := g5) (o := .cells (nd.cells (.slice ka kl kc) (.slice aa al ac)).toArray 46 (0, 0)) (by simp))).trans rfl; have k7 : w5.cell? ⟨g5, 7, none⟩ = some (.string nd.data) := (cell_of_row w5 _ _ _ _ _ (o5.box (g := g5) (o := .cells (nd.cells (.slice ka kl kc) (.slice aa al ac)).toArray 46 (0, 0)) (by simp))).trans rfl; have q0 : w5.cell? ⟨w.heap.size, 0, none⟩ = some (.pointer (some ⟨b, 0, none⟩)) := box_cell (o5.box (g := w.heap.size) (o := .cells #[.pointer (some ⟨b, 0, none⟩)] 23 (0, 0)) (by simp)))
      have HO := Lib.hid o5.drop.unbox
      clear o5
      go_wp2
      go_ret2
      rw [HF.out]
      exact ⟨rfl, HO.out⟩
    have k6 : (nd.kind == 6) = false := by simp [h6]
    have HF := Lib.hid (HF.out.trans (if_neg (by omega)))
    by_cases h1 : nd.kind = 1
    · have k1 : (nd.kind == 1) = true := by simp [h1]
      have HF := Lib.hid (HF.out.trans (if_pos (.inl h1)))
      clear h5 h6 h1
      clear HTR HBM HNX hseq
      go_enter Tryz.func38, Tryz.ntmps38
      go_wp2_with fail
      refine HC1.out.mono ?_
      rintro e w1 ⟨rfl, o1⟩
      clear q0
      have q0 : w1.cell? ⟨w.heap.size, 0, none⟩ = some (.pointer (some ⟨b, 0, none⟩)) := box_cell (o1.box (g := w.heap.size) (o := .cells #[.pointer (some ⟨b, 0, none⟩)] 23 (0, 0)) (by simp))
      have HN1 := Lib.hid (HN.out _ o1)
      clear HC1 HN o1
      go_wp2_with fail
      refine HN1.out.mono ?_
      rintro e w2 ⟨ka, kl, kc, aa, al, ac, rfl, o2, -⟩
      clear HN1 q0
      have HT := Lib.hid (nodeBox_facts (w := w2) nd ka kc aa ac kl al)
      have o5 := o2.nodeBox nd (.slice ka kl kc) (.slice aa al ac)
      go_wp2_with ((with_reducible refine wpList_store_mid ?_ 46 (.tmp 7) (.tmp 24) ?_ w2.heap.size 0 (nd.cells (.slice ka kl kc) (.slice aa al ac)).toArray ?_ ?_ ?_ ?_ ?_ ?_); exact rfl; exact rfl; exact rfl; exact rfl; exact HT.out.1; exact sizeNode _ _ _; exact all_oneCell_toArray HT.out.2; clear HT; generalize hw5 : World.setCells _ _ _ _ = w5 at o5 ⊢; generalize hg5 : w2.heap.size = g5 at o5 ⊢; clear hw5 hg5; have k0 : w5.cell? ⟨g5, 0, none⟩ = some (.int .i64 nd.kind) := (cell_of_row w5 _ _ _ _ _ (o5.box (g := g5) (o := .cells (nd.cells (.slice ka kl kc) (.slice aa al ac)).toArray 46 (0, 0)) (by simp))).trans rfl; have k7 : w5.cell? ⟨g5, 7, none⟩ = some (.string nd.data) := (cell_of_row w5 _ _ _ _ _ (o5.box (g := g5) (o := .cells (nd.cells (.slice ka kl kc) (.slice aa al ac)).toArray 46 (0, 0)) (by simp))).trans rfl; have q0 : w5.cell? ⟨w.heap.size, 0, none⟩ = some (.pointer (some ⟨b, 0, none⟩)) := box_cell (o5.box (g := w.heap.size) (o := .cells #[.pointer (some ⟨b, 0, none⟩)] 23 (0, 0)) (by simp)))
      have HO := Lib.hid o5.drop.unbox
      clear o5
      go_wp2
      go_ret2
      rw [HF.out]
      exact ⟨rfl, HO.out⟩
    have k1 : (nd.kind == 1) = false := by simp [h1]
    by_cases h3 : nd.kind = 3
    · have k3 : (nd.kind == 3) = true := by simp [h3]
      have HF := Lib.hid (HF.out.trans (if_pos (.inr h3)))
      clear h5 h6 h1 h3
      clear HTR HBM HNX hseq
      go_enter Tryz.func38, Tryz.ntmps38
      go_wp2_with fail
      refine HC1.out.mono ?_
      rintro e w1 ⟨rfl, o1⟩
      clear q0
      have q0 : w1.cell? ⟨w.heap.size, 0, none⟩ = some (.pointer (some ⟨b, 0, none⟩)) := box_cell (o1.box (g := w.heap.size) (o := .cells #[.pointer (some ⟨b, 0, none⟩)] 23 (0, 0)) (by simp))
      have HN1 := Lib.hid (HN.out _ o1)
      clear HC1 HN o1
      go_wp2_with fail
      refine HN1.out.mono ?_
      rintro e w2 ⟨ka, kl, kc, aa, al, ac, rfl, o2, -⟩
      clear HN1 q0
      have HT := Lib.hid (nodeBox_facts (w := w2) nd ka kc aa ac kl al)
      have o5 := o2.nodeBox nd (.slice ka kl kc) (.slice aa al ac)
      go_wp2_with ((with_reducible refine wpList_store_mid ?_ 46 (.tmp 7) (.tmp 24) ?_ w2.heap.size 0 (nd.cells (.slice ka kl kc) (.slice aa al ac)).toArray ?_ ?_ ?_ ?_ ?_ ?_); exact rfl; exact rfl; exact rfl; exact rfl; exact HT.out.1; exact sizeNode _ _ _; exact all_oneCell_toArray HT.out.2; clear HT; generalize hw5 : World.setCells _ _ _ _ = w5 at o5 ⊢; generalize hg5 : w2.heap.size = g5 at o5 ⊢; clear hw5 hg5; have k0 : w5.cell? ⟨g5, 0, none⟩ = some (.int .i64 nd.kind) := (cell_of_row w5 _ _ _ _ _ (o5.box (g := g5) (o := .cells (nd.cells (.slice ka kl kc) (.slice aa al ac)).toArray 46 (0, 0)) (by simp))).trans rfl; have k7 : w5.cell? ⟨g5, 7, none⟩ = some (.string nd.data) := (cell_of_row w5 _ _ _ _ _ (o5.box (g := g5) (o := .cells (nd.cells (.slice ka kl kc) (.slice aa al ac)).toArray 46 (0, 0)) (by simp))).trans rfl; have q0 : w5.cell? ⟨w.heap.size, 0, none⟩ = some (.pointer (some ⟨b, 0, none⟩)) := box_cell (o5.box (g := w.heap.size) (o := .cells #[.pointer (some ⟨b, 0, none⟩)] 23 (0, 0)) (by simp)))
      have HO := Lib.hid o5.drop.unbox
      clear o5
      go_wp2
      go_ret2
      rw [HF.out]
      exact ⟨rfl, HO.out⟩
    have k3 : (nd.kind == 3) = false := by simp [h3]
    have HF := Lib.hid (HF.out.trans (if_neg (by omega)))
    clear h5 h6 h1 h3
    refine (callsIn_wide (n := 8)).1 ?_
    refine callsIn_of_wp_marks Tryz.func38 rfl trivial ?_ rfl
    simp only [Tryz.ntmps38, List.size_toArray, List.length_cons, List.length_nil, Nat.reduceAdd, Nat.reduceSub, Array.replicate_succ, Array.replicate_zero, List.push_toArray, List.append_toArray, List.nil_append, List.cons_append]
    refine wpIn_wide.2 ?_
    go_wp2_with fail
    refine HC1.out.mono ?_
    rintro e w1 ⟨rfl, o1⟩
    clear q0
    have q0 : w1.cell? ⟨w.heap.size, 0, none⟩ = some (.pointer (some ⟨b, 0, none⟩)) := box_cell (o1.box (g := w.heap.size) (o := .cells #[.pointer (some ⟨b, 0, none⟩)] 23 (0, 0)) (by simp))
    have HN1 := Lib.hid (HN.out _ o1)
    clear HC1 HN o1
    go_wp2_with fail
    refine HN1.out.mono ?_
    rintro e w2 ⟨ka, kl, kc, aa, al, ac, rfl, o2, -⟩
    clear HN1 q0
    have HT := Lib.hid (nodeBox_facts (w := w2) nd ka kc aa ac kl al)
    have o5 := o2.nodeBox nd (.slice ka kl kc) (.slice aa al ac)
    go_wp2_with ((with_reducible refine wpList_store_mid ?_ 46 (.tmp 7) (.tmp 24) ?_ w2.heap.size 0 (nd.cells (.slice ka kl kc) (.slice aa al ac)).toArray ?_ ?_ ?_ ?_ ?_ ?_); exact rfl; exact rfl; exact rfl; exact rfl; exact HT.out.1; exact sizeNode _ _ _; exact all_oneCell_toArray HT.out.2; clear HT; generalize hw5 : World.setCells _ _ _ _ = w5 at o5 ⊢; generalize hg5 : w2.heap.size = g5 at o5 ⊢; clear hw5 hg5; have k0 : w5.cell? ⟨g5, 0, none⟩ = some (.int .i64 nd.kind) := (cell_of_row w5 _ _ _ _ _ (o5.box (g := g5) (o := .cells (nd.cells (.slice ka kl kc) (.slice aa al ac)).toArray 46 (0, 0)) (by simp))).trans rfl; have k7 : w5.cell? ⟨g5, 7, none⟩ = some (.string nd.data) := (cell_of_row w5 _ _ _ _ _ (o5.box (g := g5) (o := .cells (nd.cells (.slice ka kl kc) (.slice aa al ac)).toArray 46 (0, 0)) (by simp))).trans rfl; have q0 : w5.cell? ⟨w.heap.size, 0, none⟩ = some (.pointer (some ⟨b, 0, none⟩)) := box_cell (o5.box (g := w.heap.size) (o := .cells #[.pointer (some ⟨b, 0, none⟩)] 23 (0, 0)) (by simp)); have q9 : (w5.alloc (.cells #[.slice none 0 0] 145)).cell? ⟨w.heap.size, 0, none⟩ = some (.pointer (some ⟨b, 0, none⟩)) := box_cell ((o5.alloc (.cells #[.slice none 0 0] 145)).box (g := w.heap.size) (o := .cells #[.pointer (some ⟨b, 0, none⟩)] 23 (0, 0)) (by simp)))
    go_wp2_with fail
    refine (Below_any b h _).mono ?_
    rintro e w6 ⟨rfl, rfl⟩
    have o6 := ((o5.alloc (.cells #[.slice none 0 0] 145)).alloc (.cells #[.pointer (some ⟨b, 0, none⟩)] 23)).alloc (.cells #[.int .i64 h] 3)
    simp only [World.size_alloc] at o6
    have o7 := bytes_nil o6.rot3
    have hseq := hseq (w5.heap.size + 1) (w5.heap.size + 1 + 1)
    clear o5 o6 k0 k7 q0 q9
    go_wp2_with fail
    refine wpIn_wide.1 (wpIn_rangeFunc_G (n := 8) (α := Int) rfl (by omega) (gf := 181) (lb := #[.pointer (some ⟨w5.heap.size + 1, 0, none⟩), .pointer (some ⟨w5.heap.size + 1 + 1, 0, none⟩)]) rfl trivial (enters_of Tryz.func181 (by kernel_rfl) rfl)
      (Rd := belowRd A b (w5.heap.size + 1) (w5.heap.size + 1 + 1) h) belowRd_cons hseq (fun _ => rfl) o7
      (fun pre L' => (∃ rest, A.below h = pre ++ rest) ∧ ∃ va vc, L' = .bytes (.slice va (A.textOf pre).length vc) (A.textOf pre) :: .box w5.heap.size (.cells #[.slice va (A.textOf pre).length vc] 145 (0, 0)) :: .box (w5.heap.size + 1 + 1) (.cells #[.int .i64 h] 3 (0, 0)) :: .box (w5.heap.size + 1) (.cells #[.pointer (some ⟨b, 0, none⟩)] 23 (0, 0)) :: .box g5 (.cells (nd.cells (.slice ka kl kc) (.slice aa al ac)).toArray 46 (0, 0)) :: .arena b A :: .box w.heap.size (.cells #[.pointer (some ⟨b, 0, none⟩)] 23 (0, 0)) :: L)
      (fun _ _ _ => False) ?hLR ⟨⟨_, rfl⟩, none, 0, rfl⟩ ?a1 ?assign ?body ?done ?stop)
    case assign =>
      intro l' x W' K hK
      gi_wp2
      exact hK
    case hLR =>
      rintro pre L' ⟨-, va, vc, rfl⟩
      exact ⟨by simp, by simp, _, by simp, HTR.out⟩
    case body =>
      rintro l' G f pre x W' L' ⟨rest, hrest⟩ ⟨-, va, vc, rfl⟩ o
      have HP : Hid (∃ rest, A.below h = pre ++ [x] ++ rest) := Lib.hid ⟨rest, hrest⟩
      have hxA := HBM.out x (by rw [hrest]; simp)
      obtain ⟨xn, hxn⟩ : ∃ xn, A.get x = xn := ⟨_, rfl⟩
      have hto : A.textOf (pre ++ [x]) = A.textOf pre ++ if xn.kind = 5 then xn.data.toList else [] := by rw [textOf_app, textOf_one, hxn]
      have hlen : xn.kind = 5 → (A.textOf pre).length + xn.data.size ≤ 140737488355328 := fun q => by
        have := hm
        rw [hrest, textOf_app, List.length_append, hto, List.length_append, if_pos q, toList_len] at this
        omega
      have q0 : W'.cell? ⟨w.heap.size, 0, none⟩ = some (.pointer (some ⟨b, 0, none⟩)) := box_cell (o.box (g := w.heap.size) (o := .cells #[.pointer (some ⟨b, 0, none⟩)] 23 (0, 0)) (by simp))
      have HN := Lib.hid (HNX.out x hxA W' _ o (by simp) xn hxn)
      have HTO := Lib.hid hto
      clear o hrest hseq o7 hxA hxn hto HNX HBM HTR hm
      gi_wp2_with fail
      refine ⟨trivial, ?_⟩
      refine (CallsIn.inRound l' (callsIn_wide.2 HN.out)).mono ?_
      rintro e w6 ⟨kax, klx, kcx, aax, alx, acx, rfl, o6, -⟩
      clear HN q0
      by_cases h5 : xn.kind = 5
      · have e5 : (xn.kind == 5) = true := by simp [h5]
        have hle := hlen h5
        have hto := HTO.out
        rw [if_pos h5] at hto
        clear h5 hlen HTO
        have HT := Lib.hid (nodeBox_facts (w := w6) xn kax kcx aax acx klx alx)
        have o7 := o6.nodeBox xn (.slice kax klx kcx) (.slice aax alx acx)
        gi_wp2_with (first | (gi_at_builtin; refine wpListIn_append_str_at _ rfl _ _ 145 9 rfl B 5 i0 Tryz.underlying145 Tryz.underlying9 HI.out hz0 hz1 hz2 _ _ _ rfl HR.out xn.data rfl (by unfold maxLen; omega) (by omega) hBW ?_) | ((with_reducible refine wpListIn_store_mid ?_ 46 (.tmp 11) (.tmp 44) ?_ w6.heap.size 0 (xn.cells (.slice kax klx kcx) (.slice aax alx acx)).toArray ?_ ?_ ?_ ?_ ?_ ?_); exact rfl; exact rfl; exact rfl; exact rfl; exact HT.out.1; exact sizeNode _ _ _; exact all_oneCell_toArray HT.out.2; clear HT; generalize hw5 : World.setCells _ _ _ _ = w7 at o7 ⊢; generalize hg5 : w6.heap.size = g7 at o7 ⊢; clear hw5 hg5; have k0 : w7.cell? ⟨g7, 0, none⟩ = some (.int .i64 xn.kind) := (cell_of_row w7 _ _ _ _ _ (o7.box (g := g7) (o := .cells (xn.cells (.slice kax klx kcx) (.slice aax alx acx)).toArray 46 (0, 0)) (by simp))).trans rfl; have k7 : w7.cell? ⟨g7, 7, none⟩ = some (.string xn.data) := (cell_of_row w7 _ _ _ _ _ (o7.box (g := g7) (o := .cells (xn.cells (.slice kax klx kcx) (.slice aax alx acx)).toArray 46 (0, 0)) (by simp))).trans rfl; have k1 := box_cell (o7.box (g := w5.heap.size) (o := .cells #[.slice va (A.textOf pre).length vc] 145 (0, 0)) (by simp)); have hro := o7.row (e := 5) (size := 1) (v := .slice va (A.textOf pre).length vc) (n := (A.textOf pre).length) (xs := (A.textOf pre).map u8v) (by simp); have HO := Lib.hid o7; have HR := Lib.hid hro; have hBW : B ≤ w7.heap.size := o7.big; have HT2 := Lib.hid hto; clear o7 hro hto; generalize hbs : A.textOf pre = bs at *; generalize hbs2 : A.textOf (pre ++ [x]) = bs2 at *))
        intro v' w8 hown hgrow hat
        have o8 := ((HO.out.rot3).grow hown hgrow hat).rot4
        obtain ⟨va', vc', rfl⟩ := ownsForm hown
        have k3 := box_cell (o8.box (g := w5.heap.size) (o := .cells #[.slice va bs.length vc] 145 (0, 0)) (by simp))
        have f3 := box_free (o8.box (g := w5.heap.size) (o := .cells #[.slice va bs.length vc] 145 (0, 0)) (by simp))
        have o9 := (o8.set1 (u := .slice va' (bs.length + xn.data.size) vc')).rot3.drop.rot3.rot3.swap
        have e1 : bs.length + xn.data.size = bs2.length := by rw [HT2.out, List.length_append, toList_len]
        have e2 : bs.map u8v ++ Lib.strCells xn.data = bs2.map u8v := by rw [HT2.out, List.map_append, strCells_list]
        rw [e2] at o9
        rw [e1] at o9 ⊢
        have HK : Hid (∃ va vc, Own w0 B (.keep G f :: .bytes (.slice va bs2.length vc) bs2 :: .box w5.heap.size (.cells #[.slice va bs2.length vc] 145 (0, 0)) :: .box (w5.heap.size + 1 + 1) (.cells #[.int .i64 h] 3 (0, 0)) :: .box (w5.heap.size + 1) (.cells #[.pointer (some ⟨b, 0, none⟩)] 23 (0, 0)) :: .box g5 (.cells (nd.cells (.slice ka kl kc) (.slice aa al ac)).toArray 46 (0, 0)) :: .arena b A :: .box w.heap.size (.cells #[.pointer (some ⟨b, 0, none⟩)] 23 (0, 0)) :: L) (w8.setCell ⟨w5.heap.size, 0, none⟩ (.slice va' bs2.length vc'))) := Lib.hid ⟨_, _, o9⟩
        clear o8 o9 e1 e2 hown hgrow hat HO HR HT2
        gi_wp2
        obtain ⟨va2, vc2, HKO⟩ := HK.out
        exact ⟨_, ⟨HP.out, va2, vc2, by rw [hbs2]⟩, HKO⟩
      · have e5 : (xn.kind == 5) = false := by simp [h5]
        have hto := HTO.out
        rw [if_neg h5, List.append_nil] at hto
        have HT2 := Lib.hid hto
        clear hto h5 hlen HTO
        have HT := Lib.hid (nodeBox_facts (w := w6) xn kax kcx aax acx klx alx)
        have o7 := o6.nodeBox xn (.slice kax klx kcx) (.slice aax alx acx)
        gi_wp2_with ((with_reducible refine wpListIn_store_mid ?_ 46 (.tmp 11) (.tmp 44) ?_ w6.heap.size 0 (xn.cells (.slice kax klx kcx) (.slice aax alx acx)).toArray ?_ ?_ ?_ ?_ ?_ ?_); exact rfl; exact rfl; exact rfl; exact rfl; exact HT.out.1; exact sizeNode _ _ _; exact all_oneCell_toArray HT.out.2; clear HT; generalize hw5 : World.setCells _ _ _ _ = w7 at o7 ⊢; generalize hg5 : w6.heap.size = g7 at o7 ⊢; clear hw5 hg5; have k0 : w7.cell? ⟨g7, 0, none⟩ = some (.int .i64 xn.kind) := (cell_of_row w7 _ _ _ _ _ (o7.box (g := g7) (o := .cells (xn.cells (.slice kax klx kcx) (.slice aax alx acx)).toArray 46 (0, 0)) (by simp))).trans rfl; have k7 : w7.cell? ⟨g7, 7, none⟩ = some (.string xn.data) := (cell_of_row w7 _ _ _ _ _ (o7.box (g := g7) (o := .cells (xn.cells (.slice kax klx kcx) (.slice aax alx acx)).toArray 46 (0, 0)) (by simp))).trans rfl; have HK := Lib.hid o7.drop; clear o7)
        gi_wp2
        refine ⟨_, ⟨HP.out, va, vc, rfl⟩, ?_⟩
        rw [HT2.out]
        exact HK.out
    case done =>
      rintro xs W' L' rfl ⟨-, va, vc, rfl⟩ o
      simp only [World.size_alloc] at o
      generalize A.textOf (A.below h) = bs at *
      have hro := o.row (e := 5) (size := 1) (v := .slice va bs.length vc) (n := bs.length) (xs := bs.map u8v) (by simp)
      have hback := bytes_back hro
      have HO := Lib.hid o
      have q1 := box_cell (o.box (g := w5.heap.size) (o := .cells #[.slice va bs.length vc] 145 (0, 0)) (by simp))
      have hD := o.box (g := w5.heap.size + 1 + 1 + 1) (o := .deferred (some [])) (by simp)
      clear o hseq o7 hro
      generalize (⟨bs.toArray⟩ : ByteArray) = r at *
      go_wp2
      simp only [World.size_alloc]
      refine ⟨by simp, .inl ⟨_, _, rfl, run_takeDeferred hD, ?_⟩⟩
      refine ⟨.tuple #[.string r, .int .i64 0], by simp [results, Tryz.f38, go_sem], ?_⟩
      rw [HF.out]
      refine ⟨rfl, ?_⟩
      have o20 := (HO.out.setBox (upd_put (.deferred none) rfl) (World.putObj_heap_same (lt_of_block hD))).drop
      exact o20.drop.drop.drop.drop.drop.unbox
    case stop =>
      rintro c pre W' L' - hf -
      exact hf.elim
  · have HC1 := Lib.hid (Check1_own (opt := -1) (x := h) o1 (b := b) (A := A) (by simp) HS (chk1n.trans (if_neg hh)))
    simp only [World.size_alloc] at HC1
    have HF : Hid (A.textContent h = (ByteArray.empty, 3)) := Lib.hid (if_pos hh)
    clear o1 hI HS hm
    go_enter Tryz.func38, Tryz.ntmps38
    go_wp2_with fail
    refine HC1.out.mono ?_
    rintro e w1 ⟨rfl, o1⟩
    have HO := Lib.hid o1.unbox
    clear o1 HC1
    go_wp2
    go_ret2
    rw [HF.out]
    exact ⟨rfl, HO.out⟩

end Go.Proofs.YtpicinjcmjaogaaGreat
