/-
  Parts: D10.
-/
import Derived.Test.YtpicinjcmjaogaaGreatN17
import Derived.Test.YtpicinjcmjaogaaGreatN19

/- Contracts of dom: refused, Validate, Insert, Append, Replace, Remove, Detach, empty, ReplaceAll, Adopt. (Printed by gend10.py.) -/
namespace Go.Proofs.YtpicinjcmjaogaaGreat
open Go.RowKit Go.Shelf
set_option linter.unusedVariables false

attribute [local go_sem] Oper.semAt_some

theorem cells_written {X : World} {g : Nat} {cur : Array Value} {t : TypeId} (vs : List Value) (h : X.heap[g]? = some (.cells cur t (0, 0))) (hs : cur.size = vs.length) :
    (X.setCells g 0 vs).heap[g]? = some (.cells vs.toArray t (0, 0)) := by
  obtain ⟨cur', l1, l2, l3⟩ := setCells_block g t vs 0 X _ h
  have hcur : cur' = vs.toArray := by
    apply Array.ext_getElem?
    intro k
    rw [l3 k]
    by_cases hk : k < vs.length
    · rw [if_pos (by omega)]; simp
    · rw [if_neg (by omega), Array.getElem?_eq_none (by omega), Array.getElem?_eq_none (by simp; omega)]
  rw [← hcur]; exact l1
theorem cells_there {X : World} {g : Nat} {cur : Array Value} {t : TypeId} (vs : List Value) (h : X.heap[g]? = some (.cells cur t (0, 0))) (hs : cur.size = vs.length) : X.there g 0 vs.toArray.size := fun j hj => by
  rw [Nat.zero_add]
  exact ⟨by rw [cell_of_row X _ _ _ _ _ h]; simp at hj; simp; omega, frozen_of_row X _ _ _ _ h⟩
/-- A struct is made in new memory, and written. -/
theorem Own.newBox {w0 w : World} {B : Nat} {l : List Asrt} {t : TypeId} (o : Own w0 B l w) (z : Array Value) (vs : List Value) (hs : z.size = vs.length) :
    Own w0 B (.box w.heap.size (.cells vs.toArray t (0, 0)) :: l) ((w.alloc (.cells z t)).setCells w.heap.size 0 vs) := by
  have o1 := o.alloc (.cells z t)
  have hz : (w.alloc (.cells z t)).heap[w.heap.size]? = some (.cells z t (0, 0)) := heap_alloc_new w _
  exact o1.setBox ((Upd.refl (fun k => k = w.heap.size) _).setCells (b := w.heap.size) (.inr rfl) 0 vs) (cells_written vs hz hs)

theorem get3 {P : Nat → Int → Prop} {p n c : Int} : (∀ (i : Nat) x, [p, n, c][i]? = some x → P i x) ↔ P 0 p ∧ P 1 n ∧ P 2 c := by
  refine ⟨fun h => ⟨h 0 p rfl, h 1 n rfl, h 2 c rfl⟩, fun h i x hx => ?_⟩
  match i, hx with
  | 0, hx => cases hx; exact h.1
  | 1, hx => cases hx; exact h.2.1
  | 2, hx => cases hx; exact h.2.2
  | i + 3, hx => simp at hx
theorem get1' {P : Nat → Int → Prop} {p : Int} : (∀ (i : Nat) x, [p][i]? = some x → P i x) ↔ P 0 p := by
  refine ⟨fun h => h 0 p rfl, fun h i x hx => ?_⟩
  match i, hx with
  | 0, hx => cases hx; exact h
  | i + 1, hx => simp at hx
theorem chk3o {A : Ar} {p n c : Int} : chk A 2 [p, n, c] = if A.has p ∧ A.has n ∧ (c ≠ 0 → A.has c) then 0 else 3 := by
  unfold chk; simp only [get3]; congr 1; simp; intro _ _; exact ⟨fun h h0 => h.resolve_left h0, fun h => Classical.or_iff_not_imp_left.2 h⟩
theorem chk1n {A : Ar} {p : Int} : chk A (-1) [p] = if A.has p then 0 else 3 := by
  unfold chk; simp only [get1']; congr 1; simp <;> omega

theorem RInts_newL (w : World) (l : List Int) (t : TypeId) (hl : l.length ≤ 100) : RInts (w.alloc (.cells (l.map intv).toArray t)) (.slice (some ⟨w.heap.size, 0, none⟩) l.length l.length) l :=
  ⟨by simp, some ⟨w.heap.size, 0, none⟩, l.length, rfl, Nat.le_refl _, by unfold maxLen; omega, fun _ => ⟨_, 0, rfl, fun j v hj => by
    refine cell_new' rfl ?_
    simpa using hj⟩⟩
theorem Check1_own {w0 w : World} {B b : Nat} {A : Ar} {l : List Asrt} {opt x er : Int} (o : Own w0 B l w) (hm : Asrt.arena b A ∈ l) (hS : A.Short) (he : chk A opt [x] = er) :
    Calls Tryz.prog 89 #[.pointer (some ⟨b, 0, none⟩), .int .i64 opt, .slice (some ⟨w.heap.size, 0, none⟩) 1 1] (w.alloc (.cells #[.int .i64 x] 3)) fun e w' => e = .returned (.int .i64 er) ∧ Own w0 B l w' := by
  subst he
  have o1 := (o.alloc (.cells #[.int .i64 x] 3))
  refine (CheckD_own o1 (by simp [hm]) hS _ [x] (RInts_newL w [x] _ (by simp))).mono ?_
  rintro e w' ⟨rfl, o2, -⟩
  exact ⟨rfl, o2.drop⟩
theorem Check3_own {w0 w : World} {B b : Nat} {A : Ar} {l : List Asrt} {opt x y z er : Int} (o : Own w0 B l w) (hm : Asrt.arena b A ∈ l) (hS : A.Short) (he : chk A opt [x, y, z] = er) :
    Calls Tryz.prog 89 #[.pointer (some ⟨b, 0, none⟩), .int .i64 opt, .slice (some ⟨w.heap.size, 0, none⟩) 3 3] (w.alloc (.cells #[.int .i64 x, .int .i64 y, .int .i64 z] 3)) fun e w' => e = .returned (.int .i64 er) ∧ Own w0 B l w' := by
  subst he
  have o1 := (o.alloc (.cells #[.int .i64 x, .int .i64 y, .int .i64 z] 3))
  refine (CheckD_own o1 (by simp [hm]) hS _ [x, y, z] (RInts_newL w [x, y, z] _ (by simp))).mono ?_
  rintro e w' ⟨rfl, o2, -⟩
  exact ⟨rfl, o2.drop⟩

set_option maxRecDepth 100000 in
set_option maxHeartbeats 4000000 in
theorem refused_own {w0 w : World} {B b : Nat} {A : Ar} {l : List Asrt} {p n c : Int} {r : Bool} (o : Own w0 B l w) (hm : Asrt.arena b A ∈ l) (hI : A.Inv) (hs : A.ns.length ≤ 100000) (hp : A.has p) (hn : A.has n) (hcc : c ≠ 0 → A.has c) :
    Calls Tryz.prog 119 #[.agg #[.pointer (some ⟨b, 0, none⟩), .int .i64 p, .int .i64 n, .int .i64 c, .bool r]] w fun e w' => e = .returned (.int .i64 (A.refused p n c r)) ∧ Own w0 B l w' := by
  have o1 := o.alloc (.cells #[.pointer (some ⟨b, 0, none⟩), .int .i64 p, .int .i64 n, .int .i64 c, .bool r] 141)
  have o2 := o1.alloc (.cells rulesC 184)
  have HO2 := Lib.hid o2
  have HM := Lib.hid hm
  have HI := Lib.hid hI
  have HP := Lib.hid (And.intro hp (And.intro hn hcc))
  have HR0 : Hid (A.refused p n c r = A.ruleFrom p n c r 0 (6 - 0)) := Lib.hid rfl
  clear o o1 o2 hm hI hp hn hcc
  go_enter Tryz.func119, Tryz.ntmps119
  go_wp2_with fail
  refine (Rules_any _).mono ?_
  rintro e w1 ⟨rfl, hw1⟩
  rw [← hw1] at HO2
  generalize hg : w.heap.size = g at *
  generalize htb : (w.alloc (.cells #[.pointer (some ⟨b, 0, none⟩), .int .i64 p, .int .i64 n, .int .i64 c, .bool r] 141)).heap.size = tb at *
  clear hw1 hg htb
  go_wp2
  go_loopw [7] (fun i wr => ∃ k : Nat, k ≤ 6 ∧ i = .int .i64 k ∧ Hid (A.refused p n c r = A.ruleFrom p n c r k (6 - k)) ∧ Hid (Own w0 B (.box tb (.cells rulesC 184 (0, 0)) :: .box g (mvO b p n c r) :: l) wr)) (fun i _ => 6 - (intOf i).toNat)
  case atStart => exact ⟨0, by omega, rfl, HR0, HO2⟩
  case round =>
    obtain ⟨k, hk, rfl, hR, hT⟩ := hrel
    clear HO2 HR0
    by_cases hlt : k < 6
    · obtain rfl | rfl | rfl | rfl | rfl | rfl : k = 0 ∨ k = 1 ∨ k = 2 ∨ k = 3 ∨ k = 4 ∨ k = 5 := by omega
      · have hEq : Hid (A.refused p n c r = if A.rule p n c r 0 then ruleCode 0 else A.ruleFrom p n c r (0 + 1) (6 - (0 + 1))) := Lib.hid (by rw [hR.out]; rfl)
        have r0 : wr.cell? ⟨tb, 0, none⟩ = some (.func (.func 218) #[] #[]) := (cell_of_row wr _ _ _ _ _ (hT.out.box (g := tb) (o := .cells rulesC 184 (0, 0)) (by simp))).trans rfl
        have r1 : wr.cell? ⟨tb, 1, none⟩ = some (.int .i64 4) := (cell_of_row wr _ _ _ _ _ (hT.out.box (g := tb) (o := .cells rulesC 184 (0, 0)) (by simp))).trans rfl
        have o5 := hT.out.newBox (t := 184) #[.nilFunc, .int .i64 0] [.func (.func 218) #[] #[], .int .i64 4] rfl
        have HTH := Lib.hid (cells_there (X := wr.alloc (.cells #[.nilFunc, .int .i64 0] 184)) [.func (.func 218) #[] #[], .int .i64 4] (heap_alloc_new wr _) rfl)
        have HSZ : Hid ((Tryz.prog.info? 184).map (·.size) = some 2) := Lib.hid (by kernel_rfl)
        clear hR hT hk hlt
        go_wp2_with ((with_reducible refine wpList_store_mid ?_ 184 (.tmp 4) (.tmp 10) ?_ wr.heap.size 0 #[.func (.func 218) #[] #[], .int .i64 4] ?_ ?_ ?_ ?_ ?_ ?_); exact rfl; exact rfl; exact rfl; exact rfl; exact HTH.out; exact HSZ.out; exact all_oneCell_toArray (cs := [.func (.func 218) #[] #[], .int .i64 4]) (fun v hv => by simp only [List.mem_cons, List.not_mem_nil, or_false] at hv; rcases hv with rfl | rfl <;> rfl); clear HTH HSZ; generalize hw5 : World.setCells _ _ _ _ = w5 at o5 ⊢; generalize hg5 : wr.heap.size = g5 at o5 ⊢; clear hw5 hg5 r0 r1; have q0 : w5.cell? ⟨g5, 0, none⟩ = some (.func (.func 218) #[] #[]) := (cell_of_row w5 _ _ _ _ _ (o5.box (g := g5) (o := .cells [.func (.func 218) #[] #[], .int .i64 4].toArray 184 (0, 0)) (by simp))).trans rfl; obtain ⟨m1, m2, m3, m4, m5⟩ := mv_cells (o5.box (g := g) (o := mvO b p n c r) (by simp)))
        have HC := Lib.hid (Rule0_own (b := b) (A := A) (r := r) (n := n) (p := p) (c := c) o5 (by simp [HM.out]) HI.out hs HP.out.1 HP.out.2.1 HP.out.2.2)
        generalize hd : decide (A.rule p n c r 0) = d at HC
        clear o5
        cases d with
        | true =>
          have HF : Hid (A.refused p n c r = 4) := Lib.hid (by rw [hEq.out, if_pos (of_decide_eq_true hd)]; rfl)
          clear hd hEq
          go_wp2_with fail
          refine HC.out.mono ?_
          rintro e w6 ⟨rfl, o6⟩
          have q1 : w6.cell? ⟨g5, 1, none⟩ = some (.int .i64 4) := (cell_of_row w6 _ _ _ _ _ (o6.box (g := g5) (o := .cells [.func (.func 218) #[] #[], .int .i64 4].toArray 184 (0, 0)) (by simp))).trans rfl
          have HO6 := Lib.hid o6
          clear HC o6 q0 m1 m2 m3 m4 m5
          go_wp2
          go_ret
          exact ⟨by rw [HF.out]; try rfl, HO6.out.drop.drop.drop⟩
        | false =>
          have HF : Hid (A.refused p n c r = A.ruleFrom p n c r (0 + 1) (6 - (0 + 1))) := Lib.hid (by rw [hEq.out, if_neg (of_decide_eq_false hd)])
          clear hd hEq
          go_wp2_with fail
          refine HC.out.mono ?_
          rintro e w6 ⟨rfl, o6⟩
          have HO6 := Lib.hid o6.drop
          clear HC o6 q0 m1 m2 m3 m4 m5
          go_wp2
          go_roundw
          case rel => exact ⟨0 + 1, by omega, by go_num, HF, HO6⟩
          case measure => simp [intOf]
      · have hEq : Hid (A.refused p n c r = if A.rule p n c r 1 then ruleCode 1 else A.ruleFrom p n c r (1 + 1) (6 - (1 + 1))) := Lib.hid (by rw [hR.out]; rfl)
        have r0 : wr.cell? ⟨tb, 2, none⟩ = some (.func (.func 219) #[] #[]) := (cell_of_row wr _ _ _ _ _ (hT.out.box (g := tb) (o := .cells rulesC 184 (0, 0)) (by simp))).trans rfl
        have r1 : wr.cell? ⟨tb, 3, none⟩ = some (.int .i64 4) := (cell_of_row wr _ _ _ _ _ (hT.out.box (g := tb) (o := .cells rulesC 184 (0, 0)) (by simp))).trans rfl
        have o5 := hT.out.newBox (t := 184) #[.nilFunc, .int .i64 0] [.func (.func 219) #[] #[], .int .i64 4] rfl
        have HTH := Lib.hid (cells_there (X := wr.alloc (.cells #[.nilFunc, .int .i64 0] 184)) [.func (.func 219) #[] #[], .int .i64 4] (heap_alloc_new wr _) rfl)
        have HSZ : Hid ((Tryz.prog.info? 184).map (·.size) = some 2) := Lib.hid (by kernel_rfl)
        clear hR hT hk hlt
        go_wp2_with ((with_reducible refine wpList_store_mid ?_ 184 (.tmp 4) (.tmp 10) ?_ wr.heap.size 0 #[.func (.func 219) #[] #[], .int .i64 4] ?_ ?_ ?_ ?_ ?_ ?_); exact rfl; exact rfl; exact rfl; exact rfl; exact HTH.out; exact HSZ.out; exact all_oneCell_toArray (cs := [.func (.func 219) #[] #[], .int .i64 4]) (fun v hv => by simp only [List.mem_cons, List.not_mem_nil, or_false] at hv; rcases hv with rfl | rfl <;> rfl); clear HTH HSZ; generalize hw5 : World.setCells _ _ _ _ = w5 at o5 ⊢; generalize hg5 : wr.heap.size = g5 at o5 ⊢; clear hw5 hg5 r0 r1; have q0 : w5.cell? ⟨g5, 0, none⟩ = some (.func (.func 219) #[] #[]) := (cell_of_row w5 _ _ _ _ _ (o5.box (g := g5) (o := .cells [.func (.func 219) #[] #[], .int .i64 4].toArray 184 (0, 0)) (by simp))).trans rfl; obtain ⟨m1, m2, m3, m4, m5⟩ := mv_cells (o5.box (g := g) (o := mvO b p n c r) (by simp)))
        have HC := Lib.hid (Rule1_own (b := b) (A := A) (r := r) (n := n) (p := p) (c := c) o5 (by simp [HM.out]) HI.out hs HP.out.1 HP.out.2.1 HP.out.2.2)
        generalize hd : decide (A.rule p n c r 1) = d at HC
        clear o5
        cases d with
        | true =>
          have HF : Hid (A.refused p n c r = 4) := Lib.hid (by rw [hEq.out, if_pos (of_decide_eq_true hd)]; rfl)
          clear hd hEq
          go_wp2_with fail
          refine HC.out.mono ?_
          rintro e w6 ⟨rfl, o6⟩
          have q1 : w6.cell? ⟨g5, 1, none⟩ = some (.int .i64 4) := (cell_of_row w6 _ _ _ _ _ (o6.box (g := g5) (o := .cells [.func (.func 219) #[] #[], .int .i64 4].toArray 184 (0, 0)) (by simp))).trans rfl
          have HO6 := Lib.hid o6
          clear HC o6 q0 m1 m2 m3 m4 m5
          go_wp2
          go_ret
          exact ⟨by rw [HF.out]; try rfl, HO6.out.drop.drop.drop⟩
        | false =>
          have HF : Hid (A.refused p n c r = A.ruleFrom p n c r (1 + 1) (6 - (1 + 1))) := Lib.hid (by rw [hEq.out, if_neg (of_decide_eq_false hd)])
          clear hd hEq
          go_wp2_with fail
          refine HC.out.mono ?_
          rintro e w6 ⟨rfl, o6⟩
          have HO6 := Lib.hid o6.drop
          clear HC o6 q0 m1 m2 m3 m4 m5
          go_wp2
          go_roundw
          case rel => exact ⟨1 + 1, by omega, by go_num, HF, HO6⟩
          case measure => simp [intOf]
      · have hEq : Hid (A.refused p n c r = if A.rule p n c r 2 then ruleCode 2 else A.ruleFrom p n c r (2 + 1) (6 - (2 + 1))) := Lib.hid (by rw [hR.out]; rfl)
        have r0 : wr.cell? ⟨tb, 4, none⟩ = some (.func (.func 220) #[] #[]) := (cell_of_row wr _ _ _ _ _ (hT.out.box (g := tb) (o := .cells rulesC 184 (0, 0)) (by simp))).trans rfl
        have r1 : wr.cell? ⟨tb, 5, none⟩ = some (.int .i64 5) := (cell_of_row wr _ _ _ _ _ (hT.out.box (g := tb) (o := .cells rulesC 184 (0, 0)) (by simp))).trans rfl
        have o5 := hT.out.newBox (t := 184) #[.nilFunc, .int .i64 0] [.func (.func 220) #[] #[], .int .i64 5] rfl
        have HTH := Lib.hid (cells_there (X := wr.alloc (.cells #[.nilFunc, .int .i64 0] 184)) [.func (.func 220) #[] #[], .int .i64 5] (heap_alloc_new wr _) rfl)
        have HSZ : Hid ((Tryz.prog.info? 184).map (·.size) = some 2) := Lib.hid (by kernel_rfl)
        clear hR hT hk hlt
        go_wp2_with ((with_reducible refine wpList_store_mid ?_ 184 (.tmp 4) (.tmp 10) ?_ wr.heap.size 0 #[.func (.func 220) #[] #[], .int .i64 5] ?_ ?_ ?_ ?_ ?_ ?_); exact rfl; exact rfl; exact rfl; exact rfl; exact HTH.out; exact HSZ.out; exact all_oneCell_toArray (cs := [.func (.func 220) #[] #[], .int .i64 5]) (fun v hv => by simp only [List.mem_cons, List.not_mem_nil, or_false] at hv; rcases hv with rfl | rfl <;> rfl); clear HTH HSZ; generalize hw5 : World.setCells _ _ _ _ = w5 at o5 ⊢; generalize hg5 : wr.heap.size = g5 at o5 ⊢; clear hw5 hg5 r0 r1; have q0 : w5.cell? ⟨g5, 0, none⟩ = some (.func (.func 220) #[] #[]) := (cell_of_row w5 _ _ _ _ _ (o5.box (g := g5) (o := .cells [.func (.func 220) #[] #[], .int .i64 5].toArray 184 (0, 0)) (by simp))).trans rfl; obtain ⟨m1, m2, m3, m4, m5⟩ := mv_cells (o5.box (g := g) (o := mvO b p n c r) (by simp)))
        have HC := Lib.hid (Rule2_own (b := b) (A := A) (r := r) (n := n) (p := p) (c := c) o5 (by simp [HM.out]) HI.out hs HP.out.1 HP.out.2.1 HP.out.2.2)
        generalize hd : decide (A.rule p n c r 2) = d at HC
        clear o5
        cases d with
        | true =>
          have HF : Hid (A.refused p n c r = 5) := Lib.hid (by rw [hEq.out, if_pos (of_decide_eq_true hd)]; rfl)
          clear hd hEq
          go_wp2_with fail
          refine HC.out.mono ?_
          rintro e w6 ⟨rfl, o6⟩
          have q1 : w6.cell? ⟨g5, 1, none⟩ = some (.int .i64 5) := (cell_of_row w6 _ _ _ _ _ (o6.box (g := g5) (o := .cells [.func (.func 220) #[] #[], .int .i64 5].toArray 184 (0, 0)) (by simp))).trans rfl
          have HO6 := Lib.hid o6
          clear HC o6 q0 m1 m2 m3 m4 m5
          go_wp2
          go_ret
          exact ⟨by rw [HF.out]; try rfl, HO6.out.drop.drop.drop⟩
        | false =>
          have HF : Hid (A.refused p n c r = A.ruleFrom p n c r (2 + 1) (6 - (2 + 1))) := Lib.hid (by rw [hEq.out, if_neg (of_decide_eq_false hd)])
          clear hd hEq
          go_wp2_with fail
          refine HC.out.mono ?_
          rintro e w6 ⟨rfl, o6⟩
          have HO6 := Lib.hid o6.drop
          clear HC o6 q0 m1 m2 m3 m4 m5
          go_wp2
          go_roundw
          case rel => exact ⟨2 + 1, by omega, by go_num, HF, HO6⟩
          case measure => simp [intOf]
      · have hEq : Hid (A.refused p n c r = if A.rule p n c r 3 then ruleCode 3 else A.ruleFrom p n c r (3 + 1) (6 - (3 + 1))) := Lib.hid (by rw [hR.out]; rfl)
        have r0 : wr.cell? ⟨tb, 6, none⟩ = some (.func (.func 221) #[] #[]) := (cell_of_row wr _ _ _ _ _ (hT.out.box (g := tb) (o := .cells rulesC 184 (0, 0)) (by simp))).trans rfl
        have r1 : wr.cell? ⟨tb, 7, none⟩ = some (.int .i64 4) := (cell_of_row wr _ _ _ _ _ (hT.out.box (g := tb) (o := .cells rulesC 184 (0, 0)) (by simp))).trans rfl
        have o5 := hT.out.newBox (t := 184) #[.nilFunc, .int .i64 0] [.func (.func 221) #[] #[], .int .i64 4] rfl
        have HTH := Lib.hid (cells_there (X := wr.alloc (.cells #[.nilFunc, .int .i64 0] 184)) [.func (.func 221) #[] #[], .int .i64 4] (heap_alloc_new wr _) rfl)
        have HSZ : Hid ((Tryz.prog.info? 184).map (·.size) = some 2) := Lib.hid (by kernel_rfl)
        clear hR hT hk hlt
        go_wp2_with ((with_reducible refine wpList_store_mid ?_ 184 (.tmp 4) (.tmp 10) ?_ wr.heap.size 0 #[.func (.func 221) #[] #[], .int .i64 4] ?_ ?_ ?_ ?_ ?_ ?_); exact rfl; exact rfl; exact rfl; exact rfl; exact HTH.out; exact HSZ.out; exact all_oneCell_toArray (cs := [.func (.func 221) #[] #[], .int .i64 4]) (fun v hv => by simp only [List.mem_cons, List.not_mem_nil, or_false] at hv; rcases hv with rfl | rfl <;> rfl); clear HTH HSZ; generalize hw5 : World.setCells _ _ _ _ = w5 at o5 ⊢; generalize hg5 : wr.heap.size = g5 at o5 ⊢; clear hw5 hg5 r0 r1; have q0 : w5.cell? ⟨g5, 0, none⟩ = some (.func (.func 221) #[] #[]) := (cell_of_row w5 _ _ _ _ _ (o5.box (g := g5) (o := .cells [.func (.func 221) #[] #[], .int .i64 4].toArray 184 (0, 0)) (by simp))).trans rfl; obtain ⟨m1, m2, m3, m4, m5⟩ := mv_cells (o5.box (g := g) (o := mvO b p n c r) (by simp)))
        have HC := Lib.hid (Rule3_own (b := b) (A := A) (r := r) (n := n) (p := p) (c := c) o5 (by simp [HM.out]) HI.out hs HP.out.1 HP.out.2.1 HP.out.2.2)
        generalize hd : decide (A.rule p n c r 3) = d at HC
        clear o5
        cases d with
        | true =>
          have HF : Hid (A.refused p n c r = 4) := Lib.hid (by rw [hEq.out, if_pos (of_decide_eq_true hd)]; rfl)
          clear hd hEq
          go_wp2_with fail
          refine HC.out.mono ?_
          rintro e w6 ⟨rfl, o6⟩
          have q1 : w6.cell? ⟨g5, 1, none⟩ = some (.int .i64 4) := (cell_of_row w6 _ _ _ _ _ (o6.box (g := g5) (o := .cells [.func (.func 221) #[] #[], .int .i64 4].toArray 184 (0, 0)) (by simp))).trans rfl
          have HO6 := Lib.hid o6
          clear HC o6 q0 m1 m2 m3 m4 m5
          go_wp2
          go_ret
          exact ⟨by rw [HF.out]; try rfl, HO6.out.drop.drop.drop⟩
        | false =>
          have HF : Hid (A.refused p n c r = A.ruleFrom p n c r (3 + 1) (6 - (3 + 1))) := Lib.hid (by rw [hEq.out, if_neg (of_decide_eq_false hd)])
          clear hd hEq
          go_wp2_with fail
          refine HC.out.mono ?_
          rintro e w6 ⟨rfl, o6⟩
          have HO6 := Lib.hid o6.drop
          clear HC o6 q0 m1 m2 m3 m4 m5
          go_wp2
          go_roundw
          case rel => exact ⟨3 + 1, by omega, by go_num, HF, HO6⟩
          case measure => simp [intOf]
      · have hEq : Hid (A.refused p n c r = if A.rule p n c r 4 then ruleCode 4 else A.ruleFrom p n c r (4 + 1) (6 - (4 + 1))) := Lib.hid (by rw [hR.out]; rfl)
        have r0 : wr.cell? ⟨tb, 8, none⟩ = some (.func (.func 222) #[] #[]) := (cell_of_row wr _ _ _ _ _ (hT.out.box (g := tb) (o := .cells rulesC 184 (0, 0)) (by simp))).trans rfl
        have r1 : wr.cell? ⟨tb, 9, none⟩ = some (.int .i64 4) := (cell_of_row wr _ _ _ _ _ (hT.out.box (g := tb) (o := .cells rulesC 184 (0, 0)) (by simp))).trans rfl
        have o5 := hT.out.newBox (t := 184) #[.nilFunc, .int .i64 0] [.func (.func 222) #[] #[], .int .i64 4] rfl
        have HTH := Lib.hid (cells_there (X := wr.alloc (.cells #[.nilFunc, .int .i64 0] 184)) [.func (.func 222) #[] #[], .int .i64 4] (heap_alloc_new wr _) rfl)
        have HSZ : Hid ((Tryz.prog.info? 184).map (·.size) = some 2) := Lib.hid (by kernel_rfl)
        clear hR hT hk hlt
        go_wp2_with ((with_reducible refine wpList_store_mid ?_ 184 (.tmp 4) (.tmp 10) ?_ wr.heap.size 0 #[.func (.func 222) #[] #[], .int .i64 4] ?_ ?_ ?_ ?_ ?_ ?_); exact rfl; exact rfl; exact rfl; exact rfl; exact HTH.out; exact HSZ.out; exact all_oneCell_toArray (cs := [.func (.func 222) #[] #[], .int .i64 4]) (fun v hv => by simp only [List.mem_cons, List.not_mem_nil, or_false] at hv; rcases hv with rfl | rfl <;> rfl); clear HTH HSZ; generalize hw5 : World.setCells _ _ _ _ = w5 at o5 ⊢; generalize hg5 : wr.heap.size = g5 at o5 ⊢; clear hw5 hg5 r0 r1; have q0 : w5.cell? ⟨g5, 0, none⟩ = some (.func (.func 222) #[] #[]) := (cell_of_row w5 _ _ _ _ _ (o5.box (g := g5) (o := .cells [.func (.func 222) #[] #[], .int .i64 4].toArray 184 (0, 0)) (by simp))).trans rfl; obtain ⟨m1, m2, m3, m4, m5⟩ := mv_cells (o5.box (g := g) (o := mvO b p n c r) (by simp)))
        have HC := Lib.hid (Rule4_own (b := b) (A := A) (r := r) (n := n) (p := p) (c := c) o5 (by simp [HM.out]) HI.out hs HP.out.1 HP.out.2.1 HP.out.2.2)
        generalize hd : decide (A.rule p n c r 4) = d at HC
        clear o5
        cases d with
        | true =>
          have HF : Hid (A.refused p n c r = 4) := Lib.hid (by rw [hEq.out, if_pos (of_decide_eq_true hd)]; rfl)
          clear hd hEq
          go_wp2_with fail
          refine HC.out.mono ?_
          rintro e w6 ⟨rfl, o6⟩
          have q1 : w6.cell? ⟨g5, 1, none⟩ = some (.int .i64 4) := (cell_of_row w6 _ _ _ _ _ (o6.box (g := g5) (o := .cells [.func (.func 222) #[] #[], .int .i64 4].toArray 184 (0, 0)) (by simp))).trans rfl
          have HO6 := Lib.hid o6
          clear HC o6 q0 m1 m2 m3 m4 m5
          go_wp2
          go_ret
          exact ⟨by rw [HF.out]; try rfl, HO6.out.drop.drop.drop⟩
        | false =>
          have HF : Hid (A.refused p n c r = A.ruleFrom p n c r (4 + 1) (6 - (4 + 1))) := Lib.hid (by rw [hEq.out, if_neg (of_decide_eq_false hd)])
          clear hd hEq
          go_wp2_with fail
          refine HC.out.mono ?_
          rintro e w6 ⟨rfl, o6⟩
          have HO6 := Lib.hid o6.drop
          clear HC o6 q0 m1 m2 m3 m4 m5
          go_wp2
          go_roundw
          case rel => exact ⟨4 + 1, by omega, by go_num, HF, HO6⟩
          case measure => simp [intOf]
      · have hEq : Hid (A.refused p n c r = if A.rule p n c r 5 then ruleCode 5 else A.ruleFrom p n c r (5 + 1) (6 - (5 + 1))) := Lib.hid (by rw [hR.out]; rfl)
        have r0 : wr.cell? ⟨tb, 10, none⟩ = some (.func (.func 223) #[] #[]) := (cell_of_row wr _ _ _ _ _ (hT.out.box (g := tb) (o := .cells rulesC 184 (0, 0)) (by simp))).trans rfl
        have r1 : wr.cell? ⟨tb, 11, none⟩ = some (.int .i64 4) := (cell_of_row wr _ _ _ _ _ (hT.out.box (g := tb) (o := .cells rulesC 184 (0, 0)) (by simp))).trans rfl
        have o5 := hT.out.newBox (t := 184) #[.nilFunc, .int .i64 0] [.func (.func 223) #[] #[], .int .i64 4] rfl
        have HTH := Lib.hid (cells_there (X := wr.alloc (.cells #[.nilFunc, .int .i64 0] 184)) [.func (.func 223) #[] #[], .int .i64 4] (heap_alloc_new wr _) rfl)
        have HSZ : Hid ((Tryz.prog.info? 184).map (·.size) = some 2) := Lib.hid (by kernel_rfl)
        clear hR hT hk hlt
        go_wp2_with ((with_reducible refine wpList_store_mid ?_ 184 (.tmp 4) (.tmp 10) ?_ wr.heap.size 0 #[.func (.func 223) #[] #[], .int .i64 4] ?_ ?_ ?_ ?_ ?_ ?_); exact rfl; exact rfl; exact rfl; exact rfl; exact HTH.out; exact HSZ.out; exact all_oneCell_toArray (cs := [.func (.func 223) #[] #[], .int .i64 4]) (fun v hv => by simp only [List.mem_cons, List.not_mem_nil, or_false] at hv; rcases hv with rfl | rfl <;> rfl); clear HTH HSZ; generalize hw5 : World.setCells _ _ _ _ = w5 at o5 ⊢; generalize hg5 : wr.heap.size = g5 at o5 ⊢; clear hw5 hg5 r0 r1; have q0 : w5.cell? ⟨g5, 0, none⟩ = some (.func (.func 223) #[] #[]) := (cell_of_row w5 _ _ _ _ _ (o5.box (g := g5) (o := .cells [.func (.func 223) #[] #[], .int .i64 4].toArray 184 (0, 0)) (by simp))).trans rfl; obtain ⟨m1, m2, m3, m4, m5⟩ := mv_cells (o5.box (g := g) (o := mvO b p n c r) (by simp)))
        have HC := Lib.hid (Rule5_own (b := b) (A := A) (r := r) (n := n) (p := p) (c := c) o5 (by simp [HM.out]) HI.out hs HP.out.1 HP.out.2.1 HP.out.2.2)
        generalize hd : decide (A.rule p n c r 5) = d at HC
        clear o5
        cases d with
        | true =>
          have HF : Hid (A.refused p n c r = 4) := Lib.hid (by rw [hEq.out, if_pos (of_decide_eq_true hd)]; rfl)
          clear hd hEq
          go_wp2_with fail
          refine HC.out.mono ?_
          rintro e w6 ⟨rfl, o6⟩
          have q1 : w6.cell? ⟨g5, 1, none⟩ = some (.int .i64 4) := (cell_of_row w6 _ _ _ _ _ (o6.box (g := g5) (o := .cells [.func (.func 223) #[] #[], .int .i64 4].toArray 184 (0, 0)) (by simp))).trans rfl
          have HO6 := Lib.hid o6
          clear HC o6 q0 m1 m2 m3 m4 m5
          go_wp2
          go_ret
          exact ⟨by rw [HF.out]; try rfl, HO6.out.drop.drop.drop⟩
        | false =>
          have HF : Hid (A.refused p n c r = A.ruleFrom p n c r (5 + 1) (6 - (5 + 1))) := Lib.hid (by rw [hEq.out, if_neg (of_decide_eq_false hd)])
          clear hd hEq
          go_wp2_with fail
          refine HC.out.mono ?_
          rintro e w6 ⟨rfl, o6⟩
          have HO6 := Lib.hid o6.drop
          clear HC o6 q0 m1 m2 m3 m4 m5
          go_wp2
          go_roundw
          case rel => exact ⟨5 + 1, by omega, by go_num, HF, HO6⟩
          case measure => simp [intOf]
    · obtain rfl : k = 6 := by omega
      have HF : Hid (A.refused p n c r = 0) := Lib.hid (by rw [hR.out]; rfl)
      clear hR
      go_wp2
      go_ret
      exact ⟨by rw [HF.out]; try rfl, hT.out.drop.drop⟩

set_option maxRecDepth 100000 in
set_option maxHeartbeats 1000000 in
theorem ValidateD_own {w0 w : World} {B b : Nat} {A : Ar} {l : List Asrt} {p n c : Int} (o : Own w0 B l w) (hm : Asrt.arena b A ∈ l) (hI : A.Inv) (hs : A.ns.length ≤ 100000) :
    Calls Tryz.prog 44 #[.pointer (some ⟨b, 0, none⟩), .int .i64 p, .int .i64 n, .int .i64 c] w fun e w' => e = .returned (.int .i64 (A.validate p n c)) ∧ Own w0 B l w' := by
  have HS := hI.short (show A.ns.length ≤ 1000000 by omega)
  by_cases hh : A.has p ∧ A.has n ∧ (c ≠ 0 → A.has c)
  · have HC := Lib.hid (Check3_own (opt := 2) (x := p) (y := n) (z := c) o hm HS (chk3o.trans (if_pos hh)))
    have HV : Hid (A.validate p n c = A.refused p n c false) := Lib.hid (if_pos hh)
    have HR := Lib.hid (fun W (q : Own w0 B l W) => refused_own (r := false) q hm hI hs hh.1 hh.2.1 hh.2.2)
    clear o hm hI HS hh
    go_enter Tryz.func44, Tryz.ntmps44
    go_wp2_with fail
    refine HC.out.mono ?_
    rintro e w1 ⟨rfl, o1⟩
    have HR1 := Lib.hid (HR.out _ o1)
    clear HC HR o1
    go_wp2_with fail
    refine HR1.out.mono ?_
    rintro e w2 ⟨rfl, o2⟩
    have HO := Lib.hid o2
    clear HR1 o2
    go_wp2
    go_ret
    exact ⟨by rw [HV.out]; try rfl, HO.out⟩
  · have HC := Lib.hid (Check3_own (opt := 2) (x := p) (y := n) (z := c) o hm HS (chk3o.trans (if_neg hh)))
    have HV : Hid (A.validate p n c = 3) := Lib.hid (if_neg hh)
    clear o hm hI HS hh
    go_enter Tryz.func44, Tryz.ntmps44
    go_wp2_with fail
    refine HC.out.mono ?_
    rintro e w1 ⟨rfl, o1⟩
    have HO := Lib.hid o1
    clear HC o1
    go_wp2
    go_ret
    exact ⟨by rw [HV.out]; try rfl, HO.out⟩

theorem validate_has {A : Ar} {p n c : Int} (h : A.validate p n c = 0) : A.has p ∧ A.has n ∧ (c ≠ 0 → A.has c) := by
  refine Classical.byContradiction fun q => ?_
  unfold Ar.validate at h
  rw [if_neg q] at h
  exact absurd h (by decide)

set_option maxRecDepth 100000 in
set_option maxHeartbeats 1000000 in
theorem InsertD_own {w0 w : World} {B b : Nat} {A : Ar} {L : List Asrt} {p n c : Int} (o : Own w0 B (.arena b A :: L) w) (hI : A.Inv) (hs : A.ns.length + 1 ≤ 100000) :
    Calls Tryz.prog 51 #[.pointer (some ⟨b, 0, none⟩), .int .i64 p, .int .i64 n, .int .i64 c] w fun e w' => e = .returned (.int .i64 (A.insertCall p n c).1) ∧ Own w0 B (.arena b (A.insertCall p n c).2 :: L) w' := by
  have HV := Lib.hid (ValidateD_own (b := b) (A := A) (p := p) (n := n) (c := c) o (by simp) hI (by omega))
  clear o
  by_cases hv : A.validate p n c = 0
  · obtain ⟨hp, hn, hcc⟩ := validate_has hv
    have HE : Hid (A.insertCall p n c = (0, A.insertAt p n (if c = n then A.next n else c))) := Lib.hid (if_neg (fun q => q hv))
    rw [hv] at HV
    have HN := Lib.hid (fun W (q : Own w0 B (.arena b A :: L) W) => Next_own (b := b) (A := A) q (by simp) hI (by omega) hn)
    have HI2 := Lib.hid (fun c' W (q : Own w0 B (.arena b A :: L) W) => insert_own (c := c') hI hp hn hs q)
    clear hv hp hn hcc hI
    by_cases hcn : c = n
    · have e1 : (c == n) = true := by simp [hcn]
      rw [if_pos hcn] at HE
      clear hcn
      go_enter Tryz.func51, Tryz.ntmps51
      go_wp2_with fail
      refine HV.out.mono ?_
      rintro e w1 ⟨rfl, o1⟩
      have HN1 := Lib.hid (HN.out _ o1)
      clear HV HN o1
      go_wp2_with fail
      refine HN1.out.mono ?_
      rintro e w2 ⟨rfl, o2⟩
      have HI3 := Lib.hid (HI2.out (A.next n) _ o2)
      clear HN1 HI2 o2
      go_wp2_with fail
      refine HI3.out.mono ?_
      rintro e w3 ⟨rfl, o3⟩
      have HO := Lib.hid o3
      clear HI3 o3
      go_wp2
      go_ret
      rw [HE.out]
      exact ⟨rfl, HO.out⟩
    · have e1 : (c == n) = false := by simp [hcn]
      rw [if_neg hcn] at HE
      clear hcn HN
      go_enter Tryz.func51, Tryz.ntmps51
      go_wp2_with fail
      refine HV.out.mono ?_
      rintro e w1 ⟨rfl, o1⟩
      have HI3 := Lib.hid (HI2.out c _ o1)
      clear HV HI2 o1
      go_wp2_with fail
      refine HI3.out.mono ?_
      rintro e w3 ⟨rfl, o3⟩
      have HO := Lib.hid o3
      clear HI3 o3
      go_wp2
      go_ret
      rw [HE.out]
      exact ⟨rfl, HO.out⟩
  · have HE : Hid (A.insertCall p n c = (A.validate p n c, A)) := Lib.hid (if_pos hv)
    have e1 : (A.validate p n c != 0) = true := by simp [hv]
    clear hv hI
    generalize A.validate p n c = v at *
    go_enter Tryz.func51, Tryz.ntmps51
    go_wp2_with fail
    refine HV.out.mono ?_
    rintro e w1 ⟨rfl, o1⟩
    have HO := Lib.hid o1
    clear HV o1
    go_wp2
    go_ret
    rw [HE.out]
    exact ⟨rfl, HO.out⟩

theorem AppendD_own {w0 w : World} {B b : Nat} {A : Ar} {L : List Asrt} {p n : Int} (o : Own w0 B (.arena b A :: L) w) (hI : A.Inv) (hs : A.ns.length + 1 ≤ 100000) :
    Calls Tryz.prog 85 #[.pointer (some ⟨b, 0, none⟩), .int .i64 p, .int .i64 n] w fun e w' => e = .returned (.int .i64 (A.insertCall p n 0).1) ∧ Own w0 B (.arena b (A.insertCall p n 0).2 :: L) w' := by
  have HC := Lib.hid (InsertD_own (p := p) (n := n) (c := 0) o hI hs)
  clear o hI
  go_enter Tryz.func85, Tryz.ntmps85
  go_wp2_with fail
  refine HC.out.mono ?_
  rintro e w1 ⟨rfl, o1⟩
  have HO := Lib.hid o1
  clear HC o1
  go_wp2
  go_ret
  exact ⟨rfl, HO.out⟩

theorem Cut_own {w0 w : World} {B b : Nat} {A : Ar} {L : List Asrt} {h : Int} (o : Own w0 B (.arena b A :: L) w) (hI : A.Inv) (hh : A.has h) :
    Calls Tryz.prog 121 #[.pointer (some ⟨b, 0, none⟩), .int .i64 h] w fun e w' => e = .returned (.int .i64 0) ∧ Own w0 B (.arena b (A.cut h) :: L) w' := by
  have he : A.cutCall h = (0, A.cut h) := if_pos hh
  have := o.call (fun ρ hA => Cut_any A ρ b h w hA hI.wf)
  rw [he] at this
  exact this

end Go.Proofs.YtpicinjcmjaogaaGreat
