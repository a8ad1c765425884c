/-
  The law DomClones: the walk.
-/
import Derived.Test.YtpicinjcmjaogaaGreatKAS2
import Derived.Deep.QuietTactic
import Derived.BigQuiet
import Derived.Test.YtpicinjcmjaogaaGreatK40
import Derived.Test.YtpicinjcmjaogaaGreatK46
namespace Go.Proofs.YtpicinjcmjaogaaGreat
open Go.RowKit Go.Shelf Classical
set_option linter.unusedVariables false

attribute [local go_sem] Oper.semAt_some

theorem Own.putObj {w0 w : World} {B g : Nat} {o o' : Obj} {l : List Asrt} (h : Own w0 B (.box g o :: l) w) : Own w0 B (.box g o' :: l) (w.putObj g o') :=
  h.setBox (upd_put o' rfl) (World.putObj_heap_same (lt_of_block (h.box (g := g) (o := o) (by simp))))
theorem RNodes.prefix {w : World} {a : Option Addr} {n c m : Nat} {l : List Nd} (h : RNodes w (.slice a n c) l) (hm : m ≤ l.length) : RNodes w (.slice a m c) (l.take m) := by
  obtain ⟨a', c', e, h1, h2, h3⟩ := h
  simp only [Value.slice.injEq] at e
  obtain ⟨rfl, rfl, rfl⟩ := e
  have hl : (l.take m).length = m := by simp; omega
  refine ⟨a, c, by rw [hl], by rw [hl]; omega, h2, fun hp => ?_⟩
  obtain ⟨b, o, e, hc⟩ := h3 (by omega)
  exact ⟨b, o, e, fun i n hi => by
    rw [List.getElem?_take] at hi
    split at hi
    · exact hc i n hi
    · simp at hi⟩
theorem below_put' {B g : Nat} {a w : World} {o : Obj} (h : Below B a w) (hB : B ≤ w.heap.size) (hg : B ≤ g) : Below B a (w.putObj g o) := by
  have u : Upd (fun k => k = g) w (w.putObj g o) := upd_put _ rfl
  exact h.trans ⟨u.os, u.tape, u.output, u.size, fun k hk => u.block k (by omega) (by omega)⟩
/-- The last of the visited handles. -/
def lastI (n0 : Int) (pre : List Int) : Int := pre.getLast?.getD n0
theorem get_of_ns' {A : Ar} {k : Nat} (h : A.has ((k : Int) + 1)) : A.ns[k]? = some (A.get ((k : Int) + 1)) := by
  have h2 := h.2
  unfold Ar.n at h2
  unfold Ar.get
  rw [show ((k : Int) + 1).toNat - 1 = k by omega, List.getElem?_eq_getElem (by omega)]; rfl
theorem lastI_snoc (n0 : Int) (pre : List Int) (x : Int) : lastI n0 (pre ++ [x]) = x := by unfold lastI; simp
theorem lastI_lt {L pre rest : List Int} {x n0 : Int} (hp : L.Pairwise (· < ·)) (hg : ∀ y ∈ L, n0 < y) (e : L = pre ++ [x] ++ rest) : lastI n0 pre < x := by
  subst e
  unfold lastI
  cases h : pre.getLast? with
  | none => exact hg x (by simp)
  | some y =>
    have hy : y ∈ pre := List.mem_of_getLast? h
    rw [List.append_assoc] at hp
    exact (List.pairwise_append.1 hp).2.2 y hy x (by simp)

set_option maxRecDepth 100000 in
set_option maxHeartbeats 1000000 in
theorem DomClones_no (v0 : Value) (l : List OpD) (h : Int) (w : World) (hv : ROps w v0 l) (hs : ¬ small5 l 60) :
    Calls Tryz.prog 16 #[v0, .int .i64 h] w fun e w' => e = .returned (.bool true) ∧ Below w.heap.size w w' := by
  have HD := Lib.hid (show decide (small5 l 60) = false from decide_eq_false hs)
  have HV := Lib.hid (fun W (hB : Below w.heap.size w W) => hv.below hB)
  obtain ⟨av, cv, rfl, hcv, hcv2, -⟩ := hv.form
  have o0 := (Own.start w).alloc (.cells #[.bool false] 4)
  clear hv
  go_enter Tryz.func16, Tryz.ntmps16
  go_wp2_with fail
  refine (Small5_any _ l 60 _ (HV.out _ o0.low)).mono ?_
  rintro e w1 ⟨rfl, hB1⟩
  rw [HD.out]
  have o1 := o0.read hB1
  clear o0 hB1
  go_wp2_with fail
  refine (known5_any w1).mono ?_
  rintro e w2 ⟨rfl, hB2⟩
  have o2 := o1.read hB2
  have k2 := box_cell (o2.box (g := w.heap.size) (o := .cells #[.bool false] 4 (0, 0)) (by simp))
  have f2 := box_free (o2.box (g := w.heap.size) (o := .cells #[.bool false] 4 (0, 0)) (by simp))
  have h2 := box_cell (one_setCell (u := .bool true) (o2.box (g := w.heap.size) (o := .cells #[.bool false] 4 (0, 0)) (by simp)))
  have HB := Lib.hid ((o2.low.setCell (p := ⟨w.heap.size, 0, none⟩) (by simp) (.bool true)))
  clear o1 o2 hB2
  go_wp2
  refine bodyPost_ret (v := .bool true) (by simp [results, Tryz.f16, go_sem, h2]) rfl ⟨rfl, HB.out⟩

set_option maxRecDepth 100000 in
set_option maxHeartbeats 2000000 in
theorem DomClones_err (v0 : Value) (l : List OpD) (h : Int) (w : World) (hv : ROps w v0 l) (hs : small5 l 60) (hh : ¬ (runL5 l).has h) :
    Calls Tryz.prog 16 #[v0, .int .i64 h] w fun e w' => e = .returned (.bool true) ∧ Below w.heap.size w w' := by
  have HD := Lib.hid (show decide (small5 l 60) = true from decide_eq_true hs)
  have HV := Lib.hid (fun W (hB : Below w.heap.size w W) => hv.below hB)
  obtain ⟨i1, -, hlen, -⟩ := run5_take hs (by omega) (Nat.le_refl l.length)
  rw [List.take_length] at i1 hlen
  have HRUN := Lib.hid (fun W (ll : List Asrt) (o : Own w w.heap.size ll W) => Run5_own o v0 l (hv.below o.low) hs (by omega))
  have HSH := Lib.hid (i1.short (show (runL5 l).ns.length ≤ 1000000 by omega))
  obtain ⟨av, cv, rfl, hcv, hcv2, -⟩ := hv.form
  have o0 := (Own.start w).alloc (.cells #[.bool false] 4)
  have HCL := Lib.hid (fun (W : World) (b : Nat) (ll : List Asrt) (o : Own w w.heap.size (.arena b (runL5 l) :: ll) W) => CloneD_own (h := h) (deep := true) o i1 (by omega))
  have hcl : (runL5 l).cloneCall h true = ((0, 3), runL5 l) := by unfold Ar.cloneCall; rw [if_neg hh]
  rw [hcl] at HCL
  obtain ⟨z, hn⟩ : ∃ z, (if (runL5 l).has h then (runL5 l).get h else zeroNd) = z := ⟨_, rfl⟩
  have he : (if (runL5 l).has h then (0 : Int) else 3) = 3 := if_neg hh
  have HN := Lib.hid (And.intro hn he)
  clear hv hs hcl hn he hh i1
  generalize runL5 l = A at *
  go_enter Tryz.func16, Tryz.ntmps16
  go_wp2_with fail
  refine (Small5_any _ l 60 _ (HV.out _ o0.low)).mono ?_
  rintro e w1 ⟨rfl, hB1⟩
  rw [HD.out]
  have o1 := o0.read hB1
  clear o0 hB1
  go_wp2_with fail
  refine (HRUN.out _ _ o1).mono ?_
  rintro e w2 ⟨rfl, o2⟩
  generalize w1.heap.size = b at *
  clear o1 HRUN
  go_wp2_with fail
  refine (Nodes_own o2 (b := b) (A := A) (by simp) HSH.out).mono ?_
  rintro e w3 ⟨a3, c3, rfl, o3⟩
  clear o2
  go_wp2_with fail
  refine (NodeE_own o3 (b := b) (A := A) (by simp) HSH.out HN.out.1 HN.out.2).mono ?_
  rintro e w4 ⟨ka, kl, kc, aa, al, ac, rfl, o4, -⟩
  clear o3
  have HT := Lib.hid (nodeBox_facts (w := w4) z ka kc aa ac kl al)
  have o5 := o4.nodeBox z (.slice ka kl kc) (.slice aa al ac)
  clear o4
  go_wp2_with ((with_reducible refine wpList_store_mid ?_ 46 (.tmp 7) (.tmp 27) ?_ w4.heap.size 0 (z.cells (.slice ka kl kc) (.slice aa al ac)).toArray ?_ ?_ ?_ ?_ ?_ ?_); exact rfl; exact rfl; exact rfl; exact rfl; exact HT.out.1; exact sizeNode _ _ _; exact all_oneCell_toArray HT.out.2; generalize hw5 : World.setCells _ _ _ _ = w5 at o5 ⊢; generalize hg4 : w4.heap.size = g4 at o5 ⊢; clear hw5 hg4)
  have o6 := o5.drop.swap
  clear o5 HT
  refine (HCL.out _ _ _ o6).mono ?_
  rintro e w6 ⟨rfl, o7⟩
  clear o6 HCL
  have HO := Lib.hid o7
  clear o7
  unfold pairV
  go_wp2_with fail
  refine (known5_any w6).mono ?_
  rintro e w8 ⟨rfl, hB8⟩
  have o8 := HO.out.read hB8
  have k2 := box_cell (o8.box (g := w.heap.size) (o := .cells #[.bool false] 4 (0, 0)) (by simp))
  have f2 := box_free (o8.box (g := w.heap.size) (o := .cells #[.bool false] 4 (0, 0)) (by simp))
  have h2 := box_cell (one_setCell (u := .bool true) (o8.box (g := w.heap.size) (o := .cells #[.bool false] 4 (0, 0)) (by simp)))
  have HB := Lib.hid ((o8.low.setCell (p := ⟨w.heap.size, 0, none⟩) (by simp) (.bool true)))
  clear o8 hB8 HO
  go_wp2
  refine bodyPost_ret (v := .bool true) (by simp [results, Tryz.f16, go_sem, h2]) rfl ⟨rfl, HB.out⟩

set_option maxRecDepth 100000 in
set_option maxHeartbeats 4000000 in
theorem DomClones_ok (v0 : Value) (l : List OpD) (h : Int) (w : World) (hv : ROps w v0 l) (hs : small5 l 60) (hh : (runL5 l).has h) :
    Calls Tryz.prog 16 #[v0, .int .i64 h] w fun e w' => e = .returned (.bool true) ∧ Below w.heap.size w w' := by
  have HD := Lib.hid (show decide (small5 l 60) = true from decide_eq_true hs)
  have HV := Lib.hid (fun W (hB : Below w.heap.size w W) => hv.below hB)
  obtain ⟨i1, -, hlen, -⟩ := run5_take hs (by omega) (Nat.le_refl l.length)
  rw [List.take_length] at i1 hlen
  have h60 := run60_len hs (by omega)
  have HRUN := Lib.hid (fun W (ll : List Asrt) (o : Own w w.heap.size ll W) => Run5_own o v0 l (hv.below o.low) hs (by omega))
  have HSH := Lib.hid (i1.short (show (runL5 l).ns.length ≤ 1000000 by omega))
  obtain ⟨av, cv, rfl, hcv, hcv2, -⟩ := hv.form
  have o0 := (Own.start w).alloc (.cells #[.bool false] 4)
  have HCL := Lib.hid (fun (W : World) (b : Nat) (ll : List Asrt) (o : Own w w.heap.size (.arena b (runL5 l) :: ll) W) => CloneD_own (h := h) (deep := true) o i1 (by omega))
  obtain ⟨hcl, hBI, hBc, hBp, htk, halk, hdoc, hinc, hge, hle⟩ := clone_law i1 hh (by omega)
  rw [hcl] at HCL
  have hbl : ((runL5 l).cloneCall h true).2.ns.length ≤ 90000 := by
    unfold Ar.cloneCall
    rw [if_pos hh]
    obtain ⟨d1, d2⟩ := i1.docK h hh
    have := (dupF_any i1 (m := (runL5 l).ns.length) (deep := true) i1 d1 d2 hh (walk_len i1 h)).2
    have := walk_len i1 h
    show (dupF _ true _ _ _ _).2.ns.length ≤ _
    omega
  generalize hB : ((runL5 l).cloneCall h true).2 = B at *
  obtain ⟨nd, hnd⟩ : ∃ nd, nd = (runL5 l).get h := ⟨_, rfl⟩
  have hn : (if (runL5 l).has h then (runL5 l).get h else zeroNd) = nd := (if_pos hh).trans hnd.symm
  have he : (if (runL5 l).has h then (0 : Int) else 3) = 0 := if_pos hh
  have hBg : B.ns[(runL5 l).ns.length]? = some (B.get ((runL5 l).n + 1)) := get_of_ns' hBc
  have hBpp : B.parentOf ((runL5 l).n + 1) = 0 := by unfold Ar.parentOf; rw [if_pos hBc]; exact hBp
  have HALK := Lib.hid (decide_eq_true halk)
  have HBS := Lib.hid (hBI.short (show B.ns.length ≤ 1000000 by omega))
  have HI2 := Lib.hid hBI
  have hAn : (runL5 l).n = ((runL5 l).ns.length : Int) := rfl
  rw [hAn] at HCL hBg hBpp HALK hdoc hinc hge hle
  clear hv hs hcl hh i1 hBI hBc hBp halk hB hAn
  generalize runL5 l = A at *
  obtain ⟨nc, hnc⟩ : ∃ nc, nc = B.get ((A.ns.length : Int) + 1) := ⟨_, rfl⟩
  rw [← hnd] at hdoc
  rw [← hnc] at hBg hdoc
  have HN := Lib.hid (And.intro hn he)
  have HBG := Lib.hid hBg
  have HTK := Lib.hid htk
  have HBP := Lib.hid hBpp
  have HDOC := Lib.hid hdoc
  have hPW := hinc
  have HLT : Hid (∀ pre x rest, B.walk ((A.ns.length : Int) + 1) = pre ++ [x] ++ rest → lastI A.ns.length pre < x) := Lib.hid (fun pre x rest e => lastI_lt hinc hge e)
  clear hn he hBg htk hBpp hdoc hnd hnc hPW hinc hge
  refine (callsIn_wide (n := 8)).1 ?_
  refine callsIn_of_wp_marks Tryz.func16 rfl trivial ?_ rfl
  simp only [Tryz.ntmps16, List.size_toArray, List.length_cons, List.length_nil, Nat.reduceAdd, Nat.reduceSub, Array.replicate_succ, Array.replicate_zero, List.push_toArray, List.append_toArray, List.nil_append, List.cons_append]
  refine wpIn_wide.2 ?_
  go_wp2_with fail
  refine (Small5_any _ l 60 _ (HV.out _ o0.low)).mono ?_
  rintro e w1 ⟨rfl, hB1⟩
  rw [HD.out]
  have o1 := o0.read hB1
  clear o0 hB1
  go_wp2_with fail
  refine (HRUN.out _ _ o1).mono ?_
  rintro e w2 ⟨rfl, o2⟩
  generalize w1.heap.size = b at *
  clear o1 HRUN
  go_wp2_with fail
  refine (Nodes_own o2 (b := b) (A := A) (by simp) HSH.out).mono ?_
  rintro e w3 ⟨a3, c3, rfl, o3⟩
  clear o2
  go_wp2_with fail
  refine (NodeE_own o3 (b := b) (A := A) (by simp) HSH.out HN.out.1 HN.out.2).mono ?_
  rintro e w4 ⟨ka, kl, kc, aa, al, ac, rfl, o4, -⟩
  clear o3
  have HT := Lib.hid (nodeBox_facts (w := w4) nd ka kc aa ac kl al)
  have o5 := o4.nodeBox nd (.slice ka kl kc) (.slice aa al ac)
  clear o4
  go_wp2_with ((with_reducible refine wpList_store_mid ?_ 46 (.tmp 7) (.tmp 27) ?_ w4.heap.size 0 (nd.cells (.slice ka kl kc) (.slice aa al ac)).toArray ?_ ?_ ?_ ?_ ?_ ?_); exact rfl; exact rfl; exact rfl; exact rfl; exact HT.out.1; exact sizeNode _ _ _; exact all_oneCell_toArray HT.out.2; generalize hw5 : World.setCells _ _ _ _ = w5 at o5 ⊢; generalize hg4 : w4.heap.size = g4 at o5 ⊢; clear hw5 hg4)
  have o6 := o5.rot3
  clear o5 HT
  refine (HCL.out _ _ _ o6).mono ?_
  rintro e w6 ⟨rfl, o7⟩
  clear o6 HCL
  unfold pairV
  go_wp2_with fail
  refine (Nodes_own o7 (b := b) (A := B) (by simp) HBS.out).mono ?_
  rintro e w7 ⟨a7, c7, rfl, o8⟩
  clear o7
  have hrn := o8.nlist (v := .slice a7 B.ns.length c7) (ns := B.ns) (by simp)
  obtain ⟨a7', c7', e7, hc1, hc2, -⟩ := id hrn
  simp only [Value.slice.injEq, true_and] at e7
  obtain ⟨rfl, rfl⟩ := e7
  obtain ⟨b7, q7, rfl, -, hcs7⟩ := hrn.at (by omega)
  have HSN := Lib.hid (SameNodes_any (.slice a3 A.ns.length c3) (.slice (some ⟨b7, q7, none⟩) A.ns.length c7) A.ns (B.ns.take A.ns.length) w7 (o8.nlist (by simp)) (hrn.prefix (by omega)))
  rw [HTK.out, show decide (A.ns = A.ns) = true by simp] at HSN
  have hle2 : (A.ns.length : Int) + 1 ≤ B.ns.length := by omega
  have hle3 : A.ns.length ≤ c7 := by omega
  have hle4 : (A.ns.length : Int) ≤ c7 := by omega
  clear hrn hcs7
  go_wp2_with fail
  refine HSN.out.mono ?_
  rintro e w8 ⟨rfl, hB8⟩
  have o9 := o8.read hB8
  clear o8 hB8 HSN
  go_wp2_with fail
  refine (Parent_own o9 (b := b) (A := B) (by simp)).mono ?_
  rintro e w9 ⟨rfl, rfl⟩
  rw [HBP.out]
  go_wp2_with fail
  have HO9 := Lib.hid o9
  clear o9
  go_cut [101] from 75 to 101 (fun v wx => v = .bool false ∧ Hid (Own w w.heap.size [.nlist (.slice (some ⟨b7, q7, none⟩) B.ns.length c7) B.ns, .arena b B, .box g4 (.cells (nd.cells (.slice ka kl kc) (.slice aa al ac)).toArray 46 (0, 0)), .nlist (.slice a3 A.ns.length c3) A.ns, .box w.heap.size (.cells #[.bool false] 4 (0, 0))] wx))
  case first =>
    obtain ⟨ρ, hA⟩ := HO9.out.arena (b := b) (A := B) (by simp)
    have HSQ := Lib.hid (fun n => (Same_any B B ρ ρ b b HI2.out HI2.out h ((A.ns.length : Int) + 1) (w8.drewN n) (hA.drewN n) (hA.drewN n)).mono (fun e w' hh => show e = .returned (.bool true) ∧ _ from ⟨by rw [hh.1, HALK.out], hh.2⟩))
    have k0 : w8.cell? ⟨g4, 0, none⟩ = some (.int .i64 nd.kind) := (cell_of_row w8 _ _ _ _ _ (HO9.out.box (g := g4) (o := .cells (nd.cells (.slice ka kl kc) (.slice aa al ac)).toArray 46 (0, 0)) (by simp))).trans rfl
    have k3 : w8.cell? ⟨g4, 3, none⟩ = some (.int .i64 nd.doc) := (cell_of_row w8 _ _ _ _ _ (HO9.out.box (g := g4) (o := .cells (nd.cells (.slice ka kl kc) (.slice aa al ac)).toArray 46 (0, 0)) (by simp))).trans rfl
    have k12 : w8.cell? ⟨g4, 12, none⟩ = some (.int .i64 nd.host) := (cell_of_row w8 _ _ _ _ _ (HO9.out.box (g := g4) (o := .cells (nd.cells (.slice ka kl kc) (.slice aa al ac)).toArray 46 (0, 0)) (by simp))).trans rfl
    obtain ⟨b', q', e', -, hcs⟩ := (HO9.out.nlist (v := .slice (some ⟨b7, q7, none⟩) B.ns.length c7) (ns := B.ns) (by simp)).at (by omega)
    simp only [Option.some.injEq, Addr.mk.injEq, and_true] at e'
    obtain ⟨rfl, rfl⟩ := e'
    obtain ⟨kv, av2, F, -, -⟩ := hcs _ _ HBG.out
    have d3 := F.c3
    have hx1 : (A.ns.length : Int) + 1 - 1 = A.ns.length := by omega
    have hx2 : IntKind.i64.wrap (A.ns.length : Int) = A.ns.length := by rw [IntKind.wrap_i64]; omega
    have hx3 : (0 : Int) ≤ A.ns.length := by omega
    have hx4 : (A.ns.length : Int) < B.ns.length := by omega
    have hx5 : A.ns.length < B.ns.length := by omega
    have hx6 : ((A.ns.length : Nat) : Int).toNat = A.ns.length := by omega
    clear hA hcs F
    by_cases h0 : nd.host = 0
    · have z0 : (nd.host == 0) = true := by simp [h0]
      by_cases h1 : nd.kind = 1
      · have z1 : (nd.kind != 1) = false := by simp [h1]
        clear h0 h1
        go_quiet ((go_at_call 72; exact Calls.quiet_of (HSQ.out _)))
        go_wp2_with fail
        go_meet
        exact ⟨rfl, HO9.out.read (Below.drewN (Below.refl _ _) _)⟩
      · have z1 : (nd.kind != 1) = true := by simp [h1]
        have z3 : (nc.doc != nd.doc) = false := by rw [HDOC.out h1]; simp
        clear h0 h1
        go_quiet ((go_at_call 72; exact Calls.quiet_of (HSQ.out _)))
        go_wp2_with fail
        go_meet
        exact ⟨rfl, HO9.out.read (Below.drewN (Below.refl _ _) _)⟩
    · have z0 : (nd.host == 0) = false := by simp [h0]
      by_cases h1 : nd.kind = 1
      · have z1 : (nd.kind != 1) = false := by simp [h1]
        clear h0 h1
        go_quiet (fail)
        go_wp2_with fail
        go_meet
        exact ⟨rfl, HO9.out.read (Below.drewN (Below.refl _ _) _)⟩
      · have z1 : (nd.kind != 1) = true := by simp [h1]
        have z3 : (nc.doc != nd.doc) = false := by rw [HDOC.out h1]; simp
        clear h0 h1
        go_quiet (fail)
        go_wp2_with fail
        go_meet
        exact ⟨rfl, HO9.out.read (Below.drewN (Below.refl _ _) _)⟩
  case rest =>
    obtain ⟨rfl, HO⟩ := hcut
    clear HO9
    go_wp2_with fail
    refine (Walk_any b ((A.ns.length : Int) + 1) _).mono ?_
    rintro e w10 ⟨rfl, rfl⟩
    have hx1 : (A.ns.length : Int) + 1 - 1 = A.ns.length := by omega
    have o10 := ((HO.out.alloc (.cells #[.pointer (some ⟨b, 0, none⟩)] 23)).alloc (.cells #[.int .i64 ((A.ns.length : Int) + 1)] 3)).alloc (.cells #[.int .i64 (A.ns.length : Int)] 3)
    simp only [World.size_alloc] at o10
    have hq := fun (W : World) (cs : Array Value) => run_eql_func_nil (P := Tryz.prog) W 98 (.func 153) #[] cs Tryz.underlying98
    go_wp2_with fail
    clear hq
    generalize hW : ((wc.alloc (.cells #[.pointer (some ⟨b, 0, none⟩)] 23)).alloc (.cells #[.int .i64 ((A.ns.length : Int) + 1)] 3)).alloc (.cells #[.int .i64 (A.ns.length : Int)] 3) = W at o10 ⊢
    clear hW
    obtain ⟨ρ, hA⟩ := o10.arena (b := b) (A := B) (by simp)
    have hseq := Walk1_seq B ρ b wc.heap.size (wc.heap.size + 1) ((A.ns.length : Int) + 1) 7 (by omega) W hA HI2.out (by omega) (o10.box (by simp)) (o10.box (by simp))
    have o11 := o10.swap.drop.swap.drop.swap.drop.swap.drop.swap.drop.swap.drop
    clear o10 hA HO
    generalize B.walk ((A.ns.length : Int) + 1) = L at *
    refine wpIn_wide.1 (wpIn_rangeFunc_R (n := 8) (α := Int) rfl (by omega) (gf := 153) (lb := #[.pointer (some ⟨wc.heap.size, 0, none⟩), .pointer (some ⟨wc.heap.size + 1, 0, none⟩)]) rfl trivial (enters_of Tryz.func153 (by kernel_rfl) rfl)
      hseq (fun _ => rfl)
      (fun m pre W' => ∃ f, Own w w.heap.size (.guard W.heap.size m f :: .box (wc.heap.size + 1 + 1) (.cells #[.int .i64 (lastI A.ns.length pre)] 3 (0, 0)) :: [.box w.heap.size (.cells #[.bool false] 4 (0, 0))]) W')
      (fun _ _ _ _ => False) ?hI ?hIx ?h0 ?a1 ?assign ?body ?done ?stop)
    case assign =>
      intro l' x W' K hK
      gi_wp2
      exact hK
    case hI =>
      rintro m s A' B' hm ⟨f, o⟩ hu
      exact ⟨_, o.loopGuard hm hu⟩
    case hIx => exact fun _ _ _ _ _ _ hf _ => hf
    case h0 =>
      intro W0 hW0
      exact ⟨_, o11.startGuard hW0⟩
    case body =>
      rintro l' m pre x W' hm' ⟨rest, hrest⟩ ⟨f, o⟩
      have hlt := HLT.out pre x rest hrest
      have k1 := box_cell (o.box (g := wc.heap.size + 1 + 1) (o := .cells #[.int .i64 (lastI A.ns.length pre)] 3 (0, 0)) (by simp))
      have f1 := box_free (o.box (g := wc.heap.size + 1 + 1) (o := .cells #[.int .i64 (lastI A.ns.length pre)] 3 (0, 0)) (by simp))
      have o2 := (o.swap.set1 (u := .int .i64 x)).swap
      have hkeep : ∀ k, W.heap.size ≤ k → k < m → (W'.setCell ⟨wc.heap.size + 1 + 1, 0, none⟩ (.int .i64 x)).heap[k]? = W'.heap[k]? := fun k h1 h2 =>
        (o2.guarded (lo := W.heap.size) (m := m) (f := f) (by simp) k h1 h2).trans (o.guarded (lo := W.heap.size) (m := m) (f := f) (by simp) k h1 h2).symm
      have HK := Lib.hid (And.intro hkeep o2)
      have HLS := Lib.hid (lastI_snoc A.ns.length pre x)
      have hle5 : ¬ x ≤ lastI A.ns.length pre := by omega
      clear hrest o o2 hkeep hlt hseq o11
      generalize lastI A.ns.length pre = lv at *
      gi_wp2
      refine ⟨HK.out.1, f, ?_⟩
      rw [HLS.out]
      exact HK.out.2
    case done =>
      rintro m xs W' rfl hm' ⟨f, o⟩ hD
      have hfD : f W.heap.size = some (.deferred (some [])) := (o.guarded (lo := W.heap.size) (m := m) (f := f) (by simp) _ (Nat.le_refl _) (by omega)).symm.trans hD
      have hne : w.heap.size < W.heap.size := lt_of_block (o11.box (g := w.heap.size) (o := .cells #[.bool false] 4 (0, 0)) (by simp))
      generalize lastI A.ns.length _ = lv at *
      have HO := Lib.hid o
      clear hseq o11 o hD
      go_wp2_with fail
      refine (known5_any W').mono ?_
      rintro e w7 ⟨rfl, hB7⟩
      have o8 := HO.out.read hB7
      have k8 := box_cell (o8.box (g := w.heap.size) (o := .cells #[.bool false] 4 (0, 0)) (by simp))
      have f8 := box_free (o8.box (g := w.heap.size) (o := .cells #[.bool false] 4 (0, 0)) (by simp))
      have hD8 : (w7.setCell ⟨w.heap.size, 0, none⟩ (.bool true)).heap[W.heap.size]? = some (.deferred (some [])) := (Below.heap_setCell _ _ _ _ (by simp; omega)).trans ((o8.guarded (lo := W.heap.size) (m := m) (f := f) (by simp) _ (Nat.le_refl _) (by omega)).trans hfD)
      have h8 := one_setCell (u := .bool true) (o8.box (g := w.heap.size) (o := .cells #[.bool false] 4 (0, 0)) (by simp))
      have HB8 := Lib.hid ((o8.low.setCell (p := ⟨w.heap.size, 0, none⟩) (by simp) (.bool true)))
      have HD8 := Lib.hid hD8
      have H8 := Lib.hid h8
      clear o8 HO hB7 hD8 h8
      go_wp2
      refine ⟨by simp, .inl ⟨_, _, rfl, run_takeDeferred HD8.out, ?_⟩⟩
      have hR := box_cell (((World.putObj_heap_other (r := W.heap.size) (o := .deferred none) (k := w.heap.size) (by omega)).trans H8.out))
      refine ⟨.bool true, by simp [results, Tryz.f16, go_sem, hR], rfl, ?_⟩
      exact below_put' HB8.out HB8.out.size (by omega)
    case stop => exact fun _ _ _ _ _ _ hf _ => hf.elim

/-- **DomClones: the walk.** -/
theorem DomClones_any (v0 : Value) (l : List OpD) (h : Int) (w : World) (hv : ROps w v0 l) :
    Calls Tryz.prog 16 #[v0, .int .i64 h] w fun e w' => e = .returned (.bool true) ∧ Below w.heap.size w w' := by
  by_cases hs : small5 l 60
  · by_cases hh : (runL5 l).has h
    · exact DomClones_ok v0 l h w hv hs hh
    · exact DomClones_err v0 l h w hv hs hh
  · exact DomClones_no v0 l h w hv hs

end Go.Proofs.YtpicinjcmjaogaaGreat
