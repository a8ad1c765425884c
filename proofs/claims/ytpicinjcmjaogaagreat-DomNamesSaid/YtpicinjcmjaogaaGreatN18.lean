/-
  Parts: D4.
-/
import Derived.StillTailTactics
import Derived.BigRegion
import Derived.Deep.CutRange
import Derived.Test.YtpicinjcmjaogaaGreatN15

/- Contracts of dom: adopt. -/
namespace Go.Proofs.YtpicinjcmjaogaaGreat
open Go.RowKit Go.Shelf
set_option linter.unusedVariables false

attribute [local go_sem] Oper.semAt_some

theorem run_store_func (P : Program) (w : World) (a : Addr) (m : _) (fn : Fn) (bs cs : Array Value) : (store a (.func fn bs cs) m).run P w = stored P w a (.func fn bs cs) m := run_store P w a _ m rfl
attribute [local go_sem] run_store_func

theorem inertCall_ok {A : Ar} {d : Int} (hd : A.has d) (hk : (A.get d).kind = 1) : A.inertCall d = (((A.inertOf d).1, 0), (A.inertOf d).2) := by
  have he : A.ofDoc d = 0 := by unfold Ar.ofDoc; rw [if_neg (fun h => h hd), if_neg (fun h => h hk)]
  unfold Ar.inertCall
  rw [if_neg (fun h => h he)]

set_option maxRecDepth 100000 in
set_option maxHeartbeats 2000000 in
theorem own1_own {rec : Ar → Int → Int → Ar} {w0 w : World} {B b ab db : Nat} {A : Ar} {L : List Asrt} {x d : Int} (o : Own w0 B (.arena b A :: L) w) (hI : A.Inv) (hs : A.ns.length ≤ 100000) (hx : A.has x) (hd : A.has d) (hk : (A.get d).kind = 1)
    (hab : Asrt.box ab (.cells #[.pointer (some ⟨b, 0, none⟩)] 23 (0, 0)) ∈ L) (hdb : Asrt.box db (.cells #[.int .i64 d] 3 (0, 0)) ∈ L)
    (hrec : ∀ L' w', ((A.setDoc x d).2.get x).contents ≠ 0 → Own w0 B (.arena b ((A.setDoc x d).2.inertOf d).2 :: L') w' →
      Calls Tryz.prog 180 #[.pointer (some ⟨b, 0, none⟩), .int .i64 ((A.setDoc x d).2.get x).contents, .int .i64 ((A.setDoc x d).2.inertOf d).1] w' fun e w'' => e = .returned (.tuple #[]) ∧
        Own w0 B (.arena b (rec ((A.setDoc x d).2.inertOf d).2 ((A.setDoc x d).2.get x).contents ((A.setDoc x d).2.inertOf d).1) :: L') w'') :
    Calls Tryz.prog 226 #[.int .i64 x, .pointer (some ⟨ab, 0, none⟩), .pointer (some ⟨db, 0, none⟩)] w fun e w' => e = .returned (.tuple #[]) ∧ Own w0 B (.arena b (ownStep rec d A x) :: L) w' := by
  have h1 := Ar.Inv.setDoc hI x d
  have t1 := Ar.tree_setDoc A x d
  have hl1 := (setDoc_keeps A x d).2
  have hk1 : ((A.setDoc x d).2.get d).kind = 1 := (t1.kind hd).trans hk
  have hic := inertCall_ok (t1.has hd) hk1
  have HREC := Lib.hid hrec
  have HST : Hid (ownStep rec d A x = if ((A.setDoc x d).2.get x).contents = 0 then (A.setDoc x d).2 else rec ((A.setDoc x d).2.inertOf d).2 ((A.setDoc x d).2.get x).contents ((A.setDoc x d).2.inertOf d).1) := Lib.hid rfl
  have HC := Lib.hid (o.call (fun ρ hA => SetDoc_any A ρ b x d w hA))
  have HAB := Lib.hid hab
  have HDB := Lib.hid hdb
  have q1 := box_cell (o.box (g := ab) (List.mem_cons_of_mem _ hab))
  have q2 := box_cell (o.box (g := db) (List.mem_cons_of_mem _ hdb))
  have HX := Lib.hid (t1.has hx)
  have HS := Lib.hid (h1.short (by omega))
  have HI1 := Lib.hid h1
  have hsm : (A.setDoc x d).2.ns.length ≤ 1000000 := by omega
  clear hrec o hab hdb hI t1 hl1 hk1 h1
  generalize (A.setDoc x d).2 = A1 at *
  go_enter Tryz.func226, Tryz.ntmps226
  go_wp2_with fail
  refine HC.out.mono ?_
  rintro e w1 ⟨rfl, o1⟩
  clear q1 q2 HC
  have q1 := box_cell (o1.box (g := ab) (List.mem_cons_of_mem _ HAB.out))
  have q2 := box_cell (o1.box (g := db) (List.mem_cons_of_mem _ HDB.out))
  obtain ⟨nd, hnd⟩ : ∃ nd, A1.get x = nd := ⟨_, rfl⟩
  rw [hnd] at HREC HST
  have HN := Lib.hid (Node_own (b := b) (A := A1) o1 (by simp) HS.out HX.out hnd)
  clear hnd
  by_cases hc : nd.contents = 0
  · have hc' : (nd.contents != 0) = false := by simp [hc]
    rw [if_pos hc] at HST
    clear hc
    go_wp2_with fail
    refine HN.out.mono ?_
    rintro e w2 ⟨ka, kl, kc, aa, al, ac, rfl, o2, -⟩
    clear q1 q2 HN o1
    have HT := Lib.hid (nodeBox_facts (w := w2) nd ka kc aa ac kl al)
    have o5 := o2.nodeBox nd (.slice ka kl kc) (.slice aa al ac)
    go_wp2_with ((with_reducible refine wpList_store_mid ?_ 46 (.tmp 4) (.tmp 16) ?_ w2.heap.size 0 (nd.cells (.slice ka kl kc) (.slice aa al ac)).toArray ?_ ?_ ?_ ?_ ?_ ?_); exact rfl; exact rfl; exact rfl; exact rfl; exact HT.out.1; exact sizeNode _ _ _; exact all_oneCell_toArray HT.out.2; clear HT; generalize hw5 : World.setCells _ _ _ _ = w5 at o5 ⊢; generalize hg5 : w2.heap.size = g5 at o5 ⊢; clear hw5 hg5; have q1 : w5.cell? ⟨g5, 11, none⟩ = some (.int .i64 nd.contents) := (cell_of_row w5 _ _ _ _ _ (o5.box (g := g5) (o := .cells (nd.cells (.slice ka kl kc) (.slice aa al ac)).toArray 46 (0, 0)) (by simp))).trans rfl)
    have HO := Lib.hid o5
    clear o5
    go_wp2
    go_end0
    refine ⟨rfl, ?_⟩
    rw [HST.out]
    exact HO.out.drop
  · have hc' : (nd.contents != 0) = true := by simp [hc]
    rw [if_neg hc] at HST
    have HCC := Lib.hid hc
    clear hc
    go_wp2_with fail
    refine HN.out.mono ?_
    rintro e w2 ⟨ka, kl, kc, aa, al, ac, rfl, o2, -⟩
    clear q1 q2 HN o1
    have HT := Lib.hid (nodeBox_facts (w := w2) nd ka kc aa ac kl al)
    have o5 := o2.nodeBox nd (.slice ka kl kc) (.slice aa al ac)
    go_wp2_with ((with_reducible refine wpList_store_mid ?_ 46 (.tmp 4) (.tmp 16) ?_ w2.heap.size 0 (nd.cells (.slice ka kl kc) (.slice aa al ac)).toArray ?_ ?_ ?_ ?_ ?_ ?_); exact rfl; exact rfl; exact rfl; exact rfl; exact HT.out.1; exact sizeNode _ _ _; exact all_oneCell_toArray HT.out.2; clear HT; generalize hw5 : World.setCells _ _ _ _ = w5 at o5 ⊢; generalize hg5 : w2.heap.size = g5 at o5 ⊢; clear hw5 hg5; have q1 : w5.cell? ⟨g5, 11, none⟩ = some (.int .i64 nd.contents) := (cell_of_row w5 _ _ _ _ _ (o5.box (g := g5) (o := .cells (nd.cells (.slice ka kl kc) (.slice aa al ac)).toArray 46 (0, 0)) (by simp))).trans rfl; have q3 := box_cell (o5.box (g := ab) (List.mem_cons_of_mem _ (List.mem_cons_of_mem _ HAB.out))); have q4 := box_cell (o5.box (g := db) (List.mem_cons_of_mem _ (List.mem_cons_of_mem _ HDB.out))))
    have HC := Lib.hid (o5.swap.call (fun ρ hA => Inert_any A1 ρ b d _ hA hsm))
    rw [hic] at HC
    unfold pairV at HC
    clear o5
    refine HC.out.mono ?_
    rintro e w6 ⟨rfl, o6⟩
    clear q1 q3 q4 HC
    have q1 : w6.cell? ⟨g5, 11, none⟩ = some (.int .i64 nd.contents) := (cell_of_row w6 _ _ _ _ _ (o6.box (g := g5) (o := .cells (nd.cells (.slice ka kl kc) (.slice aa al ac)).toArray 46 (0, 0)) (by simp))).trans rfl
    have q3 := box_cell (o6.box (g := ab) (List.mem_cons_of_mem _ (List.mem_cons_of_mem _ HAB.out)))
    have HC := Lib.hid (HREC.out _ _ HCC.out o6)
    clear o6
    go_wp2_with fail
    refine HC.out.mono ?_
    rintro e w7 ⟨rfl, o7⟩
    have HO := Lib.hid o7
    clear o7 q1 q3
    go_wp2
    go_end0
    refine ⟨rfl, ?_⟩
    rw [HST.out]
    exact HO.out.swap.drop

theorem ownSteps_facts {C : Ar} {d : Int} (n : Nat) (hC : C.Inv) (hd : C.has d) (hk : (C.get d).kind = 1) {l : List Int} (hl : ∀ x ∈ l, C.has x) :
    (l.foldl (ownStep (adoptF n) d) C).Inv ∧ C.Tree (l.foldl (ownStep (adoptF n) d) C) ∧ (l.foldl (ownStep (adoptF n) d) C).cap d = C.cap d := by
  refine foldl_inv (P := fun B : Ar => B.Inv ∧ C.Tree B ∧ B.cap d = C.cap d) ⟨hC, Ar.Tree.refl _, rfl⟩ ?_
  rintro B x hx ⟨hB, hT, e1⟩
  have hxC := hl x hx
  have hf := ownStep_facts hB hT hd hk hxC (fun B' c i hB' hc hp hi hik => by have := adoptF_facts n hB' hc hi hik; rw [cut_root hp] at this; exact this)
  refine ⟨hf.1, hf.2, ?_⟩
  obtain ⟨s1, s2⟩ := setDoc_keeps B x d
  have s3 : (B.setDoc x d).2.cap d = C.cap d := (Ar.cap_of s1 s2).trans e1
  have h1 := Ar.Inv.setDoc hB x d
  have t1 := hT.trans (Ar.tree_setDoc B x d)
  unfold ownStep
  split
  · exact s3
  · rename_i hc
    obtain ⟨c1, c2, c3⟩ := contents_up h1 (t1.has hxC) hc
    have hd1 := t1.has hd
    have h2 := Ar.InvX.inertOf h1 hd1
    obtain ⟨v1, v2⟩ := Ar.InvX.inertVal h1 hd1
    obtain ⟨i1, i2⟩ := inertOf_at hd1 h1.wf.inert
    obtain ⟨q1, q2, q3, q4⟩ := Ar.InvX.inert h2 d i2
    obtain ⟨r1, r2⟩ := adoptF_still n h2 ((Ar.tree_inertOf _ d).has c1) v1 v2 (by rw [i1, q4]; exact i2)
    rw [Ar.cap_of r1 r2, inertOf_cap hd1 h1.wf.inert, s3]

/-- What a nested adoption needs, for the contents of a node of the tree. -/
theorem nested_facts {C B : Ar} {d x : Int} {n : Nat} (hC : C.Inv) (hB : B.Inv) (hT : C.Tree B) (hcap : B.cap d ≤ 100000) (hd : C.has d) (hk : (C.get d).kind = 1) (hx : C.has x) (hw : (C.walk x).length ≤ n + 1) (hc : ((B.setDoc x d).2.get x).contents ≠ 0) :
    ((B.setDoc x d).2.inertOf d).2.Inv ∧ ((B.setDoc x d).2.inertOf d).2.has ((B.setDoc x d).2.get x).contents ∧ ((B.setDoc x d).2.inertOf d).2.has ((B.setDoc x d).2.inertOf d).1 ∧
      (((B.setDoc x d).2.inertOf d).2.get ((B.setDoc x d).2.inertOf d).1).kind = 1 ∧ ((((B.setDoc x d).2.inertOf d).2.cut ((B.setDoc x d).2.get x).contents).walk ((B.setDoc x d).2.get x).contents).length ≤ n ∧
      ((B.setDoc x d).2.inertOf d).2.cap ((B.setDoc x d).2.inertOf d).1 ≤ 100000 := by
  obtain ⟨s1, s2⟩ := setDoc_keeps B x d
  have h1 := Ar.Inv.setDoc hB x d
  have t1 := hT.trans (Ar.tree_setDoc B x d)
  obtain ⟨c1, c2, c3⟩ := contents_up h1 (t1.has hx) hc
  have hd1 := t1.has hd
  have h2 := Ar.InvX.inertOf h1 hd1
  obtain ⟨v1, v2⟩ := Ar.InvX.inertVal h1 hd1
  obtain ⟨i1, i2⟩ := inertOf_at hd1 h1.wf.inert
  obtain ⟨q1, q2, q3, q4⟩ := Ar.InvX.inert h2 d i2
  have t2 := Ar.tree_inertOf (B.setDoc x d).2 d
  refine ⟨h2, t2.has c1, v1, v2, ?_, ?_⟩
  · rw [cut_root (by rw [t2.parent c1]; exact c3), t2.walk h1 h2 _ c1]
    have e := t1.contents hx
    have hw2 := t1.walk hC h1 x hx
    have := contents_walk h1 (t1.has hx) hc
    rw [hw2] at this
    omega
  · have e1 : ((B.setDoc x d).2.inertOf d).2.cap ((B.setDoc x d).2.inertOf d).1 = ((B.setDoc x d).2.inertOf d).2.ns.length := by
      unfold Ar.cap
      rw [if_neg (by rw [i1, q4]; exact i2)]; rfl
    rw [e1]
    have e2 := Ar.cap_ge ((B.setDoc x d).2.inertOf d).2 d
    rw [inertOf_cap hd1 h1.wf.inert, Ar.cap_of s1 s2] at e2
    omega

set_option maxRecDepth 100000 in
set_option maxHeartbeats 4000000 in
theorem adopt_own : ∀ (n : Nat) (A : Ar) (h d : Int), A.Inv → A.has h → A.has d → (A.get d).kind = 1 → ((A.cut h).walk h).length ≤ n → A.cap d ≤ 100000 → ∀ (w0 w : World) (B b : Nat) (L : List Asrt), Own w0 B (.arena b A :: L) w →
    Calls Tryz.prog 180 #[.pointer (some ⟨b, 0, none⟩), .int .i64 h, .int .i64 d] w fun e w' => e = .returned (.tuple #[]) ∧ Own w0 B (.arena b (adoptF n A h d) :: L) w' := by
  intro n
  induction n with
  | zero =>
    intro A h d hI hh hd hk hw
    have := walk_pos (A := A.cut h) (Ar.InvX.cut hI hh) ((Ar.cut_has _ _ _).2 hh)
    omega
  | succ n ih =>
    intro A h d hI hh hd hk hw hcap w0 w B b L o
    have hC : (A.cut h).Inv := Ar.InvX.cut hI hh
    have hhC : (A.cut h).has h := (Ar.cut_has _ _ _).2 hh
    have hdC : (A.cut h).has d := (Ar.cut_has _ _ _).2 hd
    have hkC : ((A.cut h).get d).kind = 1 := by rw [Ar.cut_get hI hh hd]; exact hk
    have hcc : A.cutCall h = (0, A.cut h) := by unfold Ar.cutCall; rw [if_pos hh]
    have hcapC : (A.cut h).cap d ≤ 100000 := by rw [Ar.cap_of (Ar.cut_inert A h) (Ar.cut_ns A h)]; exact hcap
    have o1 := ((o.alloc (.cells #[.pointer (some ⟨b, 0, none⟩)] 23)).alloc (.cells #[.int .i64 d] 3)).rot3
    simp only [World.size_alloc] at o1
    have HC := Lib.hid (o1.call (fun ρ hA => Cut_any A ρ b h _ hA hI.wf))
    rw [hcc] at HC
    have HIH := Lib.hid ih
    have q1 := box_cell (o1.box (g := w.heap.size) (o := .cells #[.pointer (some ⟨b, 0, none⟩)] 23 (0, 0)) (by simp))
    have q2 := box_cell (o1.box (g := w.heap.size + 1) (o := .cells #[.int .i64 d] 3 (0, 0)) (by simp))
    have hAF : Hid (adoptF (n + 1) A h d = if ((A.cut h).get h).doc = d then A.cut h else (h :: (A.cut h).below h).foldl (ownStep (adoptF n) d) (A.cut h)) := Lib.hid rfl
    clear o hI hh hd hk hcap ih hcc
    generalize A.cut h = C at *
    refine (callsIn_wide (n := 8)).1 ?_
    refine callsIn_of_wp_marks Tryz.func180 rfl trivial ?_ rfl
    simp only [Tryz.ntmps180, List.size_toArray, List.length_cons, List.length_nil, Nat.reduceAdd, Nat.reduceSub, Array.replicate_succ, Array.replicate_zero, List.push_toArray, List.append_toArray, List.nil_append, List.cons_append]
    refine wpIn_wide.2 ?_
    go_wp2_with fail
    refine HC.out.mono ?_
    rintro e w1 ⟨rfl, o2⟩
    clear q1 q2 HC o1
    have q1 := box_cell (o2.box (g := w.heap.size) (o := .cells #[.pointer (some ⟨b, 0, none⟩)] 23 (0, 0)) (by simp))
    have q2 := box_cell (o2.box (g := w.heap.size + 1) (o := .cells #[.int .i64 d] 3 (0, 0)) (by simp))
    have HS := Lib.hid (hC.short (Nat.le_trans (Ar.cap_ge C d) (Nat.le_trans hcapC (by omega))))
    go_upto_region 2 with fail
    have x1 := Wld.cell (w := w1) q1
    have x2 := Wld.cell (w := w1) q2
    obtain ⟨nd, hnd⟩ : ∃ nd, C.get h = nd := ⟨_, rfl⟩
    have hnd' := hnd
    have HDC := Lib.hid (fun x : Wld w1 => (Document_own (b := b) (A := C) (o2.read x.2) (by simp) HS.out hhC hnd).mono (fun e w' q => show e = .returned (.int .i64 nd.doc) ∧ Below x.val.heap.size x.val w' from ⟨q.1, q.2.2⟩))
    rw [hnd] at hAF
    clear hnd
    by_cases hdd : nd.doc = d
    · have e1 : (nd.doc == d) = true := by simp [hdd]
      rw [if_pos hdd] at hAF
      have HO := Lib.hid o2
      clear o2 hdd
      refine wp_region_below_lit (by kernel_rfl) (by kernel_rfl) ?_
      repeat (go_big_quiet_step (first | (go_at_call 139; exact Wld.call (HDC.out _))))
      refine wpQuiet_nil ?_
      rintro Wx ⟨⟨W9, hW9⟩, hWx⟩
      have hWx' : Wx = W9 := hWx
      clear hWx
      subst hWx'
      have HO9 := Lib.hid (HO.out.read hW9)
      clear x1 x2 q1 q2 hW9 HO HDC
      go_wp2
      refine ⟨.tuple #[], by simp [results, Tryz.f180, go_sem], ?_⟩
      refine ⟨rfl, ?_⟩
      rw [hAF.out]
      exact HO9.out.swap.drop.swap.drop
    · have e1 : (nd.doc == d) = false := by simp [hdd]
      rw [if_neg hdd] at hAF
      have HO := Lib.hid o2
      clear o2 hdd
      refine wp_region_below_lit (by kernel_rfl) (by kernel_rfl) ?_
      repeat (go_big_quiet_step (first | (go_at_call 139; exact Wld.call (HDC.out _))))
      refine wpQuiet_nil ?_
      rintro Wx ⟨⟨W9, hW9⟩, hWx⟩
      have hWx' : Wx = W9 := hWx
      clear hWx
      subst hWx'
      have o9 := HO.out.read hW9
      clear x1 x2 q1 q2 hW9 HO HDC
      have q1 := box_cell (o9.box (g := w.heap.size) (o := .cells #[.pointer (some ⟨b, 0, none⟩)] 23 (0, 0)) (by simp))
      have q2 := box_cell (o9.box (g := w.heap.size + 1) (o := .cells #[.int .i64 d] 3 (0, 0)) (by simp))
      have o11 := (o9.alloc (.cells #[.func (.func 226) #[] #[.pointer (some ⟨w.heap.size, 0, none⟩), .pointer (some ⟨w.heap.size + 1, 0, none⟩)]] 185)).swap
      have q5 := box_cell (o11.box (g := Wx.heap.size) (o := .cells #[.func (.func 226) #[] #[.pointer (some ⟨w.heap.size, 0, none⟩), .pointer (some ⟨w.heap.size + 1, 0, none⟩)]] 185 (0, 0)) (by simp))
      have HRC := Lib.hid (own1_own (rec := adoptF n) (ab := w.heap.size) (db := w.heap.size + 1) o11 hC (Nat.le_trans (Ar.cap_ge C d) hcapC) hhC hdC hkC (by simp) (by simp) (fun L' w' hc o' => by
        obtain ⟨m1, m2, m3, m4, m5, m6⟩ := nested_facts hC hC (Ar.Tree.refl C) hcapC hdC hkC hhC hw hc
        exact HIH.out _ _ _ m1 m2 m3 m4 m5 m6 _ _ _ _ _ o'))
      clear o9 o11
      go_wp2_with fail
      refine HRC.out.mono ?_
      rintro e w12 ⟨rfl, o12⟩
      clear q1 q2 q5 HRC
      generalize hg : Wx.heap.size = gf at o12 ⊢
      clear hg
      have q1 := box_cell (o12.box (g := w.heap.size) (o := .cells #[.pointer (some ⟨b, 0, none⟩)] 23 (0, 0)) (by simp))
      go_wp2_with fail
      refine (Below_any b h _).mono ?_
      rintro e w13 ⟨rfl, rfl⟩
      have o13 := (o12.alloc (.cells #[.pointer (some ⟨b, 0, none⟩)] 23)).alloc (.cells #[.int .i64 h] 3)
      simp only [World.size_alloc] at o13
      clear q1 o12
      have o14 := o13.rot3
      have HC0 := Lib.hid hC
      go_wp2_with fail
      refine wpIn_wide.1 (wpIn_rangeFunc_G (n := 8) (α := Int) rfl (by omega) (gf := 181) (lb := #[.pointer (some ⟨w12.heap.size, 0, none⟩), .pointer (some ⟨w12.heap.size + 1, 0, none⟩)]) rfl trivial (enters_of Tryz.func181 (by kernel_rfl) rfl)
        (Rd := belowRd C b w12.heap.size (w12.heap.size + 1) h) belowRd_cons (below_seq hC (Nat.le_trans (Ar.cap_ge C d) hcapC) hhC w0 B 7) (fun _ => rfl) o14
        (fun pre L' => (∃ rest, C.below h = pre ++ rest) ∧ L' = .arena b ((h :: pre).foldl (ownStep (adoptF n) d) C) :: .box (w12.heap.size + 1) (.cells #[.int .i64 h] 3 (0, 0)) :: .box w12.heap.size (.cells #[.pointer (some ⟨b, 0, none⟩)] 23 (0, 0)) ::
          .box gf (.cells #[.func (.func 226) #[] #[.pointer (some ⟨w.heap.size, 0, none⟩), .pointer (some ⟨w.heap.size + 1, 0, none⟩)]] 185 (0, 0)) :: .box (w.heap.size + 1) (.cells #[.int .i64 d] 3 (0, 0)) :: .box w.heap.size (.cells #[.pointer (some ⟨b, 0, none⟩)] 23 (0, 0)) :: L)
        (fun _ _ _ => False) ?hLR ⟨⟨_, rfl⟩, rfl⟩
        (fun x => { tmps := #[.pointer (some ⟨b, 0, none⟩), .int .i64 h, .int .i64 d, .pointer (some ⟨w.heap.size, 0, none⟩), undef, .pointer (some ⟨w.heap.size + 1, 0, none⟩), .pointer (some ⟨gf, 0, none⟩), .int .i64 x, .pointer (some ⟨b, 0, none⟩), .int .i64 h, .int .i64 0,
          .pointer (some ⟨b, 0, none⟩), .int .i64 h, .int .i64 nd.doc, .int .i64 d, .bool false, .func (.func 226) #[] #[.pointer (some ⟨w.heap.size, 0, none⟩), .pointer (some ⟨w.heap.size + 1, 0, none⟩)],
          .func (.func 226) #[] #[.pointer (some ⟨w.heap.size, 0, none⟩), .pointer (some ⟨w.heap.size + 1, 0, none⟩)], .int .i64 h, .tuple #[], .pointer (some ⟨b, 0, none⟩), .int .i64 h,
          .func (.func 181) #[] #[.pointer (some ⟨w12.heap.size, 0, none⟩), .pointer (some ⟨w12.heap.size + 1, 0, none⟩)], .int .i64 x, undef, undef, undef], defers := [] }) ?assign ?body ?done ?stop)
      case hLR =>
        rintro pre L' ⟨⟨rest, hrest⟩, rfl⟩
        obtain ⟨f1, f2, f3⟩ := ownSteps_facts n hC hdC hkC (l := h :: pre) (fun x hx => by
          rcases List.mem_cons.1 hx with rfl | hx
          · exact hhC
          · exact (below_mem hC h hhC x (by rw [hrest]; simp [hx])).1)
        refine ⟨by simp, by simp, _, by simp, f2, f1, ?_⟩
        have := Ar.cap_ge ((h :: pre).foldl (ownStep (adoptF n) d) C) d
        omega
      case assign =>
        intro l' x W' K hK
        gi_wp2
        exact hK
      case body =>
        rintro l' G f pre x W' L' ⟨rest, hrest⟩ ⟨-, rfl⟩ o
        have hxm : x ∈ C.below h := by rw [hrest]; simp
        obtain ⟨b1, b2, b3, -⟩ := below_mem hC h hhC x hxm
        obtain ⟨f1, f2, f3⟩ := ownSteps_facts n hC hdC hkC (l := h :: pre) (fun x hx => by
          rcases List.mem_cons.1 hx with rfl | hx
          · exact hhC
          · exact (below_mem hC h hhC x (by rw [hrest]; simp [hx])).1)
        have hfl : (h :: (pre ++ [x])).foldl (ownStep (adoptF n) d) C = ownStep (adoptF n) d ((h :: pre).foldl (ownStep (adoptF n) d) C) x := by simp [List.foldl_append]
        rw [hfl]
        have hPre : ∃ rest, C.below h = pre ++ [x] ++ rest := ⟨rest, hrest⟩
        generalize (h :: pre).foldl (ownStep (adoptF n) d) C = B1 at *
        have q1 := box_cell (o.box (g := gf) (o := .cells #[.func (.func 226) #[] #[.pointer (some ⟨w.heap.size, 0, none⟩), .pointer (some ⟨w.heap.size + 1, 0, none⟩)]] 185 (0, 0)) (by simp))
        have HRC := Lib.hid (own1_own (rec := adoptF n) (ab := w.heap.size) (db := w.heap.size + 1) o.swap f1 (Nat.le_trans (Ar.cap_ge B1 d) (by omega)) (f2.has b1) (f2.has hdC) ((f2.kind hdC).trans hkC) (by simp) (by simp) (fun L' w' hc o' => by
          obtain ⟨m1, m2, m3, m4, m5, m6⟩ := nested_facts (n := n) hC f1 f2 (by omega) hdC hkC b1 (by omega) hc
          exact HIH.out _ _ _ m1 m2 m3 m4 m5 m6 _ _ _ _ _ o'))
        have HP := Lib.hid hPre
        clear o f1 f2 f3 hfl hxm b1 b2 b3 hrest hPre o14 o13
        gi_wp2_with fail
        refine ⟨trivial, ?_⟩
        refine (CallsIn.inRound l' (callsIn_wide.2 HRC.out)).mono ?_
        rintro e w2 ⟨rfl, o2⟩
        have HO2 := Lib.hid o2.swap
        clear q1 o2 HRC
        gi_wp2
        exact ⟨_, ⟨HP.out, rfl⟩, HO2.out⟩
      case done =>
        rintro xs W' L' rfl ⟨-, rfl⟩ o
        simp only [World.size_alloc] at o
        have HO := Lib.hid o
        clear o o13 o14
        have hD := HO.out.box (g := w12.heap.size + 1 + 1) (o := .deferred (some [])) (by simp)
        gi_wp2
        simp only [World.size_alloc]
        refine ⟨by simp, .inl ⟨_, _, rfl, run_takeDeferred hD, ?_⟩⟩
        refine ⟨.tuple #[], by simp [results, Tryz.f180, go_sem], rfl, ?_⟩
        rw [hAF.out]
        have o20 := (HO.out.setBox (upd_put (.deferred none) rfl) (World.putObj_heap_same (lt_of_block hD))).drop
        exact o20.swap.drop.swap.drop.swap.drop.swap.drop.swap.drop
      case stop =>
        rintro c pre W' L' - hf -
        exact hf.elim

end Go.Proofs.YtpicinjcmjaogaaGreat
