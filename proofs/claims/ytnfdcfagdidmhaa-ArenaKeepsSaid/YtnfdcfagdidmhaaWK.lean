/-
  The law ArenaKeeps.
-/
import Derived.Test.YtnfdcfagdidmhaaWL
import Derived.Stop.RegionWithIn
namespace Go.Proofs.Ytnfdcfagdidmhaa
open Go.RowKit Go.Shelf
set_option linter.unusedVariables false

attribute [local go_sem] Oper.semAt_some

/-- The document after the first operations, and some more. -/
theorem run_more {l more : List OpD} (h1 : ∀ x ∈ l, x.attrs.length ≤ 20) (h2 : ∀ x ∈ more, x.attrs.length ≤ 20) (hl : l.length ≤ 100) (hm : more.length ≤ 20) (k : Nat) :
    (runL (l ++ more.take k)).Inv ∧ (runL (l ++ more.take k)).ns.length ≤ 360 := by
  have := run_len (l := l ++ more.take k) (fun x hx => by
    rcases List.mem_append.1 hx with h | h
    · exact h1 x h
    · exact h2 x (List.mem_of_mem_take h))
  refine ⟨this.1, ?_⟩
  have h3 := this.2
  rw [List.length_append, List.length_take] at h3
  omega
theorem run_more_step {l more : List OpD} {k : Nat} {x : OpD} (hx : more[k]? = some x) : runL (l ++ more.take (k + 1)) = ((runL (l ++ more.take k)).step x).2 := by
  have hk := (List.getElem?_eq_some_iff.1 hx).1
  rw [List.take_succ_eq_append_getElem hk, ← List.append_assoc, run_snoc, (List.getElem?_eq_some_iff.1 hx).2]

theorem below_put {B g : Nat} {a w : World} {o : Obj} (h : Below B a w) (hB : B ≤ w.heap.size) (hg : B ≤ g) : Below B a (w.putObj g o) := by
  have u : Upd (fun k => k = g) w (w.putObj g o) := upd_put _ rfl
  exact h.trans ⟨u.os, u.tape, u.output, u.size, fun k hk => u.block k (by omega) (by omega)⟩

set_option maxRecDepth 100000 in
set_option maxHeartbeats 4000000 in
theorem ArenaKeeps_some (v v2 : Value) (h : Int) (l more : List OpD) (w : World) (hv : ROps w v l) (hv2 : ROps w v2 more) (hs : smallOps l 100) (hs2 : smallOps more 20) :
    Calls Try.prog 12 #[v, .int .i64 h, v2] w fun e w' => e = .returned (.bool true) ∧ Below w.heap.size w w' := by
  obtain ⟨s1, s2⟩ := smallOps_get hs (by omega)
  obtain ⟨t1, t2⟩ := smallOps_get hs2 (by omega)
  have hl := hs.1
  have hm := hs2.1
  have HD := Lib.hid (show decide (smallOps l 100) = true from decide_eq_true hs)
  have HD2 := Lib.hid (show decide (smallOps more 20) = true from decide_eq_true hs2)
  have HV := Lib.hid (fun W (hB : Below w.heap.size w W) => hv.below hB)
  have HV2 := Lib.hid (fun W (hB : Below w.heap.size w W) => hv2.below hB)
  have HR := Lib.hid (run_more s2 t2 (by omega) (by omega))
  have HRS := Lib.hid (fun k x hx => run_more_step (l := l) (more := more) (k := k) (x := x) hx)
  have HT2 := Lib.hid t2
  have HP := Lib.hid (fun (ll : List Asrt) W (o : Own w w.heap.size ll W) => Play_own o v l (fun W o => HV.out W o.low) s1 s2)
  obtain ⟨i1, i2⟩ := run_len s2
  have HI := Lib.hid i1
  obtain ⟨i0, hi, hz0, hz1, hz2⟩ := info_parts infoInt
  have HII := Lib.hid hi
  clear hi i1 hs hs2
  obtain ⟨av, cv, rfl, hcv, hcv2, -⟩ := hv.form
  obtain ⟨av2, cv2, rfl, hcw, hcw2, -⟩ := hv2.form
  have o0 := ((Own.start w).alloc (.cells #[.slice av2 more.length cv2] 22)).alloc (.cells #[.bool false] 4)
  simp only [World.size_alloc] at o0
  clear hv hv2
  refine (callsIn_wide (n := 8)).1 ?_
  refine callsIn_of_wp_marks Try.func12 rfl trivial ?_ rfl
  simp only [Try.ntmps12, List.size_toArray, List.length_cons, List.length_nil, Nat.reduceAdd, Nat.reduceSub, Array.replicate_succ, Array.replicate_zero, List.push_toArray, List.append_toArray, List.nil_append, List.cons_append]
  gi_wp2_with fail
  refine ⟨trivial, ?_⟩
  refine (callsIn_wide.2 (Small_any _ l 100 _ (HV.out _ o0.low))).mono ?_
  rintro e w1 ⟨rfl, hB1⟩
  rw [HD.out]
  have o1 := o0.read hB1
  have k5 := box_cell (o1.box (g := w.heap.size) (o := .cells #[.slice av2 more.length cv2] 22 (0, 0)) (by simp))
  clear o0 hB1
  gi_wp2_with fail
  refine ⟨trivial, ?_⟩
  refine (callsIn_wide.2 (Small_any _ more 20 _ (HV2.out _ o1.low))).mono ?_
  rintro e w2 ⟨rfl, hB2⟩
  rw [HD2.out]
  have o2 := o1.read hB2
  clear o1 hB2 k5
  gi_wp2_with fail
  refine ⟨trivial, ?_⟩
  refine (callsIn_wide.2 (HP.out _ _ o2)).mono ?_
  rintro e w3 ⟨b, c, rfl, o3⟩
  clear o2
  gi_wp2_with fail
  refine ⟨trivial, ?_⟩
  refine (callsIn_wide.2 (Walk_any b h _)).mono ?_
  rintro e w4 ⟨rfl, rfl⟩
  have o4 := (((o3.alloc (.cells #[.pointer (some ⟨b, 0, none⟩)] 25)).alloc (.cells #[.pointer (some ⟨b, 0, none⟩)] 25)).alloc (.cells #[.int .i64 h] 3)).alloc (.cells #[.slice none 0 0] 32)
  simp only [World.size_alloc] at o4 ⊢
  clear o3
  have hq := fun (W : World) (cs : Array Value) => run_eql_func_nil (P := Try.prog) W 74 (.func 104) #[] cs Try.underlying74
  gi_wp2_with fail
  clear hq
  generalize hW : (((w3.alloc (.cells #[.pointer (some ⟨b, 0, none⟩)] 25)).alloc (.cells #[.pointer (some ⟨b, 0, none⟩)] 25)).alloc (.cells #[.int .i64 h] 3)).alloc (.cells #[.slice none 0 0] 32) = W at o4 ⊢
  clear hW
  obtain ⟨ρ, hA⟩ := o4.arena (b := b) (A := runL l) (by simp)
  have hseq := Walk1_seq (runL l) ρ b (w3.heap.size + 1) (w3.heap.size + 1 + 1) h 7 (by omega) W hA HI.out (by omega) (o4.box (by simp)) (o4.box (by simp))
  have o5 := ints_nil (o4.swap.drop.swap.drop.rot3.swap)
  have hwl := walk_len HI.out h
  have HW := Lib.hid (fun (W1 : World) ll (o : Own w w.heap.size ll W1) (hm : Asrt.refar c (runL l) ∈ ll) => RWalk_own o hm HI.out (by omega) (rfl : (runL l).walk h = _))
  clear o4 hA
  generalize (runL l).walk h = L at *
  refine wpIn_rangeFunc_R rfl (by omega) (gf := 104) (lb := #[.pointer (some ⟨w3.heap.size + 1, 0, none⟩), .pointer (some ⟨w3.heap.size + 1 + 1, 0, none⟩)]) rfl trivial (enters_of Try.func104 (by kernel_rfl) rfl)
      hseq (fun _ => rfl)
      (fun m pre W' => ∃ f va vc, Own w w.heap.size (.guard W.heap.size m f :: .ints (.slice va pre.length vc) pre :: .box (w3.heap.size + 1 + 1 + 1) (.cells #[.slice va pre.length vc] 32 (0, 0)) :: .arena b (runL (l ++ more.take pre.length)) :: .box w3.heap.size (.cells #[.pointer (some ⟨b, 0, none⟩)] 25 (0, 0)) :: .refar c (runL l) :: .box (w.heap.size + 1) (.cells #[.bool false] 4 (0, 0)) :: [.box w.heap.size (.cells #[.slice av2 more.length cv2] 22 (0, 0))]) W')
      (fun _ _ _ _ => False)
      ?hI ?hIx ?h0
      (fun x => { tmps := #[.slice av l.length cv, .int .i64 h, .slice av2 more.length cv2, undef, undef, .pointer (some ⟨w.heap.size, 0, none⟩), .pointer (some ⟨w.heap.size + 1, 0, none⟩), .pointer (some ⟨w3.heap.size, 0, none⟩), .pointer (some ⟨c, 0, none⟩), .bool true,
        .func (.func 104) #[] #[.pointer (some ⟨w3.heap.size + 1, 0, none⟩), .pointer (some ⟨w3.heap.size + 1 + 1, 0, none⟩)], .pointer (some ⟨w3.heap.size + 1 + 1 + 1, 0, none⟩), .int .i64 x, .slice av l.length cv, .bool true, .bool false, .bool false, .slice av2 more.length cv2, .bool true, .bool false, .bool false, undef,
        .tuple #[.pointer (some ⟨b, 0, none⟩), .pointer (some ⟨c, 0, none⟩), .bool true], .slice av l.length cv, .tuple #[.pointer (some ⟨b, 0, none⟩), .pointer (some ⟨c, 0, none⟩), .bool true], .pointer (some ⟨b, 0, none⟩), .pointer (some ⟨c, 0, none⟩), .bool true, .pointer (some ⟨b, 0, none⟩), .int .i64 h,
        .func (.func 104) #[] #[.pointer (some ⟨w3.heap.size + 1, 0, none⟩), .pointer (some ⟨w3.heap.size + 1 + 1, 0, none⟩)], .bool true, .bool false, .bool false, .func (.func 104) #[] #[.pointer (some ⟨w3.heap.size + 1, 0, none⟩), .pointer (some ⟨w3.heap.size + 1 + 1, 0, none⟩)], .bool false, .bool false,
        .func (.func 104) #[] #[.pointer (some ⟨w3.heap.size + 1, 0, none⟩), .pointer (some ⟨w3.heap.size + 1 + 1, 0, none⟩)], .int .i64 x,
        undef, undef, undef, undef, undef, undef, undef, undef, undef, undef, undef, undef, undef, undef, undef, undef, undef, undef, undef, undef, undef, undef, undef, undef, undef, undef, undef, undef], defers := [] }) ?assign ?body ?done ?stop
  case hI =>
    rintro m s A' B' hm ⟨f, va, vc, o⟩ hu
    exact ⟨_, va, vc, o.loopGuard hm hu⟩
  case hIx => exact fun _ _ _ _ _ _ hf _ => hf
  case h0 =>
    intro W0 hW0
    have e : runL (l ++ more.take ([] : List Int).length) = runL l := by simp
    rw [e]
    exact ⟨_, none, 0, o5.startGuard hW0⟩
  case assign =>
    intro l' x W' K hK
    gi_wp2
    exact hK
  case body =>
    rintro l' m pre x W' hm' ⟨rest, hrest⟩ ⟨f, va, vc, o⟩
    have hpl : pre.length + 1 ≤ 450 := by have := congrArg List.length hrest; simp at this; omega
    have k1 := box_cell (o.box (g := w3.heap.size + 1 + 1 + 1) (o := .cells #[.slice va pre.length vc] 32 (0, 0)) (by simp))
    have hro := o.row (e := 3) (size := 1) (v := .slice va pre.length vc) (n := pre.length) (xs := pre.map intv) (by simp)
    have HO := Lib.hid o
    have HR1 := Lib.hid hro
    have hBW : w.heap.size ≤ W'.heap.size := o.big
    clear o hro hrest
    gi_wp2_with (gi_at_builtin; refine wpListIn_append_own_at _ rfl _ _ 32 rfl w.heap.size 3 i0 _ 1 8 Try.underlying32 HII.out hz0 hz1 hz2 rfl (by decide) _ _ _ rfl (HR1.out.alloc _) ⟨W'.heap.size, 0, none⟩ 1 1 [intv x] rfl rfl ?c1 ?c2 ?c3 ?c4 ?c5 ?_)
    case c1 => intro j u hj; rw [Addr.add_mid, Nat.zero_add]; exact cell_new' rfl (by simpa [intv] using hj)
    case c2 => intro u hu; simp at hu; subst hu; rfl
    case c3 => unfold maxLen; omega
    case c4 => omega
    case c5 => simp; omega
    intro v' w1 hown hgrow _ hat
    have o3 := (((HO.out.swap).alloc (.cells #[.int .i64 x] 3)).swap.grow hown hgrow (by simpa using hat)).swap.drop.rot3
    obtain ⟨va', vc', rfl⟩ := ownsForm hown
    have k3 := box_cell (o3.box (g := w3.heap.size + 1 + 1 + 1) (o := .cells #[.slice va pre.length vc] 32 (0, 0)) (by simp))
    have f3 := box_free (o3.box (g := w3.heap.size + 1 + 1 + 1) (o := .cells #[.slice va pre.length vc] 32 (0, 0)) (by simp))
    have o4 := o3.set1 (u := .slice va' (pre.length + 1) vc')
    have o5 := o4.rot3.rot3.swap
    have hkeep : ∀ k, W.heap.size ≤ k → k < m → (w1.setCell ⟨w3.heap.size + 1 + 1 + 1, 0, none⟩ (.slice va' (pre.length + 1) vc')).heap[k]? = f k := fun k h1 h2 =>
      o5.guarded (lo := W.heap.size) (m := m) (f := f) (by simp) k h1 h2
    have hkeep0 : ∀ k, W.heap.size ≤ k → k < m → W'.heap[k]? = f k := fun k h1 h2 => HO.out.guarded (lo := W.heap.size) (m := m) (f := f) (by simp) k h1 h2
    have HK0 := Lib.hid hkeep0
    have e1 : (pre ++ [x]).length = pre.length + 1 := by simp
    have e2 : (pre ++ [x]).map intv = pre.map intv ++ [intv x] := by simp
    have o6 : Own w w.heap.size (.guard W.heap.size m f :: .ints (.slice va' (pre ++ [x]).length vc') (pre ++ [x]) :: .box (w3.heap.size + 1 + 1 + 1) (.cells #[.slice va' (pre ++ [x]).length vc'] 32 (0, 0)) :: .arena b (runL (l ++ more.take pre.length)) :: .box w3.heap.size (.cells #[.pointer (some ⟨b, 0, none⟩)] 25 (0, 0)) :: .refar c (runL l) :: .box (w.heap.size + 1) (.cells #[.bool false] 4 (0, 0)) :: [.box w.heap.size (.cells #[.slice av2 more.length cv2] 22 (0, 0))]) (w1.setCell ⟨w3.heap.size + 1 + 1 + 1, 0, none⟩ (.slice va' (pre.length + 1) vc')) := by
      unfold Asrt.ints
      rw [e1, e2]; exact o5
    rw [e1] at o6
    clear o3 o4 o5 hkeep hkeep0 e2 hown hgrow hat HO HR1
    have k4 := box_cell (o6.box (g := w.heap.size) (o := .cells #[.slice av2 more.length cv2] 22 (0, 0)) (by simp))
    have k5 := box_cell (o6.box (g := w3.heap.size) (o := .cells #[.pointer (some ⟨b, 0, none⟩)] 25 (0, 0)) (by simp))
    have k6 := box_cell (o6.box (g := w3.heap.size + 1 + 1 + 1) (o := .cells #[.slice va' (pre.length + 1) vc'] 32 (0, 0)) (by simp))
    have HO6 := Lib.hid o6
    clear o6
    by_cases hge : pre.length + 1 ≤ more.length
    · obtain ⟨y, hy⟩ : ∃ y, more[pre.length]? = some y := ⟨_, List.getElem?_eq_getElem (by omega)⟩
      obtain ⟨a', c', e', -, -, hc3⟩ := HV2.out _ HO6.out.low
      simp only [Value.slice.injEq, true_and] at e'
      obtain ⟨rfl, rfl⟩ := e'
      obtain ⟨b1, o1, rfl, hcs⟩ := hc3 (by omega)
      obtain ⟨xv, F⟩ := hcs _ y hy
      obtain ⟨q1, q2⟩ := HR.out pre.length
      have hxs := HT2.out y (List.mem_of_getElem? hy)
      have HC := Lib.hid (fun W2 (hB : Below _ (w1.setCell ⟨w3.heap.size + 1 + 1 + 1, 0, none⟩ (.slice va' (pre.length + 1) vc')) W2) => (HO6.out.rot4.read hB).call (fun ρ hA => Do_any _ ρ _ y _ W2 hA q1.wf (F.at'.below hB) (by omega) (by omega)))
      obtain ⟨c0, c1, c2, c3, c4, c5, c6, c7, c8, c9⟩ := F.facts
      have HS := Lib.hid (HRS.out _ y hy)
      clear hcs hc3 F q1 q2 hxs hy
      unfold OpD.cells at HC
      unfold pairV at HC
      have hx0 : (0 : Int) ≤ pre.length := by omega
      have hx1 : (pre.length : Int) < more.length := by omega
      have hx2 : pre.length < more.length := by omega
      have hx3 : (pre.length : Int) + 1 - 1 = pre.length := by omega
      have hx4 : (pre.length : Int).toNat = pre.length := by omega
      have hx5 : IntKind.i64.wrap (pre.length : Int) = pre.length := by rw [IntKind.wrap_i64]; omega
      gi_wp2_with fail
      gi_region_with (refine ⟨trivial, ?_⟩; refine (CallsIn.inRound l' (callsIn_wide.2 (HC.out _ (Below.drewN (Below.refl _ _) _)))).mono ?_; rintro e w2 ⟨rfl, o7⟩; have k7 := box_cell (o7.box (g := w3.heap.size + 1 + 1 + 1) (o := .cells #[.slice va' (pre.length + 1) vc'] 32 (0, 0)) (by simp)); have HO7 := Lib.hid o7; clear o7)
      all_goals
        clear c0 c1 c2 c3 c4 c5 c6 c7 c8 c9 k4 k5 k6 HC HO6
        gi_wp2
        have o8 := HO7.out.rot4.rot4.rot4
        refine ⟨fun k h1 h2 => (o8.guarded (lo := W.heap.size) (m := m) (f := f) (by simp) k h1 h2).trans (HK0.out k h1 h2).symm, f, va', vc', ?_⟩
        rw [e1, HS.out]
        exact o8
    · gi_wp2
      have o8 := HO6.out
      refine ⟨fun k h1 h2 => (o8.guarded (lo := W.heap.size) (m := m) (f := f) (by simp) k h1 h2).trans (HK0.out k h1 h2).symm, f, va', vc', ?_⟩
      rw [e1, show more.take (pre.length + 1) = more.take pre.length by rw [List.take_of_length_le (by omega), List.take_of_length_le (by omega)]]
      exact o8
  case done =>
    rintro m xs W' rfl hm' ⟨f, va, vc, o⟩ hD
    have k1 := box_cell (o.box (g := w3.heap.size + 1 + 1 + 1) (o := .cells #[.slice va xs.length vc] 32 (0, 0)) (by simp))
    have hfD : f W.heap.size = some (.deferred (some [])) := (o.guarded (lo := W.heap.size) (m := m) (f := f) (by simp) _ (Nat.le_refl _) (by omega)).symm.trans hD
    have hne : w.heap.size + 1 < W.heap.size := lt_of_block (o5.box (g := w.heap.size + 1) (o := .cells #[.bool false] 4 (0, 0)) (by simp))
    have HW1 := Lib.hid (fun W1 (hB : Below W'.heap.size W' W1) => HW.out W1 _ (o.read hB) (by simp))
    have HSI := Lib.hid (fun (W1 : World) ll (v1 v2 : Value) (o : Own w w.heap.size ll W1) (h1 : Asrt.ints v1 xs ∈ ll) (h2 : Asrt.ints v2 xs ∈ ll) => (SameInts_own o h1 h2).mono (fun e w' (hh : e = .returned (.bool (decide (xs = xs))) ∧ Own w w.heap.size ll w') => show e = .returned (.bool true) ∧ Own w w.heap.size ll w' from ⟨by rw [hh.1]; simp, hh.2⟩))
    clear hseq o5 hwl HW o hD
    gi_wp2_with fail
    rename_i K hKK
    refine wpIn_mono (?r : Code.wpIn _ _ _ _ (Exit.then K fun _ _ _ => False) _ _) (fun e a w hh => by cases e <;> first | exact hh | exact hh.elim)
    case r =>
    gi_region_with (first
      | (refine ⟨trivial, ?_⟩; refine (callsIn_wide.2 (HW1.out _ (Below.drewN (Below.refl _ _) _))).mono ?_; rintro e w5 ⟨a5, c5, rfl, o6⟩; have kg := box_cell (o6.box (g := w3.heap.size + 1 + 1 + 1) (o := .cells #[.slice va xs.length vc] 32 (0, 0)) (by simp)))
      | (refine ⟨trivial, ?_⟩; refine (callsIn_wide.2 (HSI.out _ _ _ _ o6 (by simp) (by simp))).mono ?_; rintro e w6 ⟨rfl, o7⟩)
      | (refine ⟨trivial, ?_⟩; refine (callsIn_wide.2 (known_any w6)).mono ?_; rintro e w7 ⟨rfl, hB7⟩; have o8 := o7.read hB7; have k8 := box_cell (o8.box (g := w.heap.size + 1) (o := .cells #[.bool false] 4 (0, 0)) (by simp)); have f8 := box_free (o8.box (g := w.heap.size + 1) (o := .cells #[.bool false] 4 (0, 0)) (by simp))))
    all_goals
      have hD8 : (w7.setCell ⟨w.heap.size + 1, 0, none⟩ (.bool true)).heap[W.heap.size]? = some (.deferred (some [])) := (Below.heap_setCell _ _ _ _ (by simp; omega)).trans ((o8.guarded (lo := W.heap.size) (m := m) (f := f) (by simp) _ (Nat.le_refl _) (by omega)).trans hfD)
      have h8 := one_setCell (u := .bool true) (o8.box (g := w.heap.size + 1) (o := .cells #[.bool false] 4 (0, 0)) (by simp))
      have HB8 := Lib.hid ((o8.low.setCell (p := ⟨w.heap.size + 1, 0, none⟩) (by simp) (.bool true)))
      clear o8 o7 o6
      gi_wp2
      refine ⟨by simp, .inl ⟨_, _, rfl, run_takeDeferred hD8, ?_⟩⟩
      have hR := box_cell (((World.putObj_heap_other (r := W.heap.size) (o := .deferred none) (k := w.heap.size + 1) (by omega)).trans h8))
      refine ⟨.bool true, by simp [results, Try.f12, go_sem, hR], rfl, ?_⟩
      exact below_put HB8.out HB8.out.size (by omega)
  case stop => exact fun _ _ _ _ _ _ hf _ => hf.elim

set_option maxRecDepth 100000 in
set_option maxHeartbeats 1000000 in
theorem ArenaKeeps_big (v v2 : Value) (h : Int) (l more : List OpD) (w : World) (hv : ROps w v l) (hv2 : ROps w v2 more) (hs : ¬ smallOps l 100) :
    Calls Try.prog 12 #[v, .int .i64 h, v2] w fun e w' => e = .returned (.bool true) ∧ Below w.heap.size w w' := by
  have HD := Lib.hid (show decide (smallOps l 100) = false from decide_eq_false hs)
  have HV := Lib.hid (fun W (hB : Below w.heap.size w W) => hv.below hB)
  obtain ⟨av, cv, rfl, hcv, hcv2, -⟩ := hv.form
  obtain ⟨av2, cv2, rfl, hcw, hcw2, -⟩ := hv2.form
  have o0 := ((Own.start w).alloc (.cells #[.slice av2 more.length cv2] 22)).alloc (.cells #[.bool false] 4)
  simp only [World.size_alloc] at o0
  clear hv hv2
  go_enter Try.func12, Try.ntmps12
  go_wp2_with fail
  refine (Small_any _ l 100 _ (HV.out _ o0.low)).mono ?_
  rintro e w1 ⟨rfl, hB1⟩
  rw [HD.out]
  have o1 := o0.read hB1
  clear o0 hB1
  go_wp2_with fail
  refine (known_any w1).mono ?_
  rintro e w2 ⟨rfl, hB2⟩
  have o2 := o1.read hB2
  have k2 := box_cell (o2.box (g := w.heap.size + 1) (o := .cells #[.bool false] 4 (0, 0)) (by simp))
  have f2 := box_free (o2.box (g := w.heap.size + 1) (o := .cells #[.bool false] 4 (0, 0)) (by simp))
  have h2 := box_cell (one_setCell (u := .bool true) (o2.box (g := w.heap.size + 1) (o := .cells #[.bool false] 4 (0, 0)) (by simp)))
  have HB := Lib.hid ((o2.low.setCell (p := ⟨w.heap.size + 1, 0, none⟩) (by simp) (.bool true)))
  clear o1 o2 hB2
  go_wp2
  refine bodyPost_ret (v := .bool true) (by simp [results, Try.f12, go_sem, h2]) rfl ⟨rfl, HB.out⟩

set_option maxRecDepth 100000 in
set_option maxHeartbeats 1000000 in
theorem ArenaKeeps_big2 (v v2 : Value) (h : Int) (l more : List OpD) (w : World) (hv : ROps w v l) (hv2 : ROps w v2 more) (hs : smallOps l 100) (hs2 : ¬ smallOps more 20) :
    Calls Try.prog 12 #[v, .int .i64 h, v2] w fun e w' => e = .returned (.bool true) ∧ Below w.heap.size w w' := by
  have HD := Lib.hid (show decide (smallOps l 100) = true from decide_eq_true hs)
  have HD2 := Lib.hid (show decide (smallOps more 20) = false from decide_eq_false hs2)
  have HV := Lib.hid (fun W (hB : Below w.heap.size w W) => hv.below hB)
  have HV2 := Lib.hid (fun W (hB : Below w.heap.size w W) => hv2.below hB)
  obtain ⟨av, cv, rfl, hcv, hcv2, -⟩ := hv.form
  obtain ⟨av2, cv2, rfl, hcw, hcw2, -⟩ := hv2.form
  have o0 := ((Own.start w).alloc (.cells #[.slice av2 more.length cv2] 22)).alloc (.cells #[.bool false] 4)
  simp only [World.size_alloc] at o0
  clear hv hv2
  go_enter Try.func12, Try.ntmps12
  go_wp2_with fail
  refine (Small_any _ l 100 _ (HV.out _ o0.low)).mono ?_
  rintro e w1 ⟨rfl, hB1⟩
  rw [HD.out]
  have o1 := o0.read hB1
  have k5 := box_cell (o1.box (g := w.heap.size) (o := .cells #[.slice av2 more.length cv2] 22 (0, 0)) (by simp))
  clear o0 hB1
  go_wp2_with fail
  refine (Small_any _ more 20 _ (HV2.out _ o1.low)).mono ?_
  rintro e w11 ⟨rfl, hB11⟩
  rw [HD2.out]
  have o11 := o1.read hB11
  clear o1 hB11 k5
  go_wp2_with fail
  refine (known_any w11).mono ?_
  rintro e w2 ⟨rfl, hB2⟩
  have o2 := o11.read hB2
  have k2 := box_cell (o2.box (g := w.heap.size + 1) (o := .cells #[.bool false] 4 (0, 0)) (by simp))
  have f2 := box_free (o2.box (g := w.heap.size + 1) (o := .cells #[.bool false] 4 (0, 0)) (by simp))
  have h2 := box_cell (one_setCell (u := .bool true) (o2.box (g := w.heap.size + 1) (o := .cells #[.bool false] 4 (0, 0)) (by simp)))
  have HB := Lib.hid ((o2.low.setCell (p := ⟨w.heap.size + 1, 0, none⟩) (by simp) (.bool true)))
  clear o11 o2 hB2
  go_wp2
  refine bodyPost_ret (v := .bool true) (by simp [results, Try.f12, go_sem, h2]) rfl ⟨rfl, HB.out⟩

/-- **ArenaKeeps: the walk.** -/
theorem ArenaKeeps_any (v : Value) (l : List OpD) (h : Int) (v2 : Value) (more : List OpD) (w : World) (hv : ROps w v l) (hv2 : ROps w v2 more) :
    Calls Try.prog 12 #[v, .int .i64 h, v2] w fun e w' => e = .returned (.bool true) ∧ Below w.heap.size w w' := by
  by_cases hs : smallOps l 100
  · by_cases hs2 : smallOps more 20
    · exact ArenaKeeps_some v v2 h l more w hv hv2 hs hs2
    · exact ArenaKeeps_big2 v v2 h l more w hv hv2 hs hs2
  · exact ArenaKeeps_big v v2 h l more w hv hv2 hs

end Go.Proofs.Ytnfdcfagdidmhaa
