/-
  The law DomStays: the walk.
-/
import Derived.Test.YtpicinjcmjaogaaGreatK40
import Derived.Test.YtpicinjcmjaogaaGreatK43
namespace Go.Proofs.YtpicinjcmjaogaaGreat
open Go.RowKit Classical
set_option linter.unusedVariables false

theorem Copy_own {w0 w : World} {B b : Nat} {A : Ar} {l : List Asrt} (o : Own w0 B l w) (hm : Asrt.arena b A ∈ l) (hS : A.Short) :
    Calls Tryz.prog 77 #[.pointer (some ⟨b, 0, none⟩)] w fun e w' => ∃ bo, e = .returned (.pointer (some ⟨bo, 0, none⟩)) ∧ Own w0 B (.arena bo A :: l) w' := by
  obtain ⟨ρ, hA⟩ := o.arena hm
  refine (Copy_any A ρ b w hA hS).mono ?_
  rintro e w' ⟨hB, bo, σ, rfl, hC, hσ⟩
  exact ⟨bo, rfl, o.fresh hB ⟨fun k => σ k ≠ 0, ⟨σ, hC, fun _ => Iff.rfl⟩, fun k hk => hσ k hk⟩⟩
theorem Equal_own {w0 w : World} {D b c : Nat} {A B : Ar} {l : List Asrt} {r : Bool} (o : Own w0 D l w) (h1 : Asrt.arena b A ∈ l) (h2 : Asrt.arena c B ∈ l) (hI : A.Inv) (hJ : B.Inv) (hs : A.ns.length ≤ 100000) (hs' : B.ns.length ≤ 100000) (hr : decide (A = B) = r) :
    Calls Tryz.prog 78 #[.pointer (some ⟨b, 0, none⟩), .pointer (some ⟨c, 0, none⟩)] w fun e w' => e = .returned (.bool r) ∧ Own w0 D l w' := by
  obtain ⟨ρ, hA⟩ := o.arena h1
  obtain ⟨σ, hB⟩ := o.arena h2
  refine (Equal_any A B ρ σ b c hI hJ hs hs' w hA hB).mono ?_
  rintro e w' ⟨rfl, hB⟩
  exact ⟨by rw [hr], o.read hB⟩

theorem op_cells {W : World} {g : Nat} {x : OpD} {av : Value} {t : TypeId} (h : W.heap[g]? = some (.cells (x.cells av).toArray t (0, 0))) : W.cell? ⟨g, 0, none⟩ = some (.int .i64 x.kind) ∧ W.cell? ⟨g, 1, none⟩ = some (.int .i64 x.a) ∧ W.cell? ⟨g, 2, none⟩ = some (.int .i64 x.b) ∧ W.cell? ⟨g, 3, none⟩ = some (.int .i64 x.c) ∧ W.cell? ⟨g, 4, none⟩ = some (.bool x.flag) ∧ W.cell? ⟨g, 5, none⟩ = some (.int .i64 x.space) ∧ W.cell? ⟨g, 6, none⟩ = some (.string x.name) ∧ W.cell? ⟨g, 7, none⟩ = some (.string x.s) ∧ W.cell? ⟨g, 8, none⟩ = some (.string x.t) ∧ W.cell? ⟨g, 9, none⟩ = some av := by
  refine ⟨?_, ?_, ?_, ?_, ?_, ?_, ?_, ?_, ?_, ?_⟩ <;> (rw [cell_of_row W g _ _ _ _ h]; rfl)

set_option maxRecDepth 100000 in
set_option maxHeartbeats 1000000 in
theorem DomStays_no (v0 : Value) (l : List OpD) (x : OpD) (av : Value) (w : World) (hv : ROps w v0 l) (hx : RAttrs w av x.attrs) (hs : ¬ (small5 l 100 ∧ smallOp x)) :
    Calls Tryz.prog 17 #[v0, .agg (x.cells av).toArray] w fun e w' => e = .returned (.bool true) ∧ Below w.heap.size w w' := by
  have HS := Lib.hid (fun W (hB : Below w.heap.size w W) => Small5_any v0 l 100 W (hv.below hB))
  have HS' := Lib.hid (fun W (hB : Below w.heap.size w W) => SmallOp_any x av W (RAttrs.below hx hB))
  obtain ⟨aa, ac, rfl, -⟩ := hx.form
  obtain ⟨av0, cv0, rfl, -⟩ := hv
  have o1 : Own w w.heap.size [.box w.heap.size (.cells (x.cells (.slice aa x.attrs.length ac)).toArray 92 (0, 0))] _ := (Own.start w).alloc (.cells (x.cells (.slice aa x.attrs.length ac)).toArray 92)
  by_cases h1 : small5 l 100
  · have h2 : ¬ smallOp x := fun q => hs ⟨h1, q⟩
    have HD := Lib.hid (show decide (small5 l 100) = true from decide_eq_true h1)
    have HD' := Lib.hid (show decide (smallOp x) = false from decide_eq_false h2)
    clear hs h1 h2 hx
    unfold OpD.cells at o1 HS' ⊢
    go_enter Tryz.func17, Tryz.ntmps17
    go_wp2_with fail
    refine (HS.out _ o1.low).mono ?_
    rintro e w1 ⟨rfl, hB1⟩
    rw [HD.out]
    have O2 := Lib.hid (o1.read hB1)
    obtain ⟨c0, c1, c2, c3, c4, c5, c6, c7, c8, c9⟩ := op_cells (x := x) (av := .slice aa x.attrs.length ac) (t := 92) (O2.out.box (g := w.heap.size) (by simp [OpD.cells]))
    clear o1 hB1
    go_wp2_with fail
    refine (HS'.out _ O2.out.low).mono ?_
    rintro e w2 ⟨rfl, hB2⟩
    rw [HD'.out]
    clear c0 c1 c2 c3 c4 c5 c6 c7 c8 c9
    go_wp2_with fail
    refine (known5_any w2).mono ?_
    rintro e w3 ⟨rfl, hB3⟩
    have HX := Lib.hid ((O2.out.read hB2).back hB3)
    clear hB2 hB3
    go_wp2
    go_ret
    exact ⟨rfl, HX.out⟩
  · have HD := Lib.hid (show decide (small5 l 100) = false from decide_eq_false h1)
    clear hs h1 hx
    unfold OpD.cells at o1 HS' ⊢
    go_enter Tryz.func17, Tryz.ntmps17
    go_wp2_with fail
    refine (HS.out _ o1.low).mono ?_
    rintro e w1 ⟨rfl, hB1⟩
    rw [HD.out]
    go_wp2_with fail
    refine (known5_any w1).mono ?_
    rintro e w3 ⟨rfl, hB3⟩
    have HX := Lib.hid ((o1.read hB1).back hB3)
    clear hB1 hB3 o1
    go_wp2
    go_ret
    exact ⟨rfl, HX.out⟩

set_option maxRecDepth 100000 in
set_option maxHeartbeats 2000000 in
theorem DomStays_some (v0 : Value) (l : List OpD) (x : OpD) (av : Value) (w : World) (hv : ROps w v0 l) (hx : RAttrs w av x.attrs) (hs : small5 l 100) (hs' : smallOp x) :
    Calls Tryz.prog 17 #[v0, .agg (x.cells av).toArray] w fun e w' => e = .returned (.bool true) ∧ Below w.heap.size w w' := by
  have HS := Lib.hid (fun W (hB : Below w.heap.size w W) => Small5_any v0 l 100 W (hv.below hB))
  have HS' := Lib.hid (fun W (hB : Below w.heap.size w W) => SmallOp_any x av W (RAttrs.below hx hB))
  have HD := Lib.hid (show decide (small5 l 100) = true from decide_eq_true hs)
  have HD' := Lib.hid (show decide (smallOp x) = true from decide_eq_true hs')
  have h150 := hs.1.1
  obtain ⟨i1, -, hlen, hm⟩ := run5_take hs (by omega) (Nat.le_refl l.length)
  rw [List.take_length] at i1 hlen hm
  have hxa : x.attrs.length ≤ 20 := hs'.2.2.2.1
  have HRUN := Lib.hid (fun W (ll : List Asrt) (o : Own w w.heap.size ll W) => Run5_own o v0 l (hv.below o.low) hs (by omega))
  have HI := Lib.hid i1
  have HSH := Lib.hid (i1.short (show (runL5 l).ns.length ≤ 1000000 by omega))
  have HDO := Lib.hid (fun W b (ll : List Asrt) (o : Own w w.heap.size (.arena b (runL5 l) :: ll) W) => Do5_own o i1 hlen (Nat.le_trans hs'.1 (by omega)) (RAttrs.below hx o.low) (by omega) (fun _ => hm))
  obtain ⟨aa, ac, rfl, -⟩ := hx.form
  obtain ⟨av0, cv0, rfl, -⟩ := hv
  have o1 : Own w w.heap.size [.box w.heap.size (.cells (x.cells (.slice aa x.attrs.length ac)).toArray 92 (0, 0))] _ := (Own.start w).alloc (.cells (x.cells (.slice aa x.attrs.length ac)).toArray 92)
  have HERR := Lib.hid (step5_err i1 x)
  clear hs hs' i1 hx h150 hm
  generalize runL5 l = A at *
  unfold OpD.cells at o1 HS' HDO ⊢
  go_enter Tryz.func17, Tryz.ntmps17
  go_wp2_with fail
  refine (HS.out _ o1.low).mono ?_
  rintro e w1 ⟨rfl, hB1⟩
  rw [HD.out]
  have O2 := Lib.hid (o1.read hB1)
  obtain ⟨c0, c1, c2, c3, c4, c5, c6, c7, c8, c9⟩ := op_cells (x := x) (av := .slice aa x.attrs.length ac) (t := 92) (O2.out.box (g := w.heap.size) (by simp [OpD.cells]))
  clear o1 hB1
  go_wp2_with fail
  refine (HS'.out _ O2.out.low).mono ?_
  rintro e w2 ⟨rfl, hB2⟩
  rw [HD'.out]
  clear c0 c1 c2 c3 c4 c5 c6 c7 c8 c9
  have o3 := O2.out.read hB2
  clear hB2 O2
  generalize hgx : w.heap.size = gx at *
  have HGX := Lib.hid hgx
  clear hgx
  go_wp2_with fail
  refine (HRUN.out _ _ o3).mono ?_
  rintro e w3 ⟨rfl, o4⟩
  clear o3
  generalize w2.heap.size = ba at *
  go_wp2_with fail
  refine (Nodes_own o4 (b := ba) (A := A) (by simp) HSH.out).mono ?_
  rintro e w4 ⟨a4, n4, rfl, o5⟩
  clear o4
  go_wp2_with fail
  refine (Copy_own o5 (b := ba) (A := A) (by simp) HSH.out).mono ?_
  rintro e w5 ⟨bc, rfl, o6⟩
  obtain ⟨c0, c1, c2, c3, c4, c5, c6, c7, c8, c9⟩ := op_cells (x := x) (av := .slice aa x.attrs.length ac) (t := 92) (o6.box (g := gx) (by simp [OpD.cells]))
  have HC := Lib.hid (HDO.out w5 ba _ o6.rot3)
  clear o5
  unfold pairV at HC
  go_wp2_with fail
  refine HC.out.mono ?_
  rintro e w6 ⟨rfl, o7⟩
  clear HC c0 c1 c2 c3 c4 c5 c6 c7 c8 c9
  by_cases he : (A.step5 x).1.2 = 0
  · have he' : ((A.step5 x).1.2 == 0) = true := by simp [he]
    have HO := Lib.hid o7
    clear o7 he
    go_wp2_with fail
    refine (known5_any w6).mono ?_
    rintro e w7 ⟨rfl, hB7⟩
    have HX := Lib.hid (HO.out.back hB7)
    clear hB7
    go_wp2
    go_ret
    exact ⟨rfl, by rw [HGX.out]; exact HX.out⟩
  · obtain ⟨he1, he2⟩ := HERR.out he
    rw [he2] at o7
    have he' : ((A.step5 x).1.2 == 0) = false := by simp [he]
    rw [he1]
    clear he he1 he2
    go_wp2_with fail
    refine (Nodes_own o7 (b := ba) (A := A) (by simp) HSH.out).mono ?_
    rintro e w7 ⟨a7, n7, rfl, o8⟩
    clear o7
    go_wp2_with fail
    refine (SameNodes_own o8 (x := A.ns) (y := A.ns) (by simp) (by simp)).mono ?_
    rintro e w8 ⟨rfl, o9⟩
    rw [show decide (A.ns = A.ns) = true by simp]
    clear o8
    go_wp2_with fail
    refine (Equal_own o9 (b := ba) (c := bc) (A := A) (B := A) (r := true) (by simp) (by simp) HI.out HI.out (by omega) (by omega) (by simp)).mono ?_
    rintro e w9 ⟨rfl, o10⟩
    clear o9
    go_wp2_with fail
    refine (known5_any w9).mono ?_
    rintro e w10 ⟨rfl, hB10⟩
    have HX := Lib.hid (o10.back hB10)
    clear hB10 o10
    go_wp2
    go_ret
    exact ⟨rfl, by rw [HGX.out]; exact HX.out⟩

/-- **DomStays: the walk.** -/
theorem DomStays_any (v0 : Value) (l : List OpD) (x : OpD) (av : Value) (w : World) (hv : ROps w v0 l) (hx : RAttrs w av x.attrs) :
    Calls Tryz.prog 17 #[v0, .agg (x.cells av).toArray] w fun e w' => e = .returned (.bool true) ∧ Below w.heap.size w w' := by
  by_cases hs : small5 l 100 ∧ smallOp x
  · exact DomStays_some v0 l x av w hv hx hs.1 hs.2
  · exact DomStays_no v0 l x av w hv hx hs


end Go.Proofs.YtpicinjcmjaogaaGreat
