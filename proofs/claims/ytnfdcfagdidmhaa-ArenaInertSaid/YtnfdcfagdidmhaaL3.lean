/-
  The law ArenaInert: the walk at an arena that has the inert document.
-/
import Derived.Test.YtnfdcfagdidmhaaL2
namespace Go.Proofs.Ytnfdcfagdidmhaa
open Go.RowKit
set_option linter.unusedVariables false

set_option maxRecDepth 100000 in
set_option maxHeartbeats 1000000 in
theorem ArenaInert_some (v : Value) (l : List OpD) (doc : Int) (w : World) (hv : ROps w v l) (hs : smallOps l 100) (he : (runL l).ofDoc doc = 0) :
    Calls Try.prog 3 #[v, .int .i64 doc] w fun e w' => e = .returned (.bool true) ∧ Below w.heap.size w w' := by
  have HS := Lib.hid (Small_any v l 100 w hv)
  have HD := Lib.hid (show decide (smallOps l 100) = true from decide_eq_true hs)
  obtain ⟨s1, s2⟩ := smallOps_get hs (by omega)
  obtain ⟨i1, i2⟩ := run_len s2
  have HR := Lib.hid (fun (w0 w1 : World) (B : Nat) (o : Own w0 B [] w1) (hv1 : ROps w1 v l) => Run_own o v l hv1 s1 s2)
  have o0 := Own.start w
  have HV := Lib.hid hv
  obtain ⟨av, cv, rfl, -⟩ := hv
  obtain ⟨i, A1, A2, c1, j1, h1, k1, d1, q1, c2, c3, c4, j2, h2, x1, x2, h3, y1, y2, y3, n1, n2⟩ := inert_law i1 he
  clear hs
  generalize runL l = A at *
  obtain ⟨nx, hx⟩ : ∃ n, n = A1.get i := ⟨_, rfl⟩
  obtain ⟨ny, hy⟩ : ∃ n, n = A2.get (A1.n + 1) := ⟨_, rfl⟩
  obtain ⟨nc, hc⟩ : ∃ n, n = A2.get (A1.n + 2) := ⟨_, rfl⟩
  rw [← hx] at k1 d1 q1
  rw [← hy] at x1 x2
  rw [← hc] at y1 y2 y3
  have HX := Lib.hid hx.symm
  have HY := Lib.hid hy.symm
  have HCC := Lib.hid hc.symm
  clear hx hy hc
  have hnum : A1.n + 1 + 1 = A1.n + 2 := by omega
  have hb1 : 0 ≤ A1.n ∧ A1.n ≤ 1000000 := by unfold Ar.n; omega
  have hb2 := hb1.1; have hb3 := hb1.2
  have HLEN := Lib.hid (And.intro i2 (And.intro n1 n2))
  have HC := Lib.hid (And.intro c1 (And.intro c2 (And.intro c3 c4)))
  clear c1 c2 c3 c4 i2 n1 n2
  by_cases hgt : A.n < i
  all_goals
    go_enter Try.func3, Try.ntmps3
    go_wp2_with fail
    refine HS.out.mono ?_
    rintro e w1 ⟨rfl, hB1⟩
    rw [HD.out]
    have o1 := o0.read hB1
    clear o0 HS HD
    go_wp2_with fail
    refine (HR.out _ _ _ o1 (HV.out.below hB1)).mono ?_
    rintro e w2 ⟨rfl, o2⟩
    generalize w1.heap.size = b at *
    clear o1 hB1 HV
    go_wp2_with fail
    obtain ⟨ρ2, hA2⟩ := o2.arena (b := b) (A := A) (by simp)
    obtain ⟨a2, c2, mv2, h02, -⟩ := hA2.head
    refine (len_any A _ a2 c2 w2 h02).mono ?_
    rintro e w3 ⟨rfl, rfl⟩
    clear hA2 h02
    go_wp2_with fail
    refine (o2.callE (fun ρ hA => Inert_any A ρ _ doc _ hA (by have := HLEN.out; omega)) (A2 := A1) (v' := pairV (i, 0)) (by rw [HC.out.1]) (by rw [HC.out.1])).mono ?_
    rintro e w3 ⟨rfl, o3⟩
    clear o2
    unfold pairV
    go_wp2_with fail
    refine (Node_own o3 (b := b) (A := A1) (by simp) (j1.short (by have := HLEN.out; omega)) h1 HX.out).mono ?_
    rintro e w4 ⟨ka, kl, kc, aa, al, ac, rfl, o4, -⟩
    clear o3
    have HT := Lib.hid (nodeBox_facts (w := w4) nx ka kc aa ac kl al)
    have o5 := o4.nodeBox nx (.slice ka kl kc) (.slice aa al ac)
    have b4 := o5.box (g := w4.heap.size) (o := .cells (nx.cells (.slice ka kl kc) (.slice aa al ac)).toArray 36 (0, 0)) (by simp)
    have e0 : ((w4.alloc (.cells zcells 36)).setCells w4.heap.size 0 (nx.cells (.slice ka kl kc) (.slice aa al ac))).cell? ⟨w4.heap.size, 0, none⟩ = some (.int .i64 1) := by rw [cell_of_row _ _ _ _ _ _ b4, ← k1]; rfl
    have e3 : ((w4.alloc (.cells zcells 36)).setCells w4.heap.size 0 (nx.cells (.slice ka kl kc) (.slice aa al ac))).cell? ⟨w4.heap.size, 3, none⟩ = some (.int .i64 i) := by rw [cell_of_row _ _ _ _ _ _ b4, ← d1]; rfl
    have e10 : ((w4.alloc (.cells zcells 36)).setCells w4.heap.size 0 (nx.cells (.slice ka kl kc) (.slice aa al ac))).cell? ⟨w4.heap.size, 10, none⟩ = some (.bool nx.quirks) := by rw [cell_of_row _ _ _ _ _ _ b4]; rfl
    clear b4
    try rw [q1 hgt] at e10
    clear q1
    have E5 := Lib.hid (And.intro e0 (And.intro e3 e10))
    clear e0 e3 e10
    go_wp2_with ((with_reducible refine wpList_store_mid ?_ 36 (.tmp 9) (.tmp 42) ?_ w4.heap.size 0 (nx.cells (.slice ka kl kc) (.slice aa al ac)).toArray ?_ ?_ ?_ ?_ ?_ ?_); exact rfl; exact rfl; exact rfl; exact rfl; exact HT.out.1; exact sizeNode _ _ _; exact all_oneCell_toArray HT.out.2; generalize hw5 : World.setCells _ _ _ _ = w5 at o5 E5 ⊢; generalize hg4 : w4.heap.size = g4 at o5 E5 ⊢; clear hw5 hg4; have e0 := E5.out.1; have e3 := E5.out.2.1; have e10 := E5.out.2.2; clear E5)
    clear o4 HT
    have o5 := o5.swap
    refine (o5.callE (fun ρ hA => Inert_any A1 ρ _ doc _ hA (by have := HLEN.out; omega)) (A2 := A1) (v' := pairV (i, 0)) (by rw [HC.out.2.1]) (by rw [HC.out.2.1])).mono ?_
    rintro e w6 ⟨rfl, o6⟩
    clear o5
    unfold pairV
    go_wp2_with fail
    refine (o6.callE (fun ρ hA => Inert_any A1 ρ _ i _ hA (by have := HLEN.out; omega)) (A2 := A1) (v' := pairV (i, 0)) (by rw [HC.out.2.2.1]) (by rw [HC.out.2.2.1])).mono ?_
    rintro e w7 ⟨rfl, o7⟩
    clear o6
    unfold pairV
    go_wp2_with fail
    refine (o7.callE (fun ρ hA => Element_any A1 ρ _ doc 1 ⟨#[116, 101, 109, 112, 108, 97, 116, 101]⟩ _ [] _ hA (nilAttrs _) (by have := HLEN.out; omega) (by simp)) (A2 := A2) (v' := pairV (A1.n + 1, 0)) (by have q := HC.out.2.2.2; unfold templB at q; rw [q]) (by have q := HC.out.2.2.2; unfold templB at q; rw [q])).mono ?_
    rintro e w8 ⟨rfl, o8⟩
    clear o7
    unfold pairV
    go_wp2_with fail
    refine (Node_own o8 (b := b) (A := A2) (by simp) (j2.short (by have := HLEN.out; omega)) h2 HY.out).mono ?_
    rintro e w9 ⟨ka9, kl9, kc9, aa9, al9, ac9, rfl, o9, -⟩
    clear o8
    have HT := Lib.hid (nodeBox_facts (w := w9) ny ka9 kc9 aa9 ac9 kl9 al9)
    have o10 := o9.nodeBox ny (.slice ka9 kl9 kc9) (.slice aa9 al9 ac9)
    have b9 := o10.box (g := w9.heap.size) (o := .cells (ny.cells (.slice ka9 kl9 kc9) (.slice aa9 al9 ac9)).toArray 36 (0, 0)) (by simp)
    have f11 : ((w9.alloc (.cells zcells 36)).setCells w9.heap.size 0 (ny.cells (.slice ka9 kl9 kc9) (.slice aa9 al9 ac9))).cell? ⟨w9.heap.size, 11, none⟩ = some (.int .i64 (A1.n + 2)) := by rw [cell_of_row _ _ _ _ _ _ b9, ← x2]; rfl
    clear b9
    have E10 := Lib.hid f11
    clear f11
    go_wp2_with ((with_reducible refine wpList_store_mid ?_ 36 (.tmp 17) (.tmp 104) ?_ w9.heap.size 0 (ny.cells (.slice ka9 kl9 kc9) (.slice aa9 al9 ac9)).toArray ?_ ?_ ?_ ?_ ?_ ?_); exact rfl; exact rfl; exact rfl; exact rfl; exact HT.out.1; exact sizeNode _ _ _; exact all_oneCell_toArray HT.out.2; generalize hw10 : World.setCells _ _ _ _ = w10 at o10 E10 ⊢; generalize hg9 : w9.heap.size = g9 at o10 E10 ⊢; clear hw10 hg9; have f11 := E10.out; clear E10)
    clear o9 HT
    refine (Node_own o10 (b := b) (A := A2) (by simp) (j2.short (by have := HLEN.out; omega)) h3 HCC.out).mono ?_
    rintro e w11 ⟨ka11, kl11, kc11, aa11, al11, ac11, rfl, o11, -⟩
    clear o10
    have HT := Lib.hid (nodeBox_facts (w := w11) nc ka11 kc11 aa11 ac11 kl11 al11)
    have o12 := o11.nodeBox nc (.slice ka11 kl11 kc11) (.slice aa11 al11 ac11)
    have b9 := o12.box (g := g9) (o := .cells (ny.cells (.slice ka9 kl9 kc9) (.slice aa9 al9 ac9)).toArray 36 (0, 0)) (by simp)
    have b11 := o12.box (g := w11.heap.size) (o := .cells (nc.cells (.slice ka11 kl11 kc11) (.slice aa11 al11 ac11)).toArray 36 (0, 0)) (by simp)
    have f3 : ((w11.alloc (.cells zcells 36)).setCells w11.heap.size 0 (nc.cells (.slice ka11 kl11 kc11) (.slice aa11 al11 ac11))).cell? ⟨g9, 3, none⟩ = some (.int .i64 doc) := by rw [cell_of_row _ _ _ _ _ _ b9, ← x1]; rfl
    have f11 : ((w11.alloc (.cells zcells 36)).setCells w11.heap.size 0 (nc.cells (.slice ka11 kl11 kc11) (.slice aa11 al11 ac11))).cell? ⟨g9, 11, none⟩ = some (.int .i64 (A1.n + 2)) := by rw [cell_of_row _ _ _ _ _ _ b9, ← x2]; rfl
    have g3 : ((w11.alloc (.cells zcells 36)).setCells w11.heap.size 0 (nc.cells (.slice ka11 kl11 kc11) (.slice aa11 al11 ac11))).cell? ⟨w11.heap.size, 3, none⟩ = some (.int .i64 i) := by rw [cell_of_row _ _ _ _ _ _ b11, ← y1]; rfl
    have g0 : ((w11.alloc (.cells zcells 36)).setCells w11.heap.size 0 (nc.cells (.slice ka11 kl11 kc11) (.slice aa11 al11 ac11))).cell? ⟨w11.heap.size, 0, none⟩ = some (.int .i64 2) := by rw [cell_of_row _ _ _ _ _ _ b11, ← y2]; rfl
    have g12 : ((w11.alloc (.cells zcells 36)).setCells w11.heap.size 0 (nc.cells (.slice ka11 kl11 kc11) (.slice aa11 al11 ac11))).cell? ⟨w11.heap.size, 12, none⟩ = some (.int .i64 (A1.n + 1)) := by rw [cell_of_row _ _ _ _ _ _ b11, ← y3]; rfl
    clear b9 b11
    have E12 := Lib.hid (And.intro f3 (And.intro f11 (And.intro g3 (And.intro g0 g12))))
    clear f3 f11 g3 g0 g12
    go_wp2_with ((with_reducible refine wpList_store_mid ?_ 36 (.tmp 19) (.tmp 111) ?_ w11.heap.size 0 (nc.cells (.slice ka11 kl11 kc11) (.slice aa11 al11 ac11)).toArray ?_ ?_ ?_ ?_ ?_ ?_); exact rfl; exact rfl; exact rfl; exact rfl; exact HT.out.1; exact sizeNode _ _ _; exact all_oneCell_toArray HT.out.2; generalize hw12 : World.setCells _ _ _ _ = w12 at o12 E12 ⊢; generalize hg11 : w11.heap.size = g11 at o12 E12 ⊢; clear hw12 hg11; have f3 := E12.out.1; have f11 := E12.out.2.1; have g3 := E12.out.2.2.1; have g0 := E12.out.2.2.2.1; have g12 := E12.out.2.2.2.2; clear E12)
    clear HT
    refine (known_any _).mono ?_
    rintro e w13 ⟨rfl, hB13⟩
    have HB := Lib.hid (o12.back hB13)
    clear o11 o12 hB13
    go_wp2
    go_ret
    exact ⟨rfl, HB.out⟩

/-- **ArenaInert: the walk.** -/
theorem ArenaInert_any (v : Value) (l : List OpD) (doc : Int) (w : World) (hv : ROps w v l) :
    Calls Try.prog 3 #[v, .int .i64 doc] w fun e w' => e = .returned (.bool true) ∧ Below w.heap.size w w' := by
  by_cases hs : smallOps l 100
  · by_cases he : (runL l).ofDoc doc = 0
    · exact ArenaInert_some v l doc w hv hs he
    · exact ArenaInert_none v l doc w hv hs he
  · exact ArenaInert_big v l doc w hv hs

end Go.Proofs.Ytnfdcfagdidmhaa
