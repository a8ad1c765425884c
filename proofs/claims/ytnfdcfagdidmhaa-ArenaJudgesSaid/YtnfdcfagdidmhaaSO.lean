/-
  The document's Sound: the document, the contents and the host of one node. (Printed by genso.py.)
-/
import Derived.Test.YtnfdcfagdidmhaaSW
namespace Go.Proofs.Ytnfdcfagdidmhaa
open Go.RowKit Classical
set_option linter.unusedVariables false

def Ar.ownDoc (A : Ar) (h : Int) : Prop := A.has (A.get h).doc ∧ (A.get (A.get h).doc).kind = 1 ∧ ((A.get h).kind = 1 → (A.get h).doc = h)
def Ar.ownCon (A : Ar) (h : Int) : Prop := isTemplate (A.get h) → A.has (A.get h).contents ∧ (A.get (A.get h).contents).kind = 2 ∧ (A.get (A.get h).contents).host = h
def Ar.ownHost (A : Ar) (h : Int) : Prop := (A.get h).host = 0 ∨ A.has (A.get h).host ∧ isTemplate (A.get (A.get h).host) ∧ (A.get (A.get h).host).contents = h

set_option maxRecDepth 100000 in
set_option maxHeartbeats 8000000 in
theorem Owned_any (A : Ar) (b : Nat) (h : Int) (w : World) (hA : RN w b A) (hh : A.has h) :
    Calls Try.prog 96 #[.pointer (some ⟨b, 0, none⟩), .int .i64 h] w fun e w' => e = .returned (.bool (decide (A.ownDoc h ∧ A.ownCon h ∧ A.ownHost h))) ∧ Below w.heap.size w w' := by
  obtain ⟨nb, o, c, h0, h1, h2, h3⟩ := hA
  have HF := Lib.hid h3
  have HLN := Lib.hid (show (A.ns.length : Int) + 1 ≤ 9223372036854775807 by omega)
  have HHAS := Lib.hid (fun (W : World) (hW : Below w.heap.size w W) x => RHas_any A b (some ⟨nb, o, none⟩) c x W (Below.old hW h0) HLN.out)
  obtain ⟨q1, q2, kv, av, F, hK, hAt⟩ := h3 h hh
  obtain ⟨ka, kc, rfl, kl1, kl2, -⟩ := hK.form
  obtain ⟨aa, ac, rfl, al1, al2, -⟩ := hAt.form
  have c0 := F.c0; have c1 := F.c1; have c2 := F.c2; have c3 := F.c3; have c4 := F.c4; have c5 := F.c5; have c6 := F.c6; have c7 := F.c7; have c8 := F.c8; have c9 := F.c9; have c10 := F.c10; have c11 := F.c11; have c12 := F.c12
  have HBX := Lib.hid (nodeBoxF w (A.get h) (.slice ka (A.get h).kids.length kc) (.slice aa (A.get h).attrs.length ac))
  have HT := Lib.hid (nodeBox_facts (w := w) (A.get h) ka kc aa ac (A.get h).kids.length (A.get h).attrs.length)
  have HHH := Lib.hid hh
  clear F hK hAt h3 hh
  go_enter Try.func96, Try.ntmps96
  go_wp2_with ((with_reducible refine wpList_store_mid ?_ 36 (.tmp 5) (.tmp 12) ?_ w.heap.size 0 ((A.get h).cells (.slice ka (A.get h).kids.length kc) (.slice aa (A.get h).attrs.length ac)).toArray ?_ ?_ ?_ ?_ ?_ ?_); exact rfl; exact rfl; exact rfl; exact rfl; exact HT.out.1; exact sizeNode _ _ _; exact all_oneCell_toArray HT.out.2; generalize hWW : World.setCells _ _ _ _ = W at HBX ⊢; clear hWW c0 c1 c2 c3 c4 c5 c6 c7 c8 c9 c10 c11 c12 HT)
  have HBB := Lib.hid HBX.out.2
  have HN0 := Lib.hid HBX.out.1
  have g0 := Below.old HBB.out h0
  clear HBX h0
  simp only [Act.put]
  go_cut [40] from 13 to 40 (fun v wx => v = .bool (decide (¬ A.ownDoc h)) ∧ Hid (Below W.heap.size W wx))
  case first =>
    have d0 := HN0.out.c0; have d3 := HN0.out.c3
    simp only [Nat.zero_add] at d0 d3
    by_cases hq : A.has (A.get h).doc
    case neg =>
      have HH1 := Lib.hid (fun n => (HHAS.out (W.drewN n) (Below.drewN HBB.out n) (A.get h).doc).mono (fun e w' hh => show e = .returned (.bool false) ∧ w' = W.drewN n from ⟨by rw [hh.1, decide_eq_false hq], hh.2.symm⟩))
      have HN := Lib.hid (show decide (¬ A.ownDoc h) = true from decide_eq_true (fun q => hq q.1))
      clear hq
      go_quiet ((go_at_call 47; exact Calls.quiet_of_same (HH1.out _)))
      go_wp2_with fail
      go_meet
      exact ⟨by rw [HN.out], Below.drewN (Below.refl _ _) _⟩
    case pos =>
    have HH1 := Lib.hid (fun n => (HHAS.out (W.drewN n) (Below.drewN HBB.out n) (A.get h).doc).mono (fun e w' hh => show e = .returned (.bool true) ∧ w' = W.drewN n from ⟨by rw [hh.1, decide_eq_true hq], hh.2.symm⟩))
    obtain ⟨p1, p2, kv', av', F', -, -⟩ := HF.out _ hq
    have f0 := (F'.below HBB.out).c0
    have HQ := Lib.hid hq
    clear hq F'
    by_cases hk : (A.get (A.get h).doc).kind = 1
    case neg =>
      have e1 : ((A.get (A.get h).doc).kind != 1) = true := by simp [hk]
      have HN := Lib.hid (show decide (¬ A.ownDoc h) = true from decide_eq_true (fun q => hk q.2.1))
      clear hk
      go_quiet ((go_at_call 47; exact Calls.quiet_of_same (HH1.out _)))
      go_wp2_with fail
      go_meet
      exact ⟨by rw [HN.out], Below.drewN (Below.refl _ _) _⟩
    case pos =>
    have e1 : ((A.get (A.get h).doc).kind != 1) = false := by simp [hk]
    have HK := Lib.hid hk
    clear hk
    by_cases hd : (A.get h).kind = 1
    case neg =>
      have e2 : ((A.get h).kind == 1) = false := by simp [hd]
      have HN := Lib.hid (show decide (¬ A.ownDoc h) = false from decide_eq_false (fun q => q ⟨HQ.out, HK.out, fun e => absurd e hd⟩))
      clear hd
      go_quiet ((go_at_call 47; exact Calls.quiet_of_same (HH1.out _)))
      go_wp2_with fail
      go_meet
      exact ⟨by rw [HN.out], Below.drewN (Below.refl _ _) _⟩
    case pos =>
    have e2 : ((A.get h).kind == 1) = true := by simp [hd]
    have HD := Lib.hid hd
    clear hd
    by_cases hs : (A.get h).doc = h
    case neg =>
      have e3 : ((A.get h).doc != h) = true := by simp [hs]
      have HN := Lib.hid (show decide (¬ A.ownDoc h) = true from decide_eq_true (fun q => hs (q.2.2 HD.out)))
      clear hs
      go_quiet ((go_at_call 47; exact Calls.quiet_of_same (HH1.out _)))
      go_wp2_with fail
      go_meet
      exact ⟨by rw [HN.out], Below.drewN (Below.refl _ _) _⟩
    case pos =>
    have e3 : ((A.get h).doc != h) = false := by simp [hs]
    have HN := Lib.hid (show decide (¬ A.ownDoc h) = false from decide_eq_false (fun q => q ⟨HQ.out, HK.out, fun _ => hs⟩))
    clear hs
    go_quiet ((go_at_call 47; exact Calls.quiet_of_same (HH1.out _)))
    go_wp2_with fail
    go_meet
    exact ⟨by rw [HN.out], Below.drewN (Below.refl _ _) _⟩
  case rest =>
  obtain ⟨rfl, hB1⟩ := hcut
  have HBB2 := Lib.hid (HBB.out.trans (hB1.out.mono HBB.out.size))
  have HN2 := Lib.hid (HN0.out.below hB1.out)
  have g0' := Below.old hB1.out g0
  clear hB1 HBB HN0 g0
  have g0 := g0'
  have HBB := HBB2
  have HN0 := HN2
  clear g0' HBB2 HN2
  obtain ⟨W1, rfl⟩ : ∃ X : World, X = wc := ⟨_, rfl⟩
  by_cases hp1 : A.ownDoc h
  case neg =>
    rw [show decide (¬ A.ownDoc h) = true from decide_eq_true hp1]
    have HP1 := Lib.hid hp1
    clear hp1
    go_wp2
    go_ret
    exact ⟨ret_bool (decide_eq_false (fun q => HP1.out q.1)).symm, HBB.out⟩
  case pos =>
  rw [show decide (¬ A.ownDoc h) = false from decide_eq_false (fun q => q hp1)]
  have HP1 := Lib.hid hp1
  clear hp1
  go_upto_region 4 with fail
  go_cut [74] from 41 to 74 (fun v wx => v = .bool (decide (¬ A.ownCon h)) ∧ Hid (Below W1.heap.size W1 wx))
  case first =>
    have x0 := Wld.cell (w := W1) HN0.out.c0; have x1 := Wld.cell (w := W1) HN0.out.c1; have x2 := Wld.cell (w := W1) HN0.out.c2; have x3 := Wld.cell (w := W1) HN0.out.c3; have x4 := Wld.cell (w := W1) HN0.out.c4; have x5 := Wld.cell (w := W1) HN0.out.c5; have x6 := Wld.cell (w := W1) HN0.out.c6; have x7 := Wld.cell (w := W1) HN0.out.c7; have x8 := Wld.cell (w := W1) HN0.out.c8; have x9 := Wld.cell (w := W1) HN0.out.c9; have x10 := Wld.cell (w := W1) HN0.out.c10; have x11 := Wld.cell (w := W1) HN0.out.c11; have x12 := Wld.cell (w := W1) HN0.out.c12
    simp only [Nat.zero_add] at x0 x1 x2 x3 x4 x5 x6 x7 x8 x9 x10 x11 x12
    have xg := Wld.cell g0
    clear g0
    by_cases ht : isTemplate (A.get h)
    case neg =>
      have HIT1 := Lib.hid (fun x : Wld W1 => (IsTemplate_any (A.get h) (.slice ka (A.get h).kids.length kc) (.slice aa (A.get h).attrs.length ac) x.val).mono (fun e w' hh => show e = .returned (.bool false) ∧ Below x.val.heap.size x.val w' from ⟨by rw [hh.1, decide_eq_false ht], hh.2⟩))
      have HN := Lib.hid (show decide (¬ A.ownCon h) = false from decide_eq_false (fun q => q (fun e => absurd e ht)))
      clear ht
      unfold Nd.cells at HIT1
      refine wp_region_below_lit (by kernel_rfl) (by kernel_rfl) ?_
      repeat (go_big_quiet_step (first | (go_at_call 47; exact Wld.same (HH1.out _)) | (go_at_call 126; exact Wld.call (HIT1.out _))))
      refine wpQuiet_nil ?_
      rintro _ ⟨⟨W9, hW9⟩, rfl⟩
      go_wp2_with fail
      go_meet
      exact ⟨by rw [HN.out], hW9⟩
    case pos =>
    have HIT1 := Lib.hid (fun x : Wld W1 => (IsTemplate_any (A.get h) (.slice ka (A.get h).kids.length kc) (.slice aa (A.get h).attrs.length ac) x.val).mono (fun e w' hh => show e = .returned (.bool true) ∧ Below x.val.heap.size x.val w' from ⟨by rw [hh.1, decide_eq_true ht], hh.2⟩))
    have HTT := Lib.hid ht
    clear ht
    by_cases hq : A.has (A.get h).contents
    case neg =>
      have HH1 := Lib.hid (fun x : Wld W1 => (HHAS.out x.val (HBB.out.trans (x.2.mono HBB.out.size)) (A.get h).contents).mono (fun e w' hh => show e = .returned (.bool false) ∧ x.val = w' from ⟨by rw [hh.1, decide_eq_false hq], hh.2⟩))
      have HN := Lib.hid (show decide (¬ A.ownCon h) = true from decide_eq_true (fun q => hq (q HTT.out).1))
      clear hq
      unfold Nd.cells at HIT1
      refine wp_region_below_lit (by kernel_rfl) (by kernel_rfl) ?_
      repeat (go_big_quiet_step (first | (go_at_call 47; exact Wld.same (HH1.out _)) | (go_at_call 126; exact Wld.call (HIT1.out _))))
      refine wpQuiet_nil ?_
      rintro _ ⟨⟨W9, hW9⟩, rfl⟩
      go_wp2_with fail
      go_meet
      exact ⟨by rw [HN.out], hW9⟩
    case pos =>
    have HH1 := Lib.hid (fun x : Wld W1 => (HHAS.out x.val (HBB.out.trans (x.2.mono HBB.out.size)) (A.get h).contents).mono (fun e w' hh => show e = .returned (.bool true) ∧ x.val = w' from ⟨by rw [hh.1, decide_eq_true hq], hh.2⟩))
    obtain ⟨p1, p2, kv', av', F', -, -⟩ := HF.out _ hq
    have y0 := Wld.cell (F'.below HBB.out).c0
    have y12 := Wld.cell (F'.below HBB.out).c12
    have HQ := Lib.hid hq
    clear hq F'
    by_cases hk : (A.get (A.get h).contents).kind = 2
    case neg =>
      have e1 : ((A.get (A.get h).contents).kind != 2) = true := by simp [hk]
      have HN := Lib.hid (show decide (¬ A.ownCon h) = true from decide_eq_true (fun q => hk (q HTT.out).2.1))
      clear hk
      unfold Nd.cells at HIT1
      refine wp_region_below_lit (by kernel_rfl) (by kernel_rfl) ?_
      repeat (go_big_quiet_step (first | (go_at_call 47; exact Wld.same (HH1.out _)) | (go_at_call 126; exact Wld.call (HIT1.out _))))
      refine wpQuiet_nil ?_
      rintro _ ⟨⟨W9, hW9⟩, rfl⟩
      go_wp2_with fail
      go_meet
      exact ⟨by rw [HN.out], hW9⟩
    case pos =>
    have e1 : ((A.get (A.get h).contents).kind != 2) = false := by simp [hk]
    have HK := Lib.hid hk
    clear hk
    by_cases hs : (A.get (A.get h).contents).host = h
    case neg =>
      have e2 : ((A.get (A.get h).contents).host != h) = true := by simp [hs]
      have HN := Lib.hid (show decide (¬ A.ownCon h) = true from decide_eq_true (fun q => hs (q HTT.out).2.2))
      clear hs
      unfold Nd.cells at HIT1
      refine wp_region_below_lit (by kernel_rfl) (by kernel_rfl) ?_
      repeat (go_big_quiet_step (first | (go_at_call 47; exact Wld.same (HH1.out _)) | (go_at_call 126; exact Wld.call (HIT1.out _))))
      refine wpQuiet_nil ?_
      rintro _ ⟨⟨W9, hW9⟩, rfl⟩
      go_wp2_with fail
      go_meet
      exact ⟨by rw [HN.out], hW9⟩
    case pos =>
      have e2 : ((A.get (A.get h).contents).host != h) = false := by simp [hs]
      have HN := Lib.hid (show decide (¬ A.ownCon h) = false from decide_eq_false (fun q => q (fun _ => ⟨HQ.out, HK.out, hs⟩)))
      clear hs
      unfold Nd.cells at HIT1
      refine wp_region_below_lit (by kernel_rfl) (by kernel_rfl) ?_
      repeat (go_big_quiet_step (first | (go_at_call 47; exact Wld.same (HH1.out _)) | (go_at_call 126; exact Wld.call (HIT1.out _))))
      refine wpQuiet_nil ?_
      rintro _ ⟨⟨W9, hW9⟩, rfl⟩
      go_wp2_with fail
      go_meet
      exact ⟨by rw [HN.out], hW9⟩
  case rest =>
  obtain ⟨rfl, hB1⟩ := hcut
  have HBB2 := Lib.hid (HBB.out.trans (hB1.out.mono HBB.out.size))
  have HN2 := Lib.hid (HN0.out.below hB1.out)
  have g0' := Below.old hB1.out g0
  clear hB1 HBB HN0 g0
  have g0 := g0'
  have HBB := HBB2
  have HN0 := HN2
  clear g0' HBB2 HN2
  obtain ⟨W2, rfl⟩ : ∃ X : World, X = wc := ⟨_, rfl⟩
  by_cases hp2 : A.ownCon h
  case neg =>
    rw [show decide (¬ A.ownCon h) = true from decide_eq_true hp2]
    have HP2 := Lib.hid hp2
    clear hp2
    go_wp2
    go_ret
    exact ⟨ret_bool (decide_eq_false (fun q => HP2.out q.2.1)).symm, HBB.out⟩
  case pos =>
  rw [show decide (¬ A.ownCon h) = false from decide_eq_false (fun q => q hp2)]
  have HP2 := Lib.hid hp2
  clear hp2
  go_upto_region 6 with fail
  have x0 := Wld.cell (w := W2) HN0.out.c0; have x1 := Wld.cell (w := W2) HN0.out.c1; have x2 := Wld.cell (w := W2) HN0.out.c2; have x3 := Wld.cell (w := W2) HN0.out.c3; have x4 := Wld.cell (w := W2) HN0.out.c4; have x5 := Wld.cell (w := W2) HN0.out.c5; have x6 := Wld.cell (w := W2) HN0.out.c6; have x7 := Wld.cell (w := W2) HN0.out.c7; have x8 := Wld.cell (w := W2) HN0.out.c8; have x9 := Wld.cell (w := W2) HN0.out.c9; have x10 := Wld.cell (w := W2) HN0.out.c10; have x11 := Wld.cell (w := W2) HN0.out.c11; have x12 := Wld.cell (w := W2) HN0.out.c12
  simp only [Nat.zero_add] at x0 x1 x2 x3 x4 x5 x6 x7 x8 x9 x10 x11 x12
  have xg := Wld.cell g0
  clear g0
  by_cases hz : (A.get h).host = 0
  case pos =>
    have ez : ((A.get h).host == 0) = true := by simp [hz]
    have HZ := Lib.hid hz
    clear hz
    refine wp_region_below_lit (by kernel_rfl) (by kernel_rfl) ?_
    repeat (go_big_quiet_step (first | (go_at_call 47; exact Wld.same (HH1.out _)) | (go_at_call 126; exact Wld.call (HIT1.out _))))
    refine wpQuiet_nil ?_
    rintro _ ⟨⟨W9, hW9⟩, rfl⟩
    go_wp2
    go_ret
    exact ⟨ret_bool (decide_eq_true ⟨HP1.out, HP2.out, Or.inl HZ.out⟩).symm, HBB.out.trans (hW9.mono HBB.out.size)⟩
  case neg =>
  have ez : ((A.get h).host == 0) = false := by simp [hz]
  have HZ := Lib.hid hz
  clear hz
  by_cases hq : A.has (A.get h).host
  case neg =>
    have HH1 := Lib.hid (fun x : Wld W2 => (HHAS.out x.val (HBB.out.trans (x.2.mono HBB.out.size)) (A.get h).host).mono (fun e w' hh => show e = .returned (.bool false) ∧ x.val = w' from ⟨by rw [hh.1, decide_eq_false hq], hh.2⟩))
    have HQ := Lib.hid hq
    clear hq
    refine wp_region_below_lit (by kernel_rfl) (by kernel_rfl) ?_
    repeat (go_big_quiet_step (first | (go_at_call 47; exact Wld.same (HH1.out _)) | (go_at_call 126; exact Wld.call (HIT1.out _))))
    refine wpQuiet_nil ?_
    rintro _ ⟨⟨W9, hW9⟩, rfl⟩
    go_wp2
    go_ret
    exact ⟨ret_bool (decide_eq_false (fun q => q.2.2.elim HZ.out (fun q => HQ.out q.1))).symm, HBB.out.trans (hW9.mono HBB.out.size)⟩
  case pos =>
  have HH1 := Lib.hid (fun x : Wld W2 => (HHAS.out x.val (HBB.out.trans (x.2.mono HBB.out.size)) (A.get h).host).mono (fun e w' hh => show e = .returned (.bool true) ∧ x.val = w' from ⟨by rw [hh.1, decide_eq_true hq], hh.2⟩))
  obtain ⟨p1, p2, kv', av', F', hK', hA'⟩ := HF.out _ hq
  obtain ⟨ka', kc', rfl, -⟩ := hK'.form
  obtain ⟨aa', ac', rfl, -⟩ := hA'.form
  have y0 := Wld.cell (F'.below HBB.out).c0; have y1 := Wld.cell (F'.below HBB.out).c1; have y2 := Wld.cell (F'.below HBB.out).c2; have y3 := Wld.cell (F'.below HBB.out).c3; have y4 := Wld.cell (F'.below HBB.out).c4; have y5 := Wld.cell (F'.below HBB.out).c5; have y6 := Wld.cell (F'.below HBB.out).c6; have y7 := Wld.cell (F'.below HBB.out).c7; have y8 := Wld.cell (F'.below HBB.out).c8; have y9 := Wld.cell (F'.below HBB.out).c9; have y10 := Wld.cell (F'.below HBB.out).c10; have y11 := Wld.cell (F'.below HBB.out).c11; have y12 := Wld.cell (F'.below HBB.out).c12
  have HQ := Lib.hid hq
  clear hq F' hK' hA'
  by_cases ht : isTemplate (A.get (A.get h).host)
  case neg =>
    have HIT1 := Lib.hid (fun x : Wld W2 => (IsTemplate_any (A.get (A.get h).host) (.slice ka' (A.get (A.get h).host).kids.length kc') (.slice aa' (A.get (A.get h).host).attrs.length ac') x.val).mono (fun e w' hh => show e = .returned (.bool false) ∧ Below x.val.heap.size x.val w' from ⟨by rw [hh.1, decide_eq_false ht], hh.2⟩))
    have HTT := Lib.hid ht
    clear ht
    unfold Nd.cells at HIT1
    refine wp_region_below_lit (by kernel_rfl) (by kernel_rfl) ?_
    repeat (go_big_quiet_step (first | (go_at_call 47; exact Wld.same (HH1.out _)) | (go_at_call 126; exact Wld.call (HIT1.out _))))
    refine wpQuiet_nil ?_
    rintro _ ⟨⟨W9, hW9⟩, rfl⟩
    go_wp2
    go_ret
    exact ⟨ret_bool (decide_eq_false (fun q => q.2.2.elim HZ.out (fun q => HTT.out q.2.1))).symm, HBB.out.trans (hW9.mono HBB.out.size)⟩
  case pos =>
  have HIT1 := Lib.hid (fun x : Wld W2 => (IsTemplate_any (A.get (A.get h).host) (.slice ka' (A.get (A.get h).host).kids.length kc') (.slice aa' (A.get (A.get h).host).attrs.length ac') x.val).mono (fun e w' hh => show e = .returned (.bool true) ∧ Below x.val.heap.size x.val w' from ⟨by rw [hh.1, decide_eq_true ht], hh.2⟩))
  have HTT := Lib.hid ht
  clear ht
  by_cases hs : (A.get (A.get h).host).contents = h
  case neg =>
    have e2 : ((A.get (A.get h).host).contents == h) = false := by simp [hs]
    have HS := Lib.hid hs
    clear hs
    unfold Nd.cells at HIT1
    refine wp_region_below_lit (by kernel_rfl) (by kernel_rfl) ?_
    repeat (go_big_quiet_step (first | (go_at_call 47; exact Wld.same (HH1.out _)) | (go_at_call 126; exact Wld.call (HIT1.out _))))
    refine wpQuiet_nil ?_
    rintro _ ⟨⟨W9, hW9⟩, rfl⟩
    go_wp2
    go_ret
    exact ⟨ret_bool (decide_eq_false (fun q => q.2.2.elim HZ.out (fun q => HS.out q.2.2))).symm, HBB.out.trans (hW9.mono HBB.out.size)⟩
  case pos =>
  have e2 : ((A.get (A.get h).host).contents == h) = true := by simp [hs]
  have HS := Lib.hid hs
  clear hs
  unfold Nd.cells at HIT1
  refine wp_region_below_lit (by kernel_rfl) (by kernel_rfl) ?_
  repeat (go_big_quiet_step (first | (go_at_call 47; exact Wld.same (HH1.out _)) | (go_at_call 126; exact Wld.call (HIT1.out _))))
  refine wpQuiet_nil ?_
  rintro _ ⟨⟨W9, hW9⟩, rfl⟩
  go_wp2
  go_ret
  exact ⟨ret_bool (decide_eq_true ⟨HP1.out, HP2.out, Or.inr ⟨HQ.out, HTT.out, HS.out⟩⟩).symm, HBB.out.trans (hW9.mono HBB.out.size)⟩

end Go.Proofs.Ytnfdcfagdidmhaa
