/-
  Parts: D11.
-/
import Derived.Test.YtpicinjcmjaogaaGreatK17
import Derived.Test.YtpicinjcmjaogaaGreatK24

/- Contracts of dom: empty, ReplaceAll, Adopt. (Printed by gend11.py.) -/
namespace Go.Proofs.YtpicinjcmjaogaaGreat
open Go.RowKit Go.Shelf
set_option linter.unusedVariables false

attribute [local go_sem] Oper.semAt_some

set_option maxRecDepth 100000 in
set_option maxHeartbeats 2000000 in
theorem empty_own {A : Ar} {p : Int} (hI : A.Inv) (hp : A.has p) (hs : A.ns.length ≤ 100000) {w0 w : World} {B b : Nat} {L : List Asrt} (o : Own w0 B (.arena b A :: L) w) :
    Calls Tryz.prog 138 #[.pointer (some ⟨b, 0, none⟩), .int .i64 p] w fun e w' => e = .returned (.tuple #[]) ∧ Own w0 B (.arena b (A.empty p) :: L) w' := by
  have HS := Lib.hid (hI.short (by omega))
  have HK := Lib.hid (Kids_own (b := b) (A := A) (h := p) o (by simp) HS.out)
  have hko : A.kidsOf p = (A.get p).kids := if_pos hp
  rw [hko] at HK
  have hkl := Ar.kids_len hI.wf hp
  have HST : Hid (∀ k, ((A.get p).kids.take k |>.foldl (fun B x => B.cut x) A).Inv ∧ (∀ y, A.has y → ((A.get p).kids.take k |>.foldl (fun B x => B.cut x) A).has y)) := Lib.hid (fun k => by
    refine foldl_inv (P := fun B : Ar => B.Inv ∧ ∀ y, A.has y → B.has y) ⟨hI, fun _ h => h⟩ ?_
    rintro B x hx ⟨h1, h2⟩
    exact ⟨Ar.InvX.cut h1 (h2 x (kid_up hI hp (List.mem_of_mem_take hx)).1), fun y hy => (Ar.cut_has _ _ _).2 (h2 y hy)⟩)
  have HKH := Lib.hid (fun x (hx : x ∈ (A.get p).kids) => (kid_up hI hp hx).1)
  have HIN : Hid (A.empty p = (A.get p).kids.foldl (fun B x => B.cut x) A) := Lib.hid rfl
  clear o hI hp hko
  generalize (A.get p).kids = l at *
  go_enter Tryz.func138, Tryz.ntmps138
  go_wp2_with fail
  refine HK.out.mono ?_
  rintro e w2 ⟨va, vc, rfl, o2⟩
  clear HK
  have HO2 := Lib.hid o2.swap
  clear o2
  go_wp2
  go_loopw [10] (fun i wr => ∃ k : Nat, k ≤ l.length ∧ i = .int .i64 k ∧ Hid (Own w0 B (.arena b ((l.take k).foldl (fun B x => B.cut x) A) :: .ints (.slice va l.length vc) l :: L) wr)) (fun i _ => l.length - (intOf i).toNat)
  case atStart => exact ⟨0, Nat.zero_le _, rfl, HO2⟩
  case round =>
    obtain ⟨k, hk, rfl, hT⟩ := hrel
    by_cases hlt : k < l.length
    · obtain ⟨x, hx⟩ : ∃ x, l[k]? = some x := ⟨_, List.getElem?_eq_getElem hlt⟩
      have hri : RInts wr (.slice va l.length vc) l := hT.out.ints (by simp)
      obtain ⟨b1, o1, rfl, -, hcs⟩ := hri.cells (by omega)
      have c1 := hcs k x hx
      obtain ⟨f1, f2⟩ := HST.out k
      have HX := Lib.hid (fold_take (fun (B : Ar) x => B.cut x) A hx)
      have x1 := f2 x (HKH.out x (List.mem_of_getElem? hx))
      generalize (l.take k).foldl (fun B x => B.cut x) A = A1 at *
      have HC := Lib.hid (Cut_own hT.out f1 x1)
      clear hri hcs hx f1 f2 x1 hT
      go_wp2_with fail
      refine HC.out.mono ?_
      rintro e w3 ⟨rfl, o3⟩
      rw [← HX.out] at o3
      have HO4 := Lib.hid o3
      clear o3 HC c1
      go_wp2
      go_roundw
      case rel => exact ⟨k + 1, hlt, by go_num, HO4⟩
      case measure => simp [intOf]; omega
    · have hkl : l.take k = l := List.take_of_length_le (by omega)
      have o4 := hT.out
      rw [hkl, ← HIN.out] at o4
      have HO4 := Lib.hid o4
      clear o4 hT hkl
      go_wp2
      go_end0
      exact ⟨rfl, HO4.out.swap.drop⟩

set_option maxRecDepth 100000 in
set_option maxHeartbeats 2000000 in
theorem ReplaceAllD_own {w0 w : World} {B b : Nat} {A : Ar} {L : List Asrt} {p n : Int} (o : Own w0 B (.arena b A :: L) w) (hI : A.Inv) (hs : A.ns.length + 1 ≤ 100000) :
    Calls Tryz.prog 150 #[.pointer (some ⟨b, 0, none⟩), .int .i64 p, .int .i64 n] w fun e w' => e = .returned (.int .i64 (A.replaceAllCall p n).1) ∧ Own w0 B (.arena b (A.replaceAllCall p n).2 :: L) w' := by
  have HS := hI.short (show A.ns.length ≤ 1000000 by omega)
  by_cases hh : A.has p ∧ (n ≠ 0 → A.has n)
  · have HC := Lib.hid (Check2_own (opt := 1) (x := p) (y := n) o (b := b) (A := A) (by simp) HS (chk2o.trans (if_pos hh)))
    obtain ⟨pd, hpd⟩ : ∃ pd, A.get p = pd := ⟨_, rfl⟩
    have HKP := Lib.hid (fun W (q : Own w0 B (.arena b A :: L) W) => Kind_own (b := b) (A := A) q (by simp) HS hh.1 hpd)
    have HE : Hid (A.replaceAllCall p n = if pd.kind ≠ 4 ∧ pd.kind ≠ 2 then (9, A) else if n ≠ 0 ∧ ((A.get n).kind ≠ 2 ∨ A.contains n p = true) then (4, A) else (0, if n ≠ 0 then (A.empty p).insertAt p n 0 else A.empty p)) := Lib.hid (by
      unfold Ar.replaceAllCall; rw [if_pos hh, hpd])
    obtain ⟨e1, e2, e3, -⟩ := empty_facts hI hh.1
    have hle := n_len e2
    have HEM := Lib.hid (fun W (q : Own w0 B (.arena b A :: L) W) => empty_own hI hh.1 (by omega) q)
    have HINS := Lib.hid (fun (hn : A.has n) W (q : Own w0 B (.arena b (A.empty p) :: L) W) => insert_own (p := p) (n := n) (c := 0) e1 (by unfold Ar.has; rw [e2]; exact hh.1) (by unfold Ar.has; rw [e2]; exact hn) (by omega) q)
    have HNH := Lib.hid hh.2
    have HKN := Lib.hid (fun (hn : A.has n) W (q : Own w0 B (.arena b A :: L) W) => Kind_own (b := b) (A := A) q (by simp) HS hn rfl)
    have HCT := Lib.hid (fun W (q : Own w0 B (.arena b A :: L) W) => (let ⟨ρ, hA⟩ := q.arena (b := b) (A := A) (by simp); Contains_all A ρ b n p _ hA hI.wf : Calls Tryz.prog 52 _ W _))
    clear o hI hh HS e1 e2 e3 hpd hle
    generalize pd.kind = kp at *
    generalize A.contains n p = ct at *
    generalize (A.get n).kind = kn at *
    generalize A.empty p = A2 at *
    by_cases h4 : kp = 4
    · have f4 : (kp != 4) = false := by simp [h4]
      by_cases hn0 : n = 0
      · have g1 : (n != 0) = false := by simp [hn0]
        replace HE : Hid (A.replaceAllCall p n = (0, A2)) := Lib.hid (by rw [HE.out, if_neg (fun q => q.1 h4), if_neg (fun q => q.1 hn0), if_neg (fun q => q hn0)])
        clear hn0 HINS HKN HCT HNH
        go_enter Tryz.func150, Tryz.ntmps150
        go_wp2_with fail
        refine HC.out.mono ?_
        rintro e w1 ⟨rfl, o1⟩
        have HK1 := Lib.hid (HKP.out _ o1)
        clear HC HKP o1
        go_wp2_with fail
        refine HK1.out.mono ?_
        rintro e w2 ⟨rfl, o2, -⟩
        clear HK1
        have H2 := Lib.hid (HEM.out _ o2)
        clear o2 HEM
        go_wp2_with fail
        refine H2.out.mono ?_
        rintro e w3 ⟨rfl, o3⟩
        have HO := Lib.hid o3
        clear o3 H2
        go_wp2
        go_ret
        rw [HE.out]
        exact ⟨rfl, HO.out⟩
      · have g1 : (n != 0) = true := by simp [hn0]
        have HN := Lib.hid (HNH.out hn0)
        by_cases hk2 : kn = 2
        · have g2 : (kn != 2) = false := by simp [hk2]
          cases ct with
          | true =>
            replace HE : Hid (A.replaceAllCall p n = (4, A)) := Lib.hid (by rw [HE.out, if_neg (fun q => q.1 h4), if_pos ⟨hn0, .inr rfl⟩])
            clear hn0 hk2 HNH
            go_enter Tryz.func150, Tryz.ntmps150
            go_wp2_with fail
            refine HC.out.mono ?_
            rintro e w1 ⟨rfl, o1⟩
            have HK1 := Lib.hid (HKP.out _ o1)
            clear HC HKP o1
            go_wp2_with fail
            refine HK1.out.mono ?_
            rintro e w2 ⟨rfl, o2, -⟩
            clear HK1
            have H2 := Lib.hid (HKN.out HN.out _ o2)
            clear o2
            go_wp2_with fail
            refine H2.out.mono ?_
            rintro e w3 ⟨rfl, o3, -⟩
            have H3 := Lib.hid (HCT.out _ o3)
            have HO3 := Lib.hid o3
            clear H2 o3
            go_wp2_with fail
            refine H3.out.mono ?_
            rintro e w4 ⟨rfl, hB4⟩
            have o4 := HO3.out.read hB4
            clear H3 HO3 hB4
            have HO := Lib.hid o4
            clear o4 HEM
            go_wp2
            go_ret
            rw [HE.out]
            exact ⟨rfl, HO.out⟩
          | false =>
            replace HE : Hid (A.replaceAllCall p n = (0, A2.insertAt p n 0)) := Lib.hid (by rw [HE.out, if_neg (fun q => q.1 h4), if_neg (fun q => q.2.elim (fun z => z hk2) (fun z => absurd z (by decide))), if_pos hn0])
            clear hn0 hk2 HNH
            go_enter Tryz.func150, Tryz.ntmps150
            go_wp2_with fail
            refine HC.out.mono ?_
            rintro e w1 ⟨rfl, o1⟩
            have HK1 := Lib.hid (HKP.out _ o1)
            clear HC HKP o1
            go_wp2_with fail
            refine HK1.out.mono ?_
            rintro e w2 ⟨rfl, o2, -⟩
            clear HK1
            have H2 := Lib.hid (HKN.out HN.out _ o2)
            clear o2
            go_wp2_with fail
            refine H2.out.mono ?_
            rintro e w3 ⟨rfl, o3, -⟩
            have H3 := Lib.hid (HCT.out _ o3)
            have HO3 := Lib.hid o3
            clear H2 o3
            go_wp2_with fail
            refine H3.out.mono ?_
            rintro e w4 ⟨rfl, hB4⟩
            have o4 := HO3.out.read hB4
            clear H3 HO3 hB4
            have H5 := Lib.hid (HEM.out _ o4)
            clear o4 HEM
            go_wp2_with fail
            refine H5.out.mono ?_
            rintro e w5 ⟨rfl, o5⟩
            have H6 := Lib.hid (HINS.out HN.out _ o5)
            clear o5 H5 HINS
            go_wp2_with fail
            refine H6.out.mono ?_
            rintro e w6 ⟨rfl, o6⟩
            have HO := Lib.hid o6
            clear o6 H6
            go_wp2
            go_ret
            rw [HE.out]
            exact ⟨rfl, HO.out⟩
        · have g2 : (kn != 2) = true := by simp [hk2]
          replace HE : Hid (A.replaceAllCall p n = (4, A)) := Lib.hid (by rw [HE.out, if_neg (fun q => q.1 h4), if_pos ⟨hn0, .inl hk2⟩])
          clear hn0 hk2 HNH HINS HCT
          go_enter Tryz.func150, Tryz.ntmps150
          go_wp2_with fail
          refine HC.out.mono ?_
          rintro e w1 ⟨rfl, o1⟩
          have HK1 := Lib.hid (HKP.out _ o1)
          clear HC HKP o1
          go_wp2_with fail
          refine HK1.out.mono ?_
          rintro e w2 ⟨rfl, o2, -⟩
          clear HK1
          have H2 := Lib.hid (HKN.out HN.out _ o2)
          clear o2 HEM
          go_wp2_with fail
          refine H2.out.mono ?_
          rintro e w3 ⟨rfl, o3, -⟩
          have HO := Lib.hid o3
          clear o3 H2
          go_wp2
          go_ret
          rw [HE.out]
          exact ⟨rfl, HO.out⟩
    · have f4 : (kp != 4) = true := by simp [h4]
      by_cases h2 : kp = 2
      · have f2 : (kp != 2) = false := by simp [h2]
        by_cases hn0 : n = 0
        · have g1 : (n != 0) = false := by simp [hn0]
          replace HE : Hid (A.replaceAllCall p n = (0, A2)) := Lib.hid (by rw [HE.out, if_neg (fun q => q.2 h2), if_neg (fun q => q.1 hn0), if_neg (fun q => q hn0)])
          clear hn0 HINS HKN HCT HNH
          go_enter Tryz.func150, Tryz.ntmps150
          go_wp2_with fail
          refine HC.out.mono ?_
          rintro e w1 ⟨rfl, o1⟩
          have HK1 := Lib.hid (HKP.out _ o1)
          clear HC HKP o1
          go_wp2_with fail
          refine HK1.out.mono ?_
          rintro e w2 ⟨rfl, o2, -⟩
          clear HK1
          have H2 := Lib.hid (HEM.out _ o2)
          clear o2 HEM
          go_wp2_with fail
          refine H2.out.mono ?_
          rintro e w3 ⟨rfl, o3⟩
          have HO := Lib.hid o3
          clear o3 H2
          go_wp2
          go_ret
          rw [HE.out]
          exact ⟨rfl, HO.out⟩
        · have g1 : (n != 0) = true := by simp [hn0]
          have HN := Lib.hid (HNH.out hn0)
          by_cases hk2 : kn = 2
          · have g2 : (kn != 2) = false := by simp [hk2]
            cases ct with
            | true =>
              replace HE : Hid (A.replaceAllCall p n = (4, A)) := Lib.hid (by rw [HE.out, if_neg (fun q => q.2 h2), if_pos ⟨hn0, .inr rfl⟩])
              clear hn0 hk2 HNH
              go_enter Tryz.func150, Tryz.ntmps150
              go_wp2_with fail
              refine HC.out.mono ?_
              rintro e w1 ⟨rfl, o1⟩
              have HK1 := Lib.hid (HKP.out _ o1)
              clear HC HKP o1
              go_wp2_with fail
              refine HK1.out.mono ?_
              rintro e w2 ⟨rfl, o2, -⟩
              clear HK1
              have H2 := Lib.hid (HKN.out HN.out _ o2)
              clear o2
              go_wp2_with fail
              refine H2.out.mono ?_
              rintro e w3 ⟨rfl, o3, -⟩
              have H3 := Lib.hid (HCT.out _ o3)
              have HO3 := Lib.hid o3
              clear H2 o3
              go_wp2_with fail
              refine H3.out.mono ?_
              rintro e w4 ⟨rfl, hB4⟩
              have o4 := HO3.out.read hB4
              clear H3 HO3 hB4
              have HO := Lib.hid o4
              clear o4 HEM
              go_wp2
              go_ret
              rw [HE.out]
              exact ⟨rfl, HO.out⟩
            | false =>
              replace HE : Hid (A.replaceAllCall p n = (0, A2.insertAt p n 0)) := Lib.hid (by rw [HE.out, if_neg (fun q => q.2 h2), if_neg (fun q => q.2.elim (fun z => z hk2) (fun z => absurd z (by decide))), if_pos hn0])
              clear hn0 hk2 HNH
              go_enter Tryz.func150, Tryz.ntmps150
              go_wp2_with fail
              refine HC.out.mono ?_
              rintro e w1 ⟨rfl, o1⟩
              have HK1 := Lib.hid (HKP.out _ o1)
              clear HC HKP o1
              go_wp2_with fail
              refine HK1.out.mono ?_
              rintro e w2 ⟨rfl, o2, -⟩
              clear HK1
              have H2 := Lib.hid (HKN.out HN.out _ o2)
              clear o2
              go_wp2_with fail
              refine H2.out.mono ?_
              rintro e w3 ⟨rfl, o3, -⟩
              have H3 := Lib.hid (HCT.out _ o3)
              have HO3 := Lib.hid o3
              clear H2 o3
              go_wp2_with fail
              refine H3.out.mono ?_
              rintro e w4 ⟨rfl, hB4⟩
              have o4 := HO3.out.read hB4
              clear H3 HO3 hB4
              have H5 := Lib.hid (HEM.out _ o4)
              clear o4 HEM
              go_wp2_with fail
              refine H5.out.mono ?_
              rintro e w5 ⟨rfl, o5⟩
              have H6 := Lib.hid (HINS.out HN.out _ o5)
              clear o5 H5 HINS
              go_wp2_with fail
              refine H6.out.mono ?_
              rintro e w6 ⟨rfl, o6⟩
              have HO := Lib.hid o6
              clear o6 H6
              go_wp2
              go_ret
              rw [HE.out]
              exact ⟨rfl, HO.out⟩
          · have g2 : (kn != 2) = true := by simp [hk2]
            replace HE : Hid (A.replaceAllCall p n = (4, A)) := Lib.hid (by rw [HE.out, if_neg (fun q => q.2 h2), if_pos ⟨hn0, .inl hk2⟩])
            clear hn0 hk2 HNH HINS HCT
            go_enter Tryz.func150, Tryz.ntmps150
            go_wp2_with fail
            refine HC.out.mono ?_
            rintro e w1 ⟨rfl, o1⟩
            have HK1 := Lib.hid (HKP.out _ o1)
            clear HC HKP o1
            go_wp2_with fail
            refine HK1.out.mono ?_
            rintro e w2 ⟨rfl, o2, -⟩
            clear HK1
            have H2 := Lib.hid (HKN.out HN.out _ o2)
            clear o2 HEM
            go_wp2_with fail
            refine H2.out.mono ?_
            rintro e w3 ⟨rfl, o3, -⟩
            have HO := Lib.hid o3
            clear o3 H2
            go_wp2
            go_ret
            rw [HE.out]
            exact ⟨rfl, HO.out⟩
      · have f2 : (kp != 2) = true := by simp [h2]
        replace HE : Hid (A.replaceAllCall p n = (9, A)) := Lib.hid (by rw [HE.out, if_pos ⟨h4, h2⟩])
        clear HNH HINS HCT HKN HEM
        go_enter Tryz.func150, Tryz.ntmps150
        go_wp2_with fail
        refine HC.out.mono ?_
        rintro e w1 ⟨rfl, o1⟩
        have HK1 := Lib.hid (HKP.out _ o1)
        clear HC HKP o1
        go_wp2_with fail
        refine HK1.out.mono ?_
        rintro e w2 ⟨rfl, o2, -⟩
        clear HK1
        have HO := Lib.hid o2
        clear o2
        go_wp2
        go_ret
        rw [HE.out]
        exact ⟨rfl, HO.out⟩
  · have HC := Lib.hid (Check2_own (opt := 1) (x := p) (y := n) o (b := b) (A := A) (by simp) HS (chk2o.trans (if_neg hh)))
    have HE : Hid (A.replaceAllCall p n = (3, A)) := Lib.hid (if_neg hh)
    clear o hI hh HS
    go_enter Tryz.func150, Tryz.ntmps150
    go_wp2_with fail
    refine HC.out.mono ?_
    rintro e w1 ⟨rfl, o1⟩
    have HO := Lib.hid o1
    clear o1 HC
    go_wp2
    go_ret
    rw [HE.out]
    exact ⟨rfl, HO.out⟩

set_option maxRecDepth 100000 in
set_option maxHeartbeats 2000000 in
theorem AdoptD_own {w0 w : World} {B b : Nat} {A : Ar} {L : List Asrt} {n d : Int} (o : Own w0 B (.arena b A :: L) w) (hI : A.Inv) (hs : A.ns.length + 1 ≤ 100000) :
    Calls Tryz.prog 151 #[.pointer (some ⟨b, 0, none⟩), .int .i64 n, .int .i64 d] w fun e w' => e = .returned (.int .i64 (A.adoptCall n d).1) ∧ Own w0 B (.arena b (A.adoptCall n d).2 :: L) w' := by
  have HS := hI.short (show A.ns.length ≤ 1000000 by omega)
  by_cases hh : A.has n ∧ A.has d
  · have HC := Lib.hid (Check2_own (opt := -1) (x := n) (y := d) o (b := b) (A := A) (by simp) HS (chk2n.trans (if_pos hh)))
    obtain ⟨nd, hnd⟩ : ∃ nd, A.get n = nd := ⟨_, rfl⟩
    obtain ⟨dd, hdd⟩ : ∃ dd, A.get d = dd := ⟨_, rfl⟩
    have HN := Lib.hid (fun W (q : Own w0 B (.arena b A :: L) W) => Node_own (b := b) (A := A) q (by simp) HS hh.1 hnd)
    have HKD := Lib.hid (fun g o5 W (q : Own w0 B (.box g o5 :: .arena b A :: L) W) => Kind_own (b := b) (A := A) q (by simp) HS hh.2 hdd)
    have HE : Hid (A.adoptCall n d = if dd.kind ≠ 1 ∨ nd.kind = 1 ∨ nd.host ≠ 0 then (9, A) else (0, A.adopt n d)) := Lib.hid (by
      unfold Ar.adoptCall; rw [if_pos hh, hnd, hdd])
    have HAD := Lib.hid (fun (hk : dd.kind = 1) W (q : Own w0 B (.arena b A :: L) W) => adopt_call (x := n) (d := d) hI hh.1 hh.2 (by rw [hdd]; exact hk) (Nat.le_trans (Ar.cap_le A d) hs) q)
    clear o hI hh HS hnd hdd
    generalize dd.kind = kd at *
    by_cases hd1 : kd = 1
    · have g1 : (kd != 1) = false := by simp [hd1]
      by_cases hn1 : nd.kind = 1
      · have g2 : (nd.kind == 1) = true := by simp [hn1]
        replace HE : Hid (A.adoptCall n d = (9, A)) := Lib.hid (by rw [HE.out, if_pos (.inr (.inl hn1))])
        clear hn1
        go_enter Tryz.func151, Tryz.ntmps151
        go_wp2_with fail
        refine HC.out.mono ?_
        rintro e w1 ⟨rfl, o1⟩
        have HN1 := Lib.hid (HN.out _ o1)
        clear HC HN o1
        go_wp2_with fail
        refine HN1.out.mono ?_
        rintro e w2 ⟨ka, kl, kc, aa, al, ac, rfl, o2, -⟩
        clear HN1
        have HT := Lib.hid (nodeBox_facts (w := w2) nd ka kc aa ac kl al)
        have o5 := o2.nodeBox nd (.slice ka kl kc) (.slice aa al ac)
        go_wp2_with ((with_reducible refine wpList_store_mid ?_ 46 (.tmp 8) (.tmp 22) ?_ w2.heap.size 0 (nd.cells (.slice ka kl kc) (.slice aa al ac)).toArray ?_ ?_ ?_ ?_ ?_ ?_); exact rfl; exact rfl; exact rfl; exact rfl; exact HT.out.1; exact sizeNode _ _ _; exact all_oneCell_toArray HT.out.2; clear HT; generalize hw5 : World.setCells _ _ _ _ = w5 at o5 ⊢; generalize hg5 : w2.heap.size = g5 at o5 ⊢; clear hw5 hg5; skip)
        have HK2 := Lib.hid (HKD.out _ _ _ o5)
        clear o5 HKD
        go_wp2_with fail
        refine HK2.out.mono ?_
        rintro e w6 ⟨rfl, o6, -⟩
        clear HK2
        have q0 : w6.cell? ⟨g5, 0, none⟩ = some (.int .i64 nd.kind) := (cell_of_row w6 _ _ _ _ _ (o6.box (g := g5) (o := .cells (nd.cells (.slice ka kl kc) (.slice aa al ac)).toArray 46 (0, 0)) (by simp))).trans rfl
        have q12 : w6.cell? ⟨g5, 12, none⟩ = some (.int .i64 nd.host) := (cell_of_row w6 _ _ _ _ _ (o6.box (g := g5) (o := .cells (nd.cells (.slice ka kl kc) (.slice aa al ac)).toArray 46 (0, 0)) (by simp))).trans rfl
        have HO := Lib.hid o6.drop
        clear o6 HAD
        go_wp2
        go_ret
        rw [HE.out]
        exact ⟨rfl, HO.out⟩
      · have g2 : (nd.kind == 1) = false := by simp [hn1]
        by_cases hh0 : nd.host = 0
        · have g3 : (nd.host != 0) = false := by simp [hh0]
          replace HE : Hid (A.adoptCall n d = (0, A.adopt n d)) := Lib.hid (by rw [HE.out, if_neg (fun q => q.elim (fun z => z hd1) (fun z => z.elim hn1 (fun z => z hh0)))])
          clear hh0 hn1
          go_enter Tryz.func151, Tryz.ntmps151
          go_wp2_with fail
          refine HC.out.mono ?_
          rintro e w1 ⟨rfl, o1⟩
          have HN1 := Lib.hid (HN.out _ o1)
          clear HC HN o1
          go_wp2_with fail
          refine HN1.out.mono ?_
          rintro e w2 ⟨ka, kl, kc, aa, al, ac, rfl, o2, -⟩
          clear HN1
          have HT := Lib.hid (nodeBox_facts (w := w2) nd ka kc aa ac kl al)
          have o5 := o2.nodeBox nd (.slice ka kl kc) (.slice aa al ac)
          go_wp2_with ((with_reducible refine wpList_store_mid ?_ 46 (.tmp 8) (.tmp 22) ?_ w2.heap.size 0 (nd.cells (.slice ka kl kc) (.slice aa al ac)).toArray ?_ ?_ ?_ ?_ ?_ ?_); exact rfl; exact rfl; exact rfl; exact rfl; exact HT.out.1; exact sizeNode _ _ _; exact all_oneCell_toArray HT.out.2; clear HT; generalize hw5 : World.setCells _ _ _ _ = w5 at o5 ⊢; generalize hg5 : w2.heap.size = g5 at o5 ⊢; clear hw5 hg5; skip)
          have HK2 := Lib.hid (HKD.out _ _ _ o5)
          clear o5 HKD
          go_wp2_with fail
          refine HK2.out.mono ?_
          rintro e w6 ⟨rfl, o6, -⟩
          clear HK2
          have q0 : w6.cell? ⟨g5, 0, none⟩ = some (.int .i64 nd.kind) := (cell_of_row w6 _ _ _ _ _ (o6.box (g := g5) (o := .cells (nd.cells (.slice ka kl kc) (.slice aa al ac)).toArray 46 (0, 0)) (by simp))).trans rfl
          have q12 : w6.cell? ⟨g5, 12, none⟩ = some (.int .i64 nd.host) := (cell_of_row w6 _ _ _ _ _ (o6.box (g := g5) (o := .cells (nd.cells (.slice ka kl kc) (.slice aa al ac)).toArray 46 (0, 0)) (by simp))).trans rfl
          have H7 := Lib.hid (HAD.out hd1 _ o6.drop)
          clear o6
          go_wp2_with fail
          refine H7.out.mono ?_
          rintro e w7 ⟨rfl, o7⟩
          have HO := Lib.hid o7
          clear o7 H7
          go_wp2
          go_ret
          rw [HE.out]
          exact ⟨rfl, HO.out⟩
        · have g3 : (nd.host != 0) = true := by simp [hh0]
          replace HE : Hid (A.adoptCall n d = (9, A)) := Lib.hid (by rw [HE.out, if_pos (.inr (.inr hh0))])
          clear hh0 hn1
          go_enter Tryz.func151, Tryz.ntmps151
          go_wp2_with fail
          refine HC.out.mono ?_
          rintro e w1 ⟨rfl, o1⟩
          have HN1 := Lib.hid (HN.out _ o1)
          clear HC HN o1
          go_wp2_with fail
          refine HN1.out.mono ?_
          rintro e w2 ⟨ka, kl, kc, aa, al, ac, rfl, o2, -⟩
          clear HN1
          have HT := Lib.hid (nodeBox_facts (w := w2) nd ka kc aa ac kl al)
          have o5 := o2.nodeBox nd (.slice ka kl kc) (.slice aa al ac)
          go_wp2_with ((with_reducible refine wpList_store_mid ?_ 46 (.tmp 8) (.tmp 22) ?_ w2.heap.size 0 (nd.cells (.slice ka kl kc) (.slice aa al ac)).toArray ?_ ?_ ?_ ?_ ?_ ?_); exact rfl; exact rfl; exact rfl; exact rfl; exact HT.out.1; exact sizeNode _ _ _; exact all_oneCell_toArray HT.out.2; clear HT; generalize hw5 : World.setCells _ _ _ _ = w5 at o5 ⊢; generalize hg5 : w2.heap.size = g5 at o5 ⊢; clear hw5 hg5; skip)
          have HK2 := Lib.hid (HKD.out _ _ _ o5)
          clear o5 HKD
          go_wp2_with fail
          refine HK2.out.mono ?_
          rintro e w6 ⟨rfl, o6, -⟩
          clear HK2
          have q0 : w6.cell? ⟨g5, 0, none⟩ = some (.int .i64 nd.kind) := (cell_of_row w6 _ _ _ _ _ (o6.box (g := g5) (o := .cells (nd.cells (.slice ka kl kc) (.slice aa al ac)).toArray 46 (0, 0)) (by simp))).trans rfl
          have q12 : w6.cell? ⟨g5, 12, none⟩ = some (.int .i64 nd.host) := (cell_of_row w6 _ _ _ _ _ (o6.box (g := g5) (o := .cells (nd.cells (.slice ka kl kc) (.slice aa al ac)).toArray 46 (0, 0)) (by simp))).trans rfl
          have HO := Lib.hid o6.drop
          clear o6 HAD
          go_wp2
          go_ret
          rw [HE.out]
          exact ⟨rfl, HO.out⟩
    · have g1 : (kd != 1) = true := by simp [hd1]
      replace HE : Hid (A.adoptCall n d = (9, A)) := Lib.hid (by rw [HE.out, if_pos (.inl hd1)])
      go_enter Tryz.func151, Tryz.ntmps151
      go_wp2_with fail
      refine HC.out.mono ?_
      rintro e w1 ⟨rfl, o1⟩
      have HN1 := Lib.hid (HN.out _ o1)
      clear HC HN o1
      go_wp2_with fail
      refine HN1.out.mono ?_
      rintro e w2 ⟨ka, kl, kc, aa, al, ac, rfl, o2, -⟩
      clear HN1
      have HT := Lib.hid (nodeBox_facts (w := w2) nd ka kc aa ac kl al)
      have o5 := o2.nodeBox nd (.slice ka kl kc) (.slice aa al ac)
      go_wp2_with ((with_reducible refine wpList_store_mid ?_ 46 (.tmp 8) (.tmp 22) ?_ w2.heap.size 0 (nd.cells (.slice ka kl kc) (.slice aa al ac)).toArray ?_ ?_ ?_ ?_ ?_ ?_); exact rfl; exact rfl; exact rfl; exact rfl; exact HT.out.1; exact sizeNode _ _ _; exact all_oneCell_toArray HT.out.2; clear HT; generalize hw5 : World.setCells _ _ _ _ = w5 at o5 ⊢; generalize hg5 : w2.heap.size = g5 at o5 ⊢; clear hw5 hg5; skip)
      have HK2 := Lib.hid (HKD.out _ _ _ o5)
      clear o5 HKD
      go_wp2_with fail
      refine HK2.out.mono ?_
      rintro e w6 ⟨rfl, o6, -⟩
      clear HK2
      have q0 : w6.cell? ⟨g5, 0, none⟩ = some (.int .i64 nd.kind) := (cell_of_row w6 _ _ _ _ _ (o6.box (g := g5) (o := .cells (nd.cells (.slice ka kl kc) (.slice aa al ac)).toArray 46 (0, 0)) (by simp))).trans rfl
      have q12 : w6.cell? ⟨g5, 12, none⟩ = some (.int .i64 nd.host) := (cell_of_row w6 _ _ _ _ _ (o6.box (g := g5) (o := .cells (nd.cells (.slice ka kl kc) (.slice aa al ac)).toArray 46 (0, 0)) (by simp))).trans rfl
      have HO := Lib.hid o6.drop
      clear o6 HAD
      go_wp2
      go_ret
      rw [HE.out]
      exact ⟨rfl, HO.out⟩
  · have HC := Lib.hid (Check2_own (opt := -1) (x := n) (y := d) o (b := b) (A := A) (by simp) HS (chk2n.trans (if_neg hh)))
    have HE : Hid (A.adoptCall n d = (3, A)) := Lib.hid (if_neg hh)
    clear o hI hh HS
    go_enter Tryz.func151, Tryz.ntmps151
    go_wp2_with fail
    refine HC.out.mono ?_
    rintro e w1 ⟨rfl, o1⟩
    have HO := Lib.hid o1
    clear o1 HC
    go_wp2
    go_ret
    rw [HE.out]
    exact ⟨rfl, HO.out⟩

end Go.Proofs.YtpicinjcmjaogaaGreat
