/-
  Parts: D7, D8.
-/
import Derived.Test.YtpicinjcmjaogaaGreatN15

/- Contracts of dom: element, doctype, crowded. (Printed by gend7.py.) -/
namespace Go.Proofs.YtpicinjcmjaogaaGreat
open Go.RowKit Go.Shelf
set_option linter.unusedVariables false

set_option maxRecDepth 100000 in
set_option maxHeartbeats 2000000 in
theorem Element_own {w0 w : World} {B b : Nat} {A : Ar} {l : List Asrt} {p n c : Int} {r : Bool} (o : Own w0 B l w) (hm : Asrt.arena b A ∈ l) (hI : A.Inv) (hs : A.ns.length ≤ 100000) (hp : A.has p) (hcc : c ≠ 0 → A.has c) :
    Calls Tryz.prog 243 #[.agg #[.pointer (some ⟨b, 0, none⟩), .int .i64 p, .int .i64 n, .int .i64 c, .bool r]] w fun e w' => e = .returned (.bool (decide (A.elBad p c r))) ∧ Own w0 B l w' := by
  have o1 := o.alloc (.cells #[.pointer (some ⟨b, 0, none⟩), .int .i64 p, .int .i64 n, .int .i64 c, .bool r] 141)
  have HC := Lib.hid (Split_own (b := b) (A := A) (r := r) (n := n) (c := c) o1 (by simp [hm]) hI hs hp)
  have HS := Lib.hid (hI.short (by omega))
  have HM := Lib.hid hm
  have HCC := Lib.hid hcc
  obtain ⟨nd, hnd⟩ : ∃ nd, A.get c = nd := ⟨_, rfl⟩
  have HE : Hid (decide (A.elBad p c r) = (decide (4 ∈ (A.splitOf p c).1) || decide (4 ∈ (A.splitOf p c).2) || decide (3 ∈ (A.splitOf p c).2) || (!r && decide (c ≠ 0) && (decide (nd.kind = 4) || decide (nd.kind = 3))))) := Lib.hid (by
    rw [← hnd, Bool.eq_iff_iff]
    cases r <;> simp [Ar.elBad, or_assoc])
  have HN := Lib.hid hnd
  clear o o1 hm hI hcc hnd hs
  generalize (A.splitOf p c).1 = l1 at *
  generalize (A.splitOf p c).2 = l2 at *
  generalize decide (A.elBad p c r) = eb at *
  go_enter Tryz.func243, Tryz.ntmps243
  go_wp2_with fail
  refine HC.out.mono ?_
  rintro e w1 ⟨v1, v2, rfl, o2⟩
  have C1 := Lib.hid (KindContains_any v1 l1 4 w1 (o2.kinds (by simp)))
  have C2 := Lib.hid (KindContains_any v2 l2 4 w1 (o2.kinds (by simp)))
  have C3 := Lib.hid (KindContains_any v2 l2 3 w1 (o2.kinds (by simp)))
  obtain ⟨m1, m2, m3, m4, m5⟩ := mv_cells (o2.box (g := w.heap.size) (o := mvO b p n c r) (by simp))
  have HO := Lib.hid o2
  clear o2 HC
  generalize w.heap.size = g at *
  generalize decide (4 ∈ l1) = z1 at *
  generalize decide (4 ∈ l2) = z2 at *
  generalize decide (3 ∈ l2) = z3 at *
  cases z1 with
  | true =>
    go_wp2_with fail
    refine C1.out.mono ?_
    rintro e w2 ⟨rfl, rfl⟩
    clear C1 C2 C3
    go_wp2
    go_ret
    exact ⟨by rw [HE.out]; simp, HO.out.drop.drop.drop⟩
  | false =>
    cases z2 with
    | true =>
      go_wp2_with fail
      refine C1.out.mono ?_
      rintro e w2 ⟨rfl, rfl⟩
      go_wp2_with fail
      refine C2.out.mono ?_
      rintro e w3 ⟨rfl, rfl⟩
      clear C1 C2 C3
      go_wp2
      go_ret
      exact ⟨by rw [HE.out]; simp, HO.out.drop.drop.drop⟩
    | false =>
      cases z3 with
      | true =>
        go_wp2_with fail
        refine C1.out.mono ?_
        rintro e w2 ⟨rfl, rfl⟩
        go_wp2_with fail
        refine C2.out.mono ?_
        rintro e w3 ⟨rfl, rfl⟩
        go_wp2_with fail
        refine C3.out.mono ?_
        rintro e w4 ⟨rfl, rfl⟩
        clear C1 C2 C3
        go_wp2
        go_ret
        exact ⟨by rw [HE.out]; simp, HO.out.drop.drop.drop⟩
      | false =>
        cases r with
        | true =>
          go_wp2_with fail
          refine C1.out.mono ?_
          rintro e w2 ⟨rfl, rfl⟩
          go_wp2_with fail
          refine C2.out.mono ?_
          rintro e w3 ⟨rfl, rfl⟩
          go_wp2_with fail
          refine C3.out.mono ?_
          rintro e w4 ⟨rfl, rfl⟩
          clear C1 C2 C3
          go_wp2
          go_ret
          exact ⟨by rw [HE.out]; simp, HO.out.drop.drop.drop⟩
        | false =>
          by_cases hc0 : c = 0
          · have e0 : (c != 0) = false := by simp [hc0]
            have HC0 := Lib.hid hc0
            clear hc0
            go_wp2_with fail
            refine C1.out.mono ?_
            rintro e w2 ⟨rfl, rfl⟩
            go_wp2_with fail
            refine C2.out.mono ?_
            rintro e w3 ⟨rfl, rfl⟩
            go_wp2_with fail
            refine C3.out.mono ?_
            rintro e w4 ⟨rfl, rfl⟩
            clear C1 C2 C3
            go_wp2
            go_ret
            exact ⟨by rw [HE.out]; simp [HC0.out], HO.out.drop.drop.drop⟩
          · have e0 : (c != 0) = true := by simp [hc0]
            have HH := Lib.hid (HCC.out hc0)
            have HC0 := Lib.hid hc0
            clear hc0
            have HK := Lib.hid (Kind_own (b := b) (A := A) HO.out (by simp [HM.out]) HS.out HH.out HN.out)
            by_cases h4 : nd.kind = 4
            · have e4 : (nd.kind == 4) = true := by simp [h4]
              have H4 := Lib.hid h4
              clear h4
              go_wp2_with fail
              refine C1.out.mono ?_
              rintro e w2 ⟨rfl, rfl⟩
              go_wp2_with fail
              refine C2.out.mono ?_
              rintro e w3 ⟨rfl, rfl⟩
              go_wp2_with fail
              refine C3.out.mono ?_
              rintro e w4 ⟨rfl, rfl⟩
              clear C1 C2 C3
              go_wp2_with fail
              refine HK.out.mono ?_
              rintro e w5 ⟨rfl, o5, -⟩
              have HO5 := Lib.hid o5
              clear o5 HK m1 m2 m3 m4 m5
              go_wp2
              go_ret
              exact ⟨by rw [HE.out]; simp [H4.out, HC0.out], HO5.out.drop.drop.drop⟩
            · have e4 : (nd.kind == 4) = false := by simp [h4]
              have H4 := Lib.hid h4
              clear h4
              go_wp2_with fail
              refine C1.out.mono ?_
              rintro e w2 ⟨rfl, rfl⟩
              go_wp2_with fail
              refine C2.out.mono ?_
              rintro e w3 ⟨rfl, rfl⟩
              go_wp2_with fail
              refine C3.out.mono ?_
              rintro e w4 ⟨rfl, rfl⟩
              clear C1 C2 C3
              go_wp2_with fail
              refine HK.out.mono ?_
              rintro e w5 ⟨rfl, o5, -⟩
              have HK5 := Lib.hid (Kind_own (b := b) (A := A) o5 (by simp [HM.out]) HS.out HH.out HN.out)
              clear HK m1 m2 m3 m4 m5
              obtain ⟨m1, m2, m3, m4, m5⟩ := mv_cells (o5.box (g := g) (o := mvO b p n c false) (by simp))
              clear o5
              by_cases h3 : nd.kind = 3
              · have e3 : (nd.kind == 3) = true := by simp [h3]
                have H3 := Lib.hid h3
                clear h3
                go_wp2_with fail
                refine HK5.out.mono ?_
                rintro e w6 ⟨rfl, o6, -⟩
                have HO6 := Lib.hid o6
                clear o6 HK5 m1 m2 m3 m4 m5
                go_wp2
                go_ret
                exact ⟨by rw [HE.out]; simp [H3.out, HC0.out], HO6.out.drop.drop.drop⟩
              · have e3 : (nd.kind == 3) = false := by simp [h3]
                have H3 := Lib.hid h3
                clear h3
                go_wp2_with fail
                refine HK5.out.mono ?_
                rintro e w6 ⟨rfl, o6, -⟩
                have HO6 := Lib.hid o6
                clear o6 HK5 m1 m2 m3 m4 m5
                go_wp2
                go_ret
                exact ⟨by rw [HE.out]; simp [H3.out, H4.out], HO6.out.drop.drop.drop⟩
set_option maxRecDepth 100000 in
set_option maxHeartbeats 2000000 in
theorem DoctypeB_own {w0 w : World} {B b : Nat} {A : Ar} {l : List Asrt} {p n c : Int} {r : Bool} (o : Own w0 B l w) (hm : Asrt.arena b A ∈ l) (hI : A.Inv) (hs : A.ns.length ≤ 100000) (hp : A.has p) (hcc : c ≠ 0 → A.has c) :
    Calls Tryz.prog 244 #[.agg #[.pointer (some ⟨b, 0, none⟩), .int .i64 p, .int .i64 n, .int .i64 c, .bool r]] w fun e w' => e = .returned (.bool (decide (A.dtBad p c r))) ∧ Own w0 B l w' := by
  have o1 := o.alloc (.cells #[.pointer (some ⟨b, 0, none⟩), .int .i64 p, .int .i64 n, .int .i64 c, .bool r] 141)
  have HC := Lib.hid (Split_own (b := b) (A := A) (r := r) (n := n) (c := c) o1 (by simp [hm]) hI hs hp)
  have HS := Lib.hid (hI.short (by omega))
  have HM := Lib.hid hm
  have HCC := Lib.hid hcc
  obtain ⟨nd, hnd⟩ : ∃ nd, A.get c = nd := ⟨_, rfl⟩
  have HE : Hid (decide (A.dtBad p c r) = (decide (3 ∈ (A.splitOf p c).1) || decide (3 ∈ (A.splitOf p c).2) || decide (4 ∈ (A.splitOf p c).1) || (!r && decide (c ≠ 0) && decide (nd.kind = 3)))) := Lib.hid (by
    rw [← hnd, Bool.eq_iff_iff]
    cases r <;> simp [Ar.dtBad, or_assoc])
  have HN := Lib.hid hnd
  clear o o1 hm hI hcc hnd hs
  generalize (A.splitOf p c).1 = l1 at *
  generalize (A.splitOf p c).2 = l2 at *
  generalize decide (A.dtBad p c r) = eb at *
  go_enter Tryz.func244, Tryz.ntmps244
  go_wp2_with fail
  refine HC.out.mono ?_
  rintro e w1 ⟨v1, v2, rfl, o2⟩
  have C1 := Lib.hid (KindContains_any v1 l1 3 w1 (o2.kinds (by simp)))
  have C2 := Lib.hid (KindContains_any v2 l2 3 w1 (o2.kinds (by simp)))
  have C3 := Lib.hid (KindContains_any v1 l1 4 w1 (o2.kinds (by simp)))
  obtain ⟨m1, m2, m3, m4, m5⟩ := mv_cells (o2.box (g := w.heap.size) (o := mvO b p n c r) (by simp))
  have HO := Lib.hid o2
  clear o2 HC
  generalize w.heap.size = g at *
  generalize decide (3 ∈ l1) = z1 at *
  generalize decide (3 ∈ l2) = z2 at *
  generalize decide (4 ∈ l1) = z3 at *
  cases z1 with
  | true =>
    go_wp2_with fail
    refine C1.out.mono ?_
    rintro e w2 ⟨rfl, rfl⟩
    clear C1 C2 C3
    go_wp2
    go_ret
    exact ⟨by rw [HE.out]; simp, HO.out.drop.drop.drop⟩
  | false =>
    cases z2 with
    | true =>
      go_wp2_with fail
      refine C1.out.mono ?_
      rintro e w2 ⟨rfl, rfl⟩
      go_wp2_with fail
      refine C2.out.mono ?_
      rintro e w3 ⟨rfl, rfl⟩
      clear C1 C2 C3
      go_wp2
      go_ret
      exact ⟨by rw [HE.out]; simp, HO.out.drop.drop.drop⟩
    | false =>
      cases z3 with
      | true =>
        go_wp2_with fail
        refine C1.out.mono ?_
        rintro e w2 ⟨rfl, rfl⟩
        go_wp2_with fail
        refine C2.out.mono ?_
        rintro e w3 ⟨rfl, rfl⟩
        go_wp2_with fail
        refine C3.out.mono ?_
        rintro e w4 ⟨rfl, rfl⟩
        clear C1 C2 C3
        go_wp2
        go_ret
        exact ⟨by rw [HE.out]; simp, HO.out.drop.drop.drop⟩
      | false =>
        cases r with
        | true =>
          go_wp2_with fail
          refine C1.out.mono ?_
          rintro e w2 ⟨rfl, rfl⟩
          go_wp2_with fail
          refine C2.out.mono ?_
          rintro e w3 ⟨rfl, rfl⟩
          go_wp2_with fail
          refine C3.out.mono ?_
          rintro e w4 ⟨rfl, rfl⟩
          clear C1 C2 C3
          go_wp2
          go_ret
          exact ⟨by rw [HE.out]; simp, HO.out.drop.drop.drop⟩
        | false =>
          by_cases hc0 : c = 0
          · have e0 : (c != 0) = false := by simp [hc0]
            have HC0 := Lib.hid hc0
            clear hc0
            go_wp2_with fail
            refine C1.out.mono ?_
            rintro e w2 ⟨rfl, rfl⟩
            go_wp2_with fail
            refine C2.out.mono ?_
            rintro e w3 ⟨rfl, rfl⟩
            go_wp2_with fail
            refine C3.out.mono ?_
            rintro e w4 ⟨rfl, rfl⟩
            clear C1 C2 C3
            go_wp2
            go_ret
            exact ⟨by rw [HE.out]; simp [HC0.out], HO.out.drop.drop.drop⟩
          · have e0 : (c != 0) = true := by simp [hc0]
            have HH := Lib.hid (HCC.out hc0)
            have HC0 := Lib.hid hc0
            clear hc0
            have HK := Lib.hid (Kind_own (b := b) (A := A) HO.out (by simp [HM.out]) HS.out HH.out HN.out)
            by_cases h3 : nd.kind = 3
            · have e3 : (nd.kind == 3) = true := by simp [h3]
              have H3 := Lib.hid h3
              clear h3
              go_wp2_with fail
              refine C1.out.mono ?_
              rintro e w2 ⟨rfl, rfl⟩
              go_wp2_with fail
              refine C2.out.mono ?_
              rintro e w3 ⟨rfl, rfl⟩
              go_wp2_with fail
              refine C3.out.mono ?_
              rintro e w4 ⟨rfl, rfl⟩
              clear C1 C2 C3
              go_wp2_with fail
              refine HK.out.mono ?_
              rintro e w5 ⟨rfl, o5, -⟩
              have HO5 := Lib.hid o5
              clear o5 HK m1 m2 m3 m4 m5
              go_wp2
              go_ret
              exact ⟨by rw [HE.out]; simp [H3.out, HC0.out], HO5.out.drop.drop.drop⟩
            · have e3 : (nd.kind == 3) = false := by simp [h3]
              have H3 := Lib.hid h3
              clear h3
              go_wp2_with fail
              refine C1.out.mono ?_
              rintro e w2 ⟨rfl, rfl⟩
              go_wp2_with fail
              refine C2.out.mono ?_
              rintro e w3 ⟨rfl, rfl⟩
              go_wp2_with fail
              refine C3.out.mono ?_
              rintro e w4 ⟨rfl, rfl⟩
              clear C1 C2 C3
              go_wp2_with fail
              refine HK.out.mono ?_
              rintro e w5 ⟨rfl, o5, -⟩
              have HO5 := Lib.hid o5
              clear o5 HK m1 m2 m3 m4 m5
              go_wp2
              go_ret
              exact ⟨by rw [HE.out]; simp [H3.out], HO5.out.drop.drop.drop⟩

end Go.Proofs.YtpicinjcmjaogaaGreat

/- Contracts of dom: crowded, and the rules of an insertion. -/
namespace Go.Proofs.YtpicinjcmjaogaaGreat
open Go.RowKit Go.Shelf
set_option linter.unusedVariables false

theorem kinds_take {A : Ar} {K : List Int} {k : Nat} {x : Int} (hx : K[k]? = some x) : (K.take (k + 1)).map (fun y => (A.get y).kind) = (K.take k).map (fun y => (A.get y).kind) ++ [(A.get x).kind] := by
  have hk := (List.getElem?_eq_some_iff.1 hx).1
  rw [List.take_succ_eq_append_getElem hk, (List.getElem?_eq_some_iff.1 hx).2]; simp

set_option maxRecDepth 100000 in
set_option maxHeartbeats 2000000 in
theorem Crowded_own {w0 w : World} {B b : Nat} {A : Ar} {l : List Asrt} {p n c : Int} {r : Bool} (o : Own w0 B l w) (hm : Asrt.arena b A ∈ l) (hI : A.Inv) (hs : A.ns.length ≤ 100000) (hp : A.has p) (hn : A.has n) (hcc : c ≠ 0 → A.has c) :
    Calls Tryz.prog 224 #[.agg #[.pointer (some ⟨b, 0, none⟩), .int .i64 p, .int .i64 n, .int .i64 c, .bool r]] w fun e w' => e = .returned (.bool (decide (A.crowded p n c r))) ∧ Own w0 B l w' := by
  have o1 := o.alloc (.cells #[.pointer (some ⟨b, 0, none⟩), .int .i64 p, .int .i64 n, .int .i64 c, .bool r] 141)
  obtain ⟨nd, hnd⟩ : ∃ nd, A.get n = nd := ⟨_, rfl⟩
  have HS := Lib.hid (hI.short (by omega))
  have HK := Lib.hid (Kind_own (b := b) (A := A) o1 (by simp [hm]) HS.out hn hnd)
  have HM := Lib.hid hm
  have HI := Lib.hid hI
  have HCC := Lib.hid hcc
  have HP := Lib.hid hp
  have hkl := Ar.kids_len hI.wf hn
  have hko : A.kidsOf n = (A.get n).kids := if_pos hn
  have HX := Lib.hid (fun x (hx : x ∈ (A.get n).kids) => (kid_up hI hn hx).1)
  have HCR : Hid (decide (A.crowded p n c r) = (decide (nd.kind = 2) && decide (A.fragBad p n c r) || (decide (nd.kind = 4) && decide (A.elBad p c r) || decide (nd.kind = 3) && decide (A.dtBad p c r)))) := Lib.hid (by
    rw [← hnd, Bool.eq_iff_iff]; simp only [Bool.or_eq_true, Bool.and_eq_true, decide_eq_true_eq]; exact Iff.rfl)
  have HFB : Hid (decide (A.fragBad p n c r) = (decide (5 ∈ (A.get n).kids.map (fun y => (A.get y).kind)) || (decide (1 < ((A.get n).kids.map (fun y => (A.get y).kind)).count 4) || decide (((A.get n).kids.map (fun y => (A.get y).kind)).count 4 = 1) && decide (A.elBad p c r)))) := Lib.hid (by
    rw [Bool.eq_iff_iff]; simp [Ar.fragBad, Ar.kindsOf])
  clear o o1 hm hI hcc hp hnd
  generalize decide (A.crowded p n c r) = eb at *
  generalize decide (A.fragBad p n c r) = fb at *
  go_enter Tryz.func224, Tryz.ntmps224
  go_wp2_with fail
  refine HK.out.mono ?_
  rintro e w1 ⟨rfl, o2, -⟩
  obtain ⟨m1, m2, m3, m4, m5⟩ := mv_cells (o2.box (g := w.heap.size) (o := mvO b p n c r) (by simp))
  generalize w.heap.size = g at *
  clear HK
  by_cases h2 : nd.kind = 2
  · have e2 : (nd.kind == 2) = true := by simp [h2]
    rw [h2] at HCR
    have HKD := Lib.hid (Kids_own (b := b) (A := A) (h := n) o2 (by simp [HM.out]) HS.out)
    rw [hko] at HKD
    have HCR2 : Hid (eb = fb) := Lib.hid (by rw [HCR.out]; simp)
    clear o2 hko h2 HCR hn
    generalize (A.get n).kids = K at *
    go_wp2_with fail
    refine HKD.out.mono ?_
    rintro e w2 ⟨ka, kc, rfl, o3⟩
    clear m1 m2 m3 m4 m5 HKD
    have HO := Lib.hid o3
    clear o3
    go_wp2
    go_loopw [3, 19] (fun u3 i wr => ∃ (k : Nat), k ≤ K.length ∧ i = .int .i64 k ∧ u3 = .int .i64 (((K.take k).map (fun y => (A.get y).kind)).count 4 : Nat) ∧ Hid (5 ∉ (K.take k).map (fun y => (A.get y).kind)) ∧ Hid (Own w0 B (.ints (.slice ka K.length kc) K :: .box g (mvO b p n c r) :: l) wr)) (fun _ i _ => K.length - (intOf i).toNat)
    case atStart => exact ⟨0, Nat.zero_le _, rfl, rfl, Lib.hid (by simp), HO⟩
    case round =>
      obtain ⟨k, hk, rfl, rfl, HN5, hT⟩ := hrel
      have hcl : ((K.take k).map (fun y => (A.get y).kind)).count 4 ≤ 100000 := Nat.le_trans List.count_le_length (by simp; omega)
      obtain ⟨m1, m2, m3, m4, m5⟩ := mv_cells (hT.out.box (g := g) (o := mvO b p n c r) (by simp))
      by_cases hlt : k < K.length
      · obtain ⟨x, hx⟩ : ∃ x, K[k]? = some x := ⟨_, List.getElem?_eq_getElem hlt⟩
        have hri : RInts wr (.slice ka K.length kc) K := hT.out.ints (by simp)
        obtain ⟨b1, o1, rfl, -, hcs⟩ := hri.cells (by omega)
        have c1 := hcs k x hx
        have hx2 := HX.out x (List.mem_of_getElem? hx)
        have HTK := Lib.hid (kinds_take (A := A) hx)
        obtain ⟨xd, hxd⟩ : ∃ xd, A.get x = xd := ⟨_, rfl⟩
        have HK := Lib.hid (Kind_own (b := b) (A := A) hT.out (by simp [HM.out]) HS.out hx2 hxd)
        rw [hxd] at HTK
        have HKM := Lib.hid (List.mem_of_getElem? hx)
        have HXD := Lib.hid hxd
        clear hxd hri hcs hx hT
        generalize hct : ((K.take k).map (fun y => (A.get y).kind)).count 4 = cn at *
        have HCT := Lib.hid hct
        clear hct
        by_cases h5 : xd.kind = 5
        · have e5 : (xd.kind == 5) = true := by simp [h5]
          have HF : Hid (eb = true) := Lib.hid (by
            rw [HCR2.out, HFB.out, decide_eq_true (List.mem_map.2 ⟨x, HKM.out, by rw [HXD.out, h5]⟩)]; rfl)
          clear h5
          go_wp2_with fail
          refine HK.out.mono ?_
          rintro e w3 ⟨rfl, o4, -⟩
          have HO4 := Lib.hid o4
          clear o4 HK m1 m2 m3 m4 m5 c1
          go_wp2
          go_ret
          exact ⟨by rw [HF.out]; try rfl, HO4.out.drop.drop⟩
        · have e5 : (xd.kind == 5) = false := by simp [h5]
          have HN5' : Hid (5 ∉ (K.take (k + 1)).map (fun y => (A.get y).kind)) := Lib.hid (by
            rw [HTK.out]
            intro q
            rcases List.mem_append.1 q with q | q
            · exact HN5.out q
            · simp at q; exact h5 q.symm)
          clear h5 HN5
          by_cases h4 : xd.kind = 4
          · have e4 : (xd.kind == 4) = true := by simp [h4]
            have HC' : Hid (((K.take (k + 1)).map (fun y => (A.get y).kind)).count 4 = cn + 1) := Lib.hid (by rw [HTK.out, List.count_append, HCT.out, h4]; simp)
            clear h4
            go_wp2_with fail
            refine HK.out.mono ?_
            rintro e w3 ⟨rfl, o4, -⟩
            have HO4 := Lib.hid o4
            clear o4 HK m1 m2 m3 m4 m5 c1
            go_wp2
            go_roundw
            case rel => exact ⟨k + 1, hlt, by go_num, by rw [HC'.out]; go_num, HN5', HO4⟩
            case measure => simp [intOf]; omega
          · have e4 : (xd.kind == 4) = false := by simp [h4]
            have HC' : Hid (((K.take (k + 1)).map (fun y => (A.get y).kind)).count 4 = cn) := Lib.hid (by
              rw [HTK.out, List.count_append, HCT.out]
              have : [xd.kind].count 4 = 0 := by simp [h4]
              rw [this]; rfl)
            clear h4
            go_wp2_with fail
            refine HK.out.mono ?_
            rintro e w3 ⟨rfl, o4, -⟩
            have HO4 := Lib.hid o4
            clear o4 HK m1 m2 m3 m4 m5 c1
            go_wp2
            go_roundw
            case rel => exact ⟨k + 1, hlt, by go_num, by rw [HC'.out], HN5', HO4⟩
            case measure => simp [intOf]; omega
      · have hkl2 : K.take k = K := List.take_of_length_le (by omega)
        rw [hkl2] at HN5 hcl ⊢
        have HFB2 : Hid (eb = (decide (1 < (K.map (fun y => (A.get y).kind)).count 4) || decide ((K.map (fun y => (A.get y).kind)).count 4 = 1) && decide (A.elBad p c r))) := Lib.hid (by
          rw [HCR2.out, HFB.out, decide_eq_false HN5.out]; rfl)
        clear HN5 hkl2 HFB HCR2
        generalize (K.map (fun y => (A.get y).kind)).count 4 = cn at *
        by_cases h1 : 1 < cn
        · have HF : Hid (eb = true) := Lib.hid (by rw [HFB2.out, decide_eq_true h1]; rfl)
          clear HFB2
          go_wp2
          go_ret
          exact ⟨by rw [HF.out]; try rfl, hT.out.drop.drop⟩
        · by_cases h1' : cn = 1
          · subst h1'
            have HF : Hid (eb = decide (A.elBad p c r)) := Lib.hid (by rw [HFB2.out]; simp)
            have HE := Lib.hid (Element_own (b := b) (A := A) (r := r) (n := n) (c := c) hT.out (by simp [HM.out]) HI.out hs HP.out HCC.out)
            clear HFB2 hT h1
            go_wp2_with fail
            refine HE.out.mono ?_
            rintro e w3 ⟨rfl, o4⟩
            have HO4 := Lib.hid o4
            clear o4 HE m1 m2 m3 m4 m5
            go_wp2
            go_ret
            exact ⟨by rw [HF.out]; try rfl, HO4.out.drop.drop⟩
          · have HF : Hid (eb = false) := Lib.hid (by rw [HFB2.out, decide_eq_false h1, decide_eq_false h1']; rfl)
            have hc0 : cn = 0 := by omega
            subst hc0
            clear HFB2 h1 h1'
            go_wp2
            go_ret
            exact ⟨by rw [HF.out]; try rfl, hT.out.drop.drop⟩
  · have e2 : (nd.kind == 2) = false := by simp [h2]
    by_cases h4 : nd.kind = 4
    · have e4 : (nd.kind == 4) = true := by simp [h4]
      have HF : Hid (eb = decide (A.elBad p c r)) := Lib.hid (by rw [HCR.out, h4]; simp)
      have HE := Lib.hid (Element_own (b := b) (A := A) (r := r) (n := n) (c := c) o2 (by simp [HM.out]) HI.out hs HP.out HCC.out)
      clear HCR HFB o2 h2 h4
      go_wp2_with fail
      refine HE.out.mono ?_
      rintro e w3 ⟨rfl, o4⟩
      have HO4 := Lib.hid o4
      clear o4 HE m1 m2 m3 m4 m5
      go_wp2
      go_ret
      exact ⟨by rw [HF.out]; try rfl, HO4.out.drop⟩
    · have e4 : (nd.kind == 4) = false := by simp [h4]
      by_cases h3 : nd.kind = 3
      · have e3 : (nd.kind == 3) = true := by simp [h3]
        have HF : Hid (eb = decide (A.dtBad p c r)) := Lib.hid (by rw [HCR.out, h3]; simp)
        have HE := Lib.hid (DoctypeB_own (b := b) (A := A) (r := r) (n := n) (c := c) o2 (by simp [HM.out]) HI.out hs HP.out HCC.out)
        clear HCR HFB o2 h2 h4 h3
        go_wp2_with fail
        refine HE.out.mono ?_
        rintro e w3 ⟨rfl, o4⟩
        have HO4 := Lib.hid o4
        clear o4 HE m1 m2 m3 m4 m5
        go_wp2
        go_ret
        exact ⟨by rw [HF.out]; try rfl, HO4.out.drop⟩
      · have e3 : (nd.kind == 3) = false := by simp [h3]
        have HF : Hid (eb = false) := Lib.hid (by rw [HCR.out, decide_eq_false h2, decide_eq_false h4, decide_eq_false h3]; rfl)
        have HO := Lib.hid o2
        clear HCR HFB o2 h2 h4 h3
        go_wp2
        go_ret
        exact ⟨by rw [HF.out]; try rfl, HO.out.drop⟩

end Go.Proofs.YtpicinjcmjaogaaGreat
