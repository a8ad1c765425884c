/-
  Parts: RFB, PL3, D31.
-/
import Derived.Maps.AppendAt
import Derived.Deep.CutRange
import Derived.Test.YtpicinjcmjaogaaGreatN42
import Derived.Test.YtpicinjcmjaogaaGreatN43

/- Contracts of the document's layer 5: Attribute, SetAttribute, CreateElement. -/
namespace Go.Proofs.YtpicinjcmjaogaaGreat
open Go.RowKit Go.Shelf
set_option linter.unusedVariables false

theorem below_grown {base : Nat} {w w' : World} {row : Option Nat} (hg : w.grownBy w' row) (hr : ∀ k, row = some k → base ≤ k) (hb : base ≤ w.heap.size) : Below base w w' := by
  have u : Upd (fun k => base ≤ k) w w' := Upd.grown hg hr
  exact ⟨u.os, u.tape, u.output, u.size, fun k hk => u.block k (by omega) (by omega)⟩

theorem lt_of_cell' {w : World} {b o : Nat} {v : Value} (h : w.cell? ⟨b, o, none⟩ = some v) : b < w.heap.size := by
  refine Classical.not_not.1 (fun q => ?_)
  unfold World.cell? at h
  rw [Array.getElem?_eq_none (show w.heap.size ≤ b by omega)] at h
  simp at h
set_option maxRecDepth 100000 in
set_option maxHeartbeats 2000000 in
theorem RCreateElement_own {w0 w : World} {B b : Nat} {A : Ar} {L : List Asrt} {d : Int} {name : ByteArray} (o : Own w0 B (.refar b A :: L) w) (hsz : A.ns.length + 3 ≤ 1000000) (hs : name.size ≤ 1000000) :
    Calls Tryz.prog 25 #[.pointer (some ⟨b, 0, none⟩), .int .i64 d, .string name] w fun e w' => e = .returned (pairV (A.createElement d name).1) ∧ Own w0 B (.refar b (A.createElement d name).2 :: L) w' := by
  obtain ⟨ρ, hA⟩ := o.refar (b := b) (A := A) (by simp)
  have HOD := Lib.hid (ROfDoc_any A ρ b d w hA)
  have HV := Lib.hid (fun W => TValidElement_any name W hs)
  have HL := Lib.hid (fun W => TLower_any name W hs)
  have HE := Lib.hid (fun (W : World) (q : Own w0 B (.refar b A :: L) W) => q.callR (fun ρ hA => RElement_any A ρ b d 1 (lowerS name) (.slice none 0 0) [] W hA (nilAttrs W) hsz (by simp)))
  have HF : Hid (A.createElement d name = if A.ofDoc d ≠ 0 then ((0, A.ofDoc d), A) else if validEl name.toList = false then ((0, 8), A) else A.element d 1 (lowerS name) []) := Lib.hid rfl
  have HO := Lib.hid o
  clear o hA hsz
  generalize A.createElement d name = G at *
  generalize A.element d 1 (lowerS name) [] = H at *
  generalize A.ofDoc d = od at *
  unfold pairV at *
  by_cases h0 : od = 0
  · subst h0
    have HF := Lib.hid (HF.out.trans (if_neg (fun q => q rfl)))
    cases hv : validEl name.toList with
    | true =>
      rw [hv] at HV HF
      have HF := Lib.hid (HF.out.trans (if_neg (by decide)))
      clear hv
      go_enter Tryz.func25, Tryz.ntmps25
      go_wp2_with fail
      refine HOD.out.mono ?_
      rintro e w1 ⟨rfl, rfl⟩
      go_wp2_with fail
      refine (HV.out _).mono ?_
      rintro e w1 ⟨rfl, rfl⟩
      go_wp2_with fail
      refine (HL.out _).mono ?_
      rintro e w1 ⟨rfl, hB1⟩
      have HC := Lib.hid (HE.out _ (HO.out.read hB1))
      clear hB1 HE HO
      go_wp2_with fail
      refine HC.out.mono ?_
      rintro e w2 ⟨rfl, o2⟩
      have HO2 := Lib.hid o2
      clear o2 HC
      go_wp2
      go_ret2
      rw [HF.out]
      exact ⟨rfl, HO2.out⟩
    | false =>
      rw [hv] at HV HF
      have HF := Lib.hid (HF.out.trans (if_pos rfl))
      clear hv HE
      go_enter Tryz.func25, Tryz.ntmps25
      go_wp2_with fail
      refine HOD.out.mono ?_
      rintro e w1 ⟨rfl, rfl⟩
      go_wp2_with fail
      refine (HV.out _).mono ?_
      rintro e w1 ⟨rfl, rfl⟩
      go_wp2
      go_ret2
      rw [HF.out]
      exact ⟨rfl, HO.out⟩
  · have HF := Lib.hid (HF.out.trans (if_pos h0))
    have e1 : (od != 0) = true := by simp [h0]
    clear h0 HE HV HL
    go_enter Tryz.func25, Tryz.ntmps25
    go_wp2_with fail
    refine HOD.out.mono ?_
    rintro e w1 ⟨rfl, rfl⟩
    go_wp2
    go_ret2
    rw [HF.out]
    exact ⟨rfl, HO.out⟩

set_option maxRecDepth 100000 in
set_option maxHeartbeats 4000000 in
theorem RSetAttribute_own {w0 w : World} {B b : Nat} {A : Ar} {L : List Asrt} {el s : Int} {name val : ByteArray} (o : Own w0 B (.refar b A :: L) w) (hI : A.Inv) (hsz : A.ns.length ≤ 1000000) (hs : name.size ≤ 1000000) :
    Calls Tryz.prog 30 #[.pointer (some ⟨b, 0, none⟩), .int .i64 el, .int .i64 s, .string name, .string val] w fun e w' => e = .returned (.int .i64 (A.setAttr el s name val).1) ∧ Own w0 B (.refar b (A.setAttr el s name val).2 :: L) w' := by
  have hS := hI.short hsz
  obtain ⟨i0, hi, hz0, hz1, hz2⟩ := info_parts infoAttr
  have HII := Lib.hid hi
  clear hi
  have HE := Lib.hid (RElem_own (el := el) (s := s) o (b := b) (A := A) (by simp))
  have HV := Lib.hid (fun W => TValidAttribute_any name W hs)
  by_cases he : A.attrErr el s = 0
  case neg =>
    have HF : Hid (A.setAttr el s name val = (A.attrErr el s, A)) := Lib.hid (by unfold Ar.setAttr; rw [if_pos he])
    have e1 : (A.attrErr el s != 0) = true := by simp [he]
    have HO := Lib.hid o
    clear o hI he hS
    generalize A.setAttr el s name val = G at *
    generalize A.attrErr el s = er at *
    go_enter Tryz.func30, Tryz.ntmps30
    go_wp2_with fail
    refine HE.out.mono ?_
    rintro e w1 ⟨rfl, rfl⟩
    go_wp2
    go_ret
    rw [HF.out]
    exact ⟨rfl, HO.out⟩
  case pos =>
  obtain ⟨hh, hk4, hsp⟩ := attrErr_zero he
  have hln := (hS.get hh).2
  rw [he] at HE
  cases hv : validAt name.toList with
  | false =>
    have HF : Hid (A.setAttr el s name val = (8, A)) := Lib.hid (by unfold Ar.setAttr; rw [if_neg (fun q => q he), if_pos hv])
    rw [hv] at HV
    have HO := Lib.hid o
    clear o hI he hS hv
    generalize A.setAttr el s name val = G at *
    go_enter Tryz.func30, Tryz.ntmps30
    go_wp2_with fail
    refine HE.out.mono ?_
    rintro e w1 ⟨rfl, rfl⟩
    go_wp2_with fail
    refine (HV.out _).mono ?_
    rintro e w1 ⟨rfl, rfl⟩
    go_wp2
    go_ret
    rw [HF.out]
    exact ⟨rfl, HO.out⟩
  | true =>
  have HF := Lib.hid (setAttr_eq hI (name := name) (val := val) he hv)
  have HFI := Lib.hid (RFind_own (el := el) (s := s) (name := name) o (b := b) (A := A) (by simp) hS hh hs)
  have HAW : Hid (A.attrsWith el s name val = if A.attrAt el s name < 0 then (A.get el).attrs ++ [(s, A.attrName el s name, val)] else (A.get el).attrs.modify (A.attrAt el s name).toNat (fun x => (x.1, x.2.1, val))) := Lib.hid rfl
  have HAT := Lib.hid (findI_or (attrIs s (A.attrName el s name)) (A.get el).attrs)
  have hat : A.attrAt el s name = findI (attrIs s (A.attrName el s name)) (A.get el).attrs := rfl
  rw [← hat] at HAT
  clear hat
  rw [hv] at HV
  have HO := Lib.hid o
  have HH := Lib.hid hh
  clear o hI he hS hv hh hk4 hsp
  generalize hR : A.setAttr el s name val = G at *
  generalize A.attrName el s name = nm at *
  generalize hat : A.attrAt el s name = at' at *
  clear hR hat
  go_enter Tryz.func30, Tryz.ntmps30
  go_wp2_with fail
  refine HE.out.mono ?_
  rintro e w1 ⟨rfl, rfl⟩
  go_wp2_with fail
  refine (HV.out _).mono ?_
  rintro e w1 ⟨rfl, rfl⟩
  go_wp2_with fail
  refine HFI.out.mono ?_
  rintro e w1 ⟨rfl, hB1⟩
  have o1 := HO.out.read hB1
  clear hB1 HFI HE HV HO
  obtain ⟨nb, c, h0, h1, h2, h3, h4, h5, -, h7⟩ := o1.rlook (b := b) (A := A) (by simp)
  obtain ⟨p1, p2, ka, kc, aa, ac, F, -, -, hrow⟩ := h7 el HH.out
  have c6 := F.c6
  have HB6 := Lib.hid (fun (W : World) (hB : Below w1.heap.size w1 W) => And.intro (Below.old hB h0) (And.intro (Below.old hB c6) ((Below.frozen hB (p := ⟨nb, el.toNat * 13 + 6, none⟩) h4).trans (h5 _))))
  have HST : Hid (∀ (W : World) (v : Value) (l' : List AttrD), Below w1.heap.size w1 W → W.ownsRow w1.heap.size 132 3 v l'.length (l'.flatMap attrCells) → Own w0 B (.refar b (A.mod el (fun n => { n with attrs := l' })) :: L) (W.setCell ⟨nb, el.toNat * 13 + 6, none⟩ v)) := Lib.hid (fun W v l' hB ho => o1.rturn (fun ρ hA => hA.setAttrsRow HH.out h0 hB ho))
  have HROW := Lib.hid hrow
  have hx0 : (0 : Int) ≤ el := by omega
  have hx1 : el < ((A.ns.length + 1 : Nat) : Int) := by omega
  have hx2 : el < (A.ns.length : Int) + 1 := by omega
  have hnl : nb < w1.heap.size := h4
  have hbl : b < w1.heap.size := lt_of_cell' h0
  clear F h1 h3 h4 h5 h7 hrow o1 HH
  generalize hal : (A.get el).attrs = al at *
  clear hal
  go_wp2_with (at_builtin; refine wpList_append_copy _ rfl _ _ 44 rfl w1.heap.size 132 i0 _ 3 40 Tryz.underlying44 HII.out hz0 hz1 hz2 rfl (by decide) _ _ _ rfl rfl HROW.out (fun u hu => by obtain ⟨a, -, ha⟩ := List.mem_flatMap.1 hu; simp [attrCells] at ha; rcases ha with rfl | rfl | rfl <;> rfl) hln (by decide) (Nat.le_refl _) ?_)
  intro v2 w2 hown hgrow
  have hB2 : Below w1.heap.size w1 w2 := below_grown hgrow (fun k hk => by simp at hk) (Nat.le_refl _)
  obtain ⟨va2, vc2, rfl⟩ := ownsForm hown
  clear hgrow
  rcases HAT.out with hi | ⟨k, x, hi, hx, -⟩
  · subst hi
    have HAW := Lib.hid (HAW.out.trans (if_pos (by decide)))
    have HR := Lib.hid hown
    have HBB := Lib.hid hB2
    have hbw : w1.heap.size ≤ w2.heap.size := hB2.size
    clear hown hB2 HAT
    go_wp2_with (at_builtin; refine wpList_append_own_at _ rfl _ _ 44 rfl w1.heap.size 132 i0 _ 3 40 Tryz.underlying44 HII.out hz0 hz1 hz2 rfl (by decide) _ _ _ rfl (HR.out.alloc _) ⟨w2.heap.size, 0, none⟩ 1 1 (attrCells (s, nm, val)) rfl rfl ?c1 ?c2 ?c3 ?c4 ?c5 ?_)
    case c1 => intro j u hj; rw [Addr.add_mid, Nat.zero_add]; exact cell_new' rfl (by simpa [attrCells] using hj)
    case c2 => intro u hu; simp [attrCells] at hu; rcases hu with rfl | rfl | rfl <;> rfl
    case c3 => unfold maxLen; omega
    case c4 => omega
    case c5 => first | (simp; done) | (simp; omega)
    intro v4 w4 hown4 hgrow4 _ hat4
    have hB4 : Below w1.heap.size w1 w4 := (HBB.out.trans ((below_alloc w2 _).mono hbw)).trans (below_grown hgrow4 (fun k hk => (owns_block HR.out k hk).1) (by simp; omega))
    have e1 : (al ++ [(s, nm, val)]).length = al.length + 1 := by simp
    have e2 : (al ++ [(s, nm, val)]).flatMap attrCells = al.flatMap attrCells ++ attrCells (s, nm, val) := by simp
    rw [← e1, ← e2, ← HAW.out] at hown4
    have HW5 := Lib.hid (HST.out _ _ _ hB4 hown4)
    obtain ⟨va4, vc4, hv4⟩ := ownsForm hown4
    subst hv4
    obtain ⟨g0, g6, gf⟩ := HB6.out _ hB4
    clear hB4 hown4 hgrow4 hat4 HST HB6 HR HBB e1 e2 h0 c6
    go_wp2
    go_ret
    rw [HF.out]
    exact ⟨rfl, HW5.out⟩
  · subst hi
    have hk := (List.getElem?_eq_some_iff.1 hx).1
    have HAW := Lib.hid (HAW.out.trans (if_neg (by omega)))
    rw [Int.toNat_natCast] at HAW
    obtain ⟨g, cap, hsl, hgl, -⟩ := World.ownsRow.form hown (by omega)
    have hea : va2 = some ⟨g, 0, none⟩ ∧ vc2 = cap := by injection hsl with h1 h2 h3; exact ⟨h1, h3⟩
    obtain ⟨rfl, rfl⟩ := hea
    obtain ⟨cur, hcur, hcs⟩ := owns_heap hown
    have hcell : ∃ u, w2.cell? ⟨g, k * 3 + 2, none⟩ = some u := by
      rw [cell_of_row w2 _ _ _ _ _ hcur]
      exact ⟨_, Array.getElem?_eq_getElem (by omega)⟩
    obtain ⟨u, d2⟩ := hcell
    have f2 : w2.frozen? ⟨g, k * 3 + 2, none⟩ = false := frozen_of_row w2 _ _ _ _ hcur
    have hset := owns_set hown (k * 3 + 2) (.string val)
    rw [attrs_modify] at hset
    have hgb := (owns_block hown g rfl).1
    have hB3 : Below w1.heap.size w1 (w2.setCell ⟨g, k * 3 + 2, none⟩ (.string val)) := hB2.setCell (by exact hgb) _
    have e1 : al.length = (al.modify k (fun x => (x.1, x.2.1, val))).length := by simp
    have hset2 := hset
    rw [e1, ← HAW.out] at hset2
    have HW5 := Lib.hid (HST.out _ _ _ hB3 hset2)
    rw [HAW.out, ← e1] at HW5
    have hk1 : (k : Int) < (al.length : Int) := by omega
    have hk2 : (al.length : Int) ≤ 1000000 := by omega
    have G0 := Lib.hid (HB6.out _ hB3)
    clear hB2 hB3 hset hset2 HST HB6 hcur hcs hx HAT hgl hsl hown e1 h0 c6 hgb hnl hbl
    go_upto_region 11 with fail
    obtain ⟨g0, g6, gf⟩ := G0.out
    go_wp2
    go_ret
    rw [HF.out, HAW.out]
    exact ⟨rfl, HW5.out⟩

end Go.Proofs.YtpicinjcmjaogaaGreat

/- The law ArenaPlays. -/
namespace Go.Proofs.YtpicinjcmjaogaaGreat
open Go.RowKit
set_option linter.unusedVariables false

theorem RNodes_own {w0 w : World} {B b : Nat} {A : Ar} {l : List Asrt} (o : Own w0 B l w) (hm : Asrt.refar b A ∈ l) (hS : A.Short) :
    Calls Tryz.prog 97 #[.pointer (some ⟨b, 0, none⟩)] w fun e w' => ∃ a c, e = .returned (.slice a A.ns.length c) ∧ Own w0 B (.nlist (.slice a A.ns.length c) A.ns :: l) w' := by
  obtain ⟨ρ, hA⟩ := o.refar hm
  refine (RNodes_any A ρ b w hA hS).mono ?_
  rintro e w' ⟨hB, a, c, rfl, hN⟩
  exact ⟨a, c, rfl, o.keepNew hB (fun w'' hk => ⟨_, hN.keep hk⟩)⟩
theorem RLen_own {w0 w : World} {B b : Nat} {A : Ar} {l : List Asrt} (o : Own w0 B l w) (hm : Asrt.refar b A ∈ l) :
    Calls Tryz.prog 96 #[.pointer (some ⟨b, 0, none⟩)] w fun e w' => e = .returned (.int .i64 A.ns.length) ∧ w = w' := by
  obtain ⟨ρ, hA⟩ := o.refar hm
  obtain ⟨nb, c, h0, hm, -⟩ := hA.look
  exact RLen_any A b _ c w h0 hm

set_option maxRecDepth 100000 in
set_option maxHeartbeats 1000000 in
theorem Matches_own {w0 w : World} {B b c : Nat} {A : Ar} {l : List Asrt} (o : Own w0 B l w) (h1 : Asrt.arena b A ∈ l) (h2 : Asrt.refar c A ∈ l) (hS : A.Short) :
    Calls Tryz.prog 26 #[.pointer (some ⟨b, 0, none⟩), .pointer (some ⟨c, 0, none⟩)] w fun e w' => e = .returned (.bool true) ∧ Own w0 B l w' := by
  go_enter Tryz.func26, Tryz.ntmps26
  go_wp2_with fail
  refine (Len_own o (b := b) (A := A) h1).mono ?_
  rintro e w1 ⟨rfl, rfl⟩
  go_wp2_with fail
  refine (RLen_own o (b := c) (A := A) h2).mono ?_
  rintro e w1 ⟨rfl, rfl⟩
  have hnn : ((A.ns.length : Int) == A.ns.length) = true := by simp
  go_wp2_with fail
  refine (Nodes_own o (b := b) (A := A) h1 hS).mono ?_
  rintro e w2 ⟨a2, c2, rfl, o2⟩
  go_wp2_with fail
  refine (RNodes_own o2 (b := c) (A := A) (by simp [h2]) hS).mono ?_
  rintro e w3 ⟨a3, c3, rfl, o3⟩
  go_wp2_with fail
  refine (SameNodes_own o3 (x := A.ns) (y := A.ns) (by simp) (by simp)).mono ?_
  rintro e w4 ⟨rfl, o4⟩
  have hd : decide (A.ns = A.ns) = true := by simp
  rw [hd]
  have HO := Lib.hid o4.drop.drop
  clear o o2 o3 o4 hd
  go_wp2
  go_ret
  exact ⟨rfl, HO.out⟩

end Go.Proofs.YtpicinjcmjaogaaGreat

/- The law DomNames: the walk. -/
namespace Go.Proofs.YtpicinjcmjaogaaGreat
open Go.RowKit Go.Shelf Classical
set_option linter.unusedVariables false

set_option maxRecDepth 100000 in
set_option maxHeartbeats 4000000 in
theorem DomNames_any (name : ByteArray) (w : World) (hs : name.size ≤ maxLen) :
    Calls Tryz.prog 3 #[.string name] w fun e w' => e = .returned (.bool true) ∧ Below w.heap.size w w' := by
  unfold maxLen at hs
  by_cases h2 : 200 < name.size
  · have h2' : (200 : Int) < (name.size : Int) := by omega
    clear h2 hs
    go_enter Tryz.func3, Tryz.ntmps3
    go_wp2_with fail
    refine (known5_any w).mono ?_
    rintro e w2 ⟨rfl, hB2⟩
    have HB := Lib.hid hB2
    clear hB2
    go_wp2
    go_ret
    exact ⟨rfl, HB.out⟩
  have hsz : name.size ≤ 1000000 := by omega
  have h2' : ¬ (200 : Int) < (name.size : Int) := by omega
  have i0 : Ar.new.Inv ∧ Ar.new.Thin 20 := ⟨inv_new, thin_new _⟩
  have e1 : Ar.new.document false = dk1 := rfl
  have i1 := dk_inv1
  have l1 : dk1.ns.length ≤ 20 := dk_len1
  have i2 := step_ok (t := 21) i1 ⟨28, 1, 0, 0, false, 0, name, ByteArray.empty, ByteArray.empty, []⟩ (by simp) (by omega) (by omega)
  have l2 := (step5_facts i1.1 (i1.2.mono (by omega)) ⟨28, 1, 0, 0, false, 0, name, ByteArray.empty, ByteArray.empty, []⟩ (by simp)).2
  have s2 : dk1.step5 ⟨28, 1, 0, 0, false, 0, name, ByteArray.empty, ByteArray.empty, []⟩ = dk1.createElement 1 name := rfl
  rw [s2] at i2 l2
  have l2' : (dk1.createElement 1 name).2.ns.length ≤ 23 := by
    rw [if_neg (by show ¬ ((28 : Int) = 31 ∨ (28 : Int) = 32); decide)] at l2; omega
  clear l2 s2
  have HC2 := Lib.hid (fun (W : World) (b : Nat) (ll : List Asrt) (o : Own w w.heap.size (.arena b dk1 :: ll) W) => CreateElement_own (d := 1) (name := name) o i1.1 (by omega) hsz)
  have HR2 := Lib.hid (fun (W : World) (b : Nat) (ll : List Asrt) (o : Own w w.heap.size (.refar b dk1 :: ll) W) => RCreateElement_own (d := 1) (name := name) o (by omega) hsz)
  generalize dk1.createElement 1 name = R2 at *
  obtain ⟨⟨v2, c2⟩, A2⟩ := R2
  dsimp only at *
  unfold pairV at HC2 HR2
  have HSH2 := Lib.hid (i2.1.short (show A2.ns.length ≤ 1000000 by omega))
  have i3 := step_ok (t := 22) i2 ⟨3, 1, 0, 0, false, 2, ⟨#[103]⟩, ByteArray.empty, ByteArray.empty, []⟩ (by simp) (by omega) (by omega)
  have l3 := (step5_facts i2.1 (i2.2.mono (by omega)) ⟨3, 1, 0, 0, false, 2, ⟨#[103]⟩, ByteArray.empty, ByteArray.empty, []⟩ (by simp)).2
  have s3 : A2.step5 ⟨3, 1, 0, 0, false, 2, ⟨#[103]⟩, ByteArray.empty, ByteArray.empty, []⟩ = A2.element 1 2 ⟨#[103]⟩ [] := rfl
  rw [s3] at i3 l3
  have l3' : (A2.element 1 2 ⟨#[103]⟩ []).2.ns.length ≤ 26 := by
    rw [if_neg (by decide)] at l3; omega
  clear l3 s3
  have HC3 := Lib.hid (fun (W : World) (b : Nat) (ll : List Asrt) (o : Own w w.heap.size (.arena b A2 :: ll) W) => o.call (fun ρ hA => Element_any A2 ρ b 1 2 ⟨#[103]⟩ (.slice none 0 0) [] W hA (nilAttrs W) (by omega) (by simp)))
  have HR3 := Lib.hid (fun (W : World) (b : Nat) (ll : List Asrt) (o : Own w w.heap.size (.refar b A2 :: ll) W) => o.callR (fun ρ hA => RElement_any A2 ρ b 1 2 ⟨#[103]⟩ (.slice none 0 0) [] W hA (nilAttrs W) (by omega) (by simp)))
  generalize A2.element 1 2 ⟨#[103]⟩ [] = R3 at *
  obtain ⟨⟨v3, c3⟩, A3⟩ := R3
  dsimp only at *
  unfold pairV at HC3 HR3
  have i4 := step_ok (t := 23) i3 ⟨29, v3, 0, 0, false, 0, name, ⟨#[120]⟩, ByteArray.empty, []⟩ (by simp) (by omega) (by omega)
  have l4 := (step5_facts i3.1 (i3.2.mono (by omega)) ⟨29, v3, 0, 0, false, 0, name, ⟨#[120]⟩, ByteArray.empty, []⟩ (by simp)).2
  have s4 : A3.step5 ⟨29, v3, 0, 0, false, 0, name, ⟨#[120]⟩, ByteArray.empty, []⟩ = ((0, (A3.setAttr v3 0 name ⟨#[120]⟩).1), (A3.setAttr v3 0 name ⟨#[120]⟩).2) := rfl
  rw [s4] at i4 l4
  have l4' : (A3.setAttr v3 0 name ⟨#[120]⟩).2.ns.length ≤ 29 := by
    rw [if_neg (by show ¬ ((29 : Int) = 31 ∨ (29 : Int) = 32); decide)] at l4
    have l4 : (A3.setAttr v3 0 name ⟨#[120]⟩).2.ns.length ≤ A3.ns.length + 3 := l4
    omega
  have i4 : (A3.setAttr v3 0 name ⟨#[120]⟩).2.Inv := i4.1
  clear l4 s4
  have HC4 := Lib.hid (fun (W : World) (b : Nat) (ll : List Asrt) (o : Own w w.heap.size (.arena b A3 :: ll) W) => SetAttributeD_own (el := v3) (s := 0) (name := name) (val := ⟨#[120]⟩) o i3.1 (by omega) hsz)
  have HR4 := Lib.hid (fun (W : World) (b : Nat) (ll : List Asrt) (o : Own w w.heap.size (.refar b A3 :: ll) W) => RSetAttribute_own (el := v3) (s := 0) (name := name) (val := ⟨#[120]⟩) o i3.1 (by omega) hsz)
  generalize A3.setAttr v3 0 name ⟨#[120]⟩ = R4 at *
  obtain ⟨c4, A4⟩ := R4
  dsimp only at *
  have HSH4 := Lib.hid (i4.short (show A4.ns.length ≤ 1000000 by omega))
  have HN := Lib.hid (New_any w)
  clear hs h2 i0 i1 i2 i3 i4 l1 l2' l3' l4'
  go_enter Tryz.func3, Tryz.ntmps3
  go_wp2_with fail
  refine HN.out.mono ?_
  rintro e w0 ⟨rfl, hw1⟩
  have o0 := (Own.start w).newArena
  rw [← hw1] at o0
  clear hw1 HN
  obtain ⟨g, hg⟩ : ∃ g, w.heap.size = g := ⟨_, rfl⟩
  rw [show (Asrt.arena w.heap.size Ar.new) = Asrt.arena g Ar.new by rw [hg]] at o0
  rw [show (Value.pointer (some (⟨w.heap.size, 0, none⟩ : Addr))) = Value.pointer (some ⟨g, 0, none⟩) by rw [hg]]
  clear hg
  go_wp2_with fail
  refine (RNew_own o0).mono ?_
  rintro e w1 ⟨rfl, o1⟩
  clear o0
  generalize w0.heap.size + 2 = r at *
  have HD := Lib.hid (o1.swap.call (fun ρ hA => Document_any Ar.new ρ g false _ hA (by decide)))
  clear o1
  go_wp2_with fail
  refine HD.out.mono ?_
  rintro e w2 ⟨rfl, o2⟩
  rw [e1] at o2
  clear HD
  have HD := Lib.hid (o2.swap.callR (fun ρ hA => RDocument_any Ar.new ρ r false _ hA (by decide)))
  clear o2
  go_wp2_with fail
  refine HD.out.mono ?_
  rintro e w3 ⟨rfl, o3⟩
  rw [e1] at o3
  clear HD
  go_wp2_with fail
  refine (HC2.out _ _ _ o3.swap).mono ?_
  rintro e w4 ⟨rfl, o4⟩
  clear o3
  go_wp2_with fail
  refine (HR2.out _ _ _ o4.swap).mono ?_
  rintro e w5 ⟨rfl, o5⟩
  clear o4
  go_wp2_with fail
  refine (Matches_own o5 (b := g) (c := r) (A := A2) (by simp) (by simp) HSH2.out).mono ?_
  rintro e w6 ⟨rfl, o6⟩
  clear o5
  go_wp2_with fail
  refine (HC3.out _ _ _ o6.swap).mono ?_
  rintro e w7 ⟨rfl, o7⟩
  clear o6
  go_wp2_with fail
  refine (HR3.out _ _ _ o7.swap).mono ?_
  rintro e w8 ⟨rfl, o8⟩
  clear o7
  go_wp2_with fail
  refine (HC4.out _ _ _ o8.swap).mono ?_
  rintro e w9 ⟨rfl, o9⟩
  clear o8
  go_wp2_with fail
  refine (HR4.out _ _ _ o9.swap).mono ?_
  rintro e w10 ⟨rfl, o10⟩
  clear o9
  go_wp2_with fail
  refine (Matches_own o10 (b := g) (c := r) (A := A4) (by simp) (by simp) HSH4.out).mono ?_
  rintro e w11 ⟨rfl, o11⟩
  clear o10
  go_wp2_with fail
  refine (known5_any w11).mono ?_
  rintro e w12 ⟨rfl, hB12⟩
  have HX := Lib.hid (o11.back hB12)
  clear hB12 o11
  go_wp2
  go_ret
  exact ⟨rfl, HX.out⟩

end Go.Proofs.YtpicinjcmjaogaaGreat
