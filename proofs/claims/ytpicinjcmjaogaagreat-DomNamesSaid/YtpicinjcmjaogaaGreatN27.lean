/-
  Parts: D13.
-/
import Derived.Test.YtpicinjcmjaogaaGreatN26

/- Contracts of dom: Attribute, CreateElement, SetAttribute. (Printed by gend13.py.) -/
namespace Go.Proofs.YtpicinjcmjaogaaGreat
open Go.RowKit Go.Shelf
set_option linter.unusedVariables false

attribute [local go_sem] Oper.semAt_some

theorem findI_or {α : Type} (p : α → Bool) (l : List α) : findI p l = -1 ∨ ∃ (k : Nat) (x : α), findI p l = k ∧ l[k]? = some x ∧ p x = true := by
  unfold findI
  cases h : l.findIdx? p with
  | none => exact .inl rfl
  | some i =>
    rw [List.findIdx?_eq_some_iff_getElem] at h
    obtain ⟨hi, hp, -⟩ := h
    exact .inr ⟨i, l[i], rfl, List.getElem?_eq_getElem hi, hp⟩

theorem attrRes_at (A : Ar) (el s : Int) (name : ByteArray) : (A.attrRes el s name).2.1 = -1 ∨ ∃ (k : Nat) (x : AttrD), (A.attrRes el s name).2.1 = k ∧ (A.attrRes el s name).1[k]? = some x := by
  unfold Ar.attrRes
  split
  · exact .inl rfl
  · rcases findI_or (attrIs s (A.attrName el s name)) (A.get el).attrs with h | ⟨k, x, h1, h2, -⟩
    · exact .inl h
    · exact .inr ⟨k, x, h1, h2⟩
set_option maxRecDepth 100000 in
set_option maxHeartbeats 1000000 in
theorem CreateElement_own {w0 w : World} {B b : Nat} {A : Ar} {L : List Asrt} {d : Int} {name : ByteArray} (o : Own w0 B (.arena b A :: L) w) (hI : A.Inv) (hsz : A.ns.length + 3 ≤ 1000000) (hs : name.size ≤ 1000000) :
    Calls Tryz.prog 24 #[.pointer (some ⟨b, 0, none⟩), .int .i64 d, .string name] w fun e w' => e = .returned (pairV (A.createElement d name).1) ∧ Own w0 B (.arena b (A.createElement d name).2 :: L) w' := by
  have HS := hI.short (show A.ns.length ≤ 1000000 by omega)
  unfold pairV
  by_cases hh : A.has d
  · have HC := Lib.hid (Check1_own (opt := -1) (x := d) o (b := b) (A := A) (by simp) HS (chk1n.trans (if_pos hh)))
    obtain ⟨nd, hnd⟩ : ∃ nd, A.get d = nd := ⟨_, rfl⟩
    have HK := Lib.hid (fun W (q : Own w0 B (.arena b A :: L) W) => Kind_own (b := b) (A := A) q (by simp) HS hh hnd)
    by_cases hk : nd.kind = 1
    · have e1 : (nd.kind != 1) = false := by simp [hk]
      have h0 : A.ofDoc d = 0 := by unfold Ar.ofDoc; rw [if_neg (fun q => q hh), if_neg (fun q => q (by rw [hnd]; exact hk))]
      have HV := Lib.hid (fun W => ValidElement_any name W hs)
      have HE : Hid (A.createElement d name = if validEl name.toList = false then ((0, 8), A) else A.element d 1 (lowerS name) []) := Lib.hid (by
        unfold Ar.createElement; rw [if_neg (fun q => q h0)])
      have HL := Lib.hid (fun W => Lower_any name W hs)
      have HEL := Lib.hid (fun W (q : Own w0 B (.arena b A :: L) W) => q.call (fun ρ hA => Element_any A ρ b d 1 (lowerS name) (.slice none 0 0) [] W hA (nilAttrs W) hsz (by simp)))
      unfold pairV at HEL
      clear o hI hh hk hnd HS h0
      cases hv : validEl name.toList with
      | true =>
        have HF : Hid (A.createElement d name = A.element d 1 (lowerS name) []) := Lib.hid (by rw [HE.out, hv]; rfl)
        rw [hv] at HV
        clear hv HE
        generalize A.createElement d name = G at *
        go_enter Tryz.func24, Tryz.ntmps24
        go_wp2_with fail
        refine HC.out.mono ?_
        rintro e w1 ⟨rfl, o1⟩
        have HK1 := Lib.hid (HK.out _ o1)
        clear HC HK o1
        go_wp2_with fail
        refine HK1.out.mono ?_
        rintro e w2 ⟨rfl, o2, -⟩
        have HO2 := Lib.hid o2
        clear HK1 o2
        go_wp2_with fail
        refine (HV.out _).mono ?_
        rintro e w3 ⟨rfl, hB3⟩
        have HO3 := Lib.hid (HO2.out.read hB3)
        clear HV HO2 hB3
        go_wp2_with fail
        refine (HL.out _).mono ?_
        rintro e w4 ⟨rfl, hB4⟩
        have HE4 := Lib.hid (HEL.out _ (HO3.out.read hB4))
        clear HL HO3 hB4 HEL
        go_wp2_with fail
        refine HE4.out.mono ?_
        rintro e w5 ⟨rfl, o5⟩
        have HO5 := Lib.hid o5
        clear HE4 o5
        go_wp2
        go_ret2
        rw [HF.out]
        exact ⟨rfl, HO5.out⟩
      | false =>
        have HF : Hid (A.createElement d name = ((0, 8), A)) := Lib.hid (by rw [HE.out, hv]; rfl)
        rw [hv] at HV
        clear hv HE HL HEL
        generalize A.createElement d name = G at *
        go_enter Tryz.func24, Tryz.ntmps24
        go_wp2_with fail
        refine HC.out.mono ?_
        rintro e w1 ⟨rfl, o1⟩
        have HK1 := Lib.hid (HK.out _ o1)
        clear HC HK o1
        go_wp2_with fail
        refine HK1.out.mono ?_
        rintro e w2 ⟨rfl, o2, -⟩
        have HO2 := Lib.hid o2
        clear HK1 o2
        go_wp2_with fail
        refine (HV.out _).mono ?_
        rintro e w3 ⟨rfl, hB3⟩
        have HO3 := Lib.hid (HO2.out.read hB3)
        clear HV HO2 hB3
        go_wp2
        go_ret2
        rw [HF.out]
        exact ⟨rfl, HO3.out⟩
    · have e1 : (nd.kind != 1) = true := by simp [hk]
      have h9 : A.ofDoc d = 9 := by unfold Ar.ofDoc; rw [if_neg (fun q => q hh), if_pos (by rw [hnd]; exact hk)]
      have HF : Hid (A.createElement d name = ((0, 9), A)) := Lib.hid (by unfold Ar.createElement; rw [if_pos (by rw [h9]; decide), h9])
      clear o hI hh hk hnd HS h9
      generalize A.createElement d name = G at *
      go_enter Tryz.func24, Tryz.ntmps24
      go_wp2_with fail
      refine HC.out.mono ?_
      rintro e w1 ⟨rfl, o1⟩
      have HK1 := Lib.hid (HK.out _ o1)
      clear HC HK o1
      go_wp2_with fail
      refine HK1.out.mono ?_
      rintro e w2 ⟨rfl, o2, -⟩
      have HO2 := Lib.hid o2
      clear HK1 o2
      go_wp2
      go_ret2
      rw [HF.out]
      exact ⟨rfl, HO2.out⟩
  · have HC := Lib.hid (Check1_own (opt := -1) (x := d) o (b := b) (A := A) (by simp) HS (chk1n.trans (if_neg hh)))
    have h3 : A.ofDoc d = 3 := by unfold Ar.ofDoc; rw [if_pos hh]
    have HF : Hid (A.createElement d name = ((0, 3), A)) := Lib.hid (by unfold Ar.createElement; rw [if_pos (by rw [h3]; decide), h3])
    clear o hI hh HS h3
    generalize A.createElement d name = G at *
    go_enter Tryz.func24, Tryz.ntmps24
    go_wp2_with fail
    refine HC.out.mono ?_
    rintro e w1 ⟨rfl, o1⟩
    have HO1 := Lib.hid o1
    clear HC o1
    go_wp2
    go_ret2
    rw [HF.out]
    exact ⟨rfl, HO1.out⟩

theorem owns_heap {w : World} {base : Nat} {e : TypeId} {size g n cap : Nat} {xs : List Value} (h : w.ownsRow base e size (.slice (some ⟨g, 0, none⟩) n cap) n xs) : ∃ cur, w.heap[g]? = some (.cells cur e (0, 0)) ∧ n * size ≤ cur.size := by
  rcases h.2 with ⟨h1, -⟩ | ⟨g', cap', cur, h1, -, h2, h3, -, h4, -⟩
  · exact absurd h1 (by simp)
  · have : g = g' ∧ cap = cap' := by injection h1 with a b c; injection a with a; injection a with a; exact ⟨a, c⟩
    obtain ⟨rfl, rfl⟩ := this
    exact ⟨cur, h2, by rw [h4]; exact Nat.mul_le_mul_right _ h3⟩
/-- The row at the front is written in place. -/
theorem Own.setRow {w0 W w1 : World} {B base : Nat} {e : TypeId} {size : Nat} {v v' : Value} {n n' : Nat} {xs xs' : List Value} {l : List Asrt} (h : Own w0 B (.row e size v n xs :: l) W)
    (hown : w1.ownsRow base e size v' n' xs') (hu : Upd (fun k => v.ownBlock = some k) W w1) (hat : v'.ownBlock = v.ownBlock) : Own w0 B (.row e size v' n' xs' :: l) w1 := by
  obtain ⟨S1, ⟨h1, h2⟩, hf⟩ := h.front
  exact hf w1 _ ⟨fun k => v'.ownBlock = some k, ⟨owns_base hown (Nat.zero_le _), fun _ => Iff.rfl⟩, hu.mono (fun k _ hk => (h2 k).2 hk), fun k hk hv => (h2 k).2 (by rw [← hat]; exact hv)⟩

theorem map_modify' {α β : Type} {g : α → β} {f : α → α} {r : β → β} (h : ∀ x, r (g x) = g (f x)) : ∀ (l : List α) (k : Nat), (l.map g).modify k r = (l.modify k f).map g
  | [], k => by simp
  | a :: l, 0 => by simp [h]
  | a :: l, k + 1 => by simp [map_modify' h l k]
theorem attrs_modify (l : List AttrD) (k : Nat) (val : ByteArray) : (l.flatMap attrCells).set (k * 3 + 2) (.string val) = (l.modify k (fun x => (x.1, x.2.1, val))).flatMap attrCells := by
  rw [attr_rows, attr_rows, Nat.mul_comm k 3, flatten_set (s := 3) (.string val) (rows := l.map attrCells) (by intro r hr; obtain ⟨x, -, rfl⟩ := List.mem_map.1 hr; rfl) k 2 (by omega)]
  rw [map_modify' (g := attrCells) (r := fun r => r.set 2 (.string val)) (f := fun x : AttrD => (x.1, x.2.1, val)) (fun x => rfl)]

theorem setAttr_res (A : Ar) (el s : Int) (name val : ByteArray) : A.setAttr el s name val = if (A.attrRes el s name).2.2.2 ≠ 0 then ((A.attrRes el s name).2.2.2, A) else if validAt name.toList = false then (8, A)
    else A.setAttrs el (if (A.attrRes el s name).2.1 < 0 then (A.attrRes el s name).1 ++ [(s, (A.attrRes el s name).2.2.1, val)] else (A.attrRes el s name).1.modify (A.attrRes el s name).2.1.toNat (fun x => (x.1, x.2.1, val))) := by
  unfold Ar.setAttr Ar.attrsWith Ar.attrRes
  by_cases h : A.attrErr el s = 0
  · simp [h]
  · simp [h]
theorem attrRes_len' {A : Ar} (hI : A.Inv) (el s : Int) (name : ByteArray) : (A.attrRes el s name).1.length ≤ 1000 := by
  unfold Ar.attrRes
  split
  · exact Nat.zero_le _
  · rename_i h
    by_cases hh : A.has el
    · exact (hI.loc el hh).at3
    · exact absurd (show A.attrErr el s ≠ 0 by unfold Ar.attrErr; rw [if_pos hh]; decide) h

set_option maxRecDepth 100000 in
set_option maxHeartbeats 2000000 in
theorem SetAttributeD_own {w0 w : World} {B b : Nat} {A : Ar} {L : List Asrt} {el s : Int} {name val : ByteArray} (o : Own w0 B (.arena b A :: L) w) (hI : A.Inv) (hsz : A.ns.length ≤ 1000000) (hs : name.size ≤ 1000000) :
    Calls Tryz.prog 29 #[.pointer (some ⟨b, 0, none⟩), .int .i64 el, .int .i64 s, .string name, .string val] w fun e w' => e = .returned (.int .i64 (A.setAttr el s name val).1) ∧ Own w0 B (.arena b (A.setAttr el s name val).2 :: L) w' := by
  obtain ⟨i0, hi, hz0, hz1, hz2⟩ := info_parts infoAttr
  have HIF := Lib.hid hi
  clear hi
  have hS := hI.short hsz
  have HC := Lib.hid (attribute_own (b := b) (A := A) (el := el) (s := s) o (by simp) hS hs)
  have hgr := setAttr_res A el s name val
  have hat := attrRes_at A el s name
  have hlen := attrRes_len' hI el s name
  have HV := Lib.hid (fun W => ValidAttribute_any name W hs)
  have HSA := Lib.hid (fun v l' W (hl : l'.length ≤ 1000000) (q : Own w0 B (.arena b A :: .atts v l' :: L) W) => q.call (fun ρ hA => SetAttrs_any A ρ b el v l' W hA (q.atts (v := v) (x := l') (by simp)) hl))
  clear o hI hS
  generalize A.attrRes el s name = R at *
  generalize A.setAttr el s name val = G at *
  obtain ⟨l, i, nm, er⟩ := R
  dsimp only at *
  have HG := Lib.hid hgr
  clear hgr
  by_cases he : er = 0
  · subst he
    cases hv : validAt name.toList with
    | false =>
      have HF : Hid (G = (8, A)) := Lib.hid (by rw [HG.out, hv]; rfl)
      rw [hv] at HV
      clear hv HG hat HSA
      go_enter Tryz.func29, Tryz.ntmps29
      go_wp2_with fail
      refine HC.out.mono ?_
      rintro e w1 ⟨aa, ac, rfl, o1⟩
      have HO1 := Lib.hid o1
      clear HC o1
      go_wp2_with fail
      refine (HV.out _).mono ?_
      rintro e w2 ⟨rfl, hB2⟩
      have HO := Lib.hid (HO1.out.read hB2)
      clear HV HO1 hB2
      go_wp2
      go_ret
      rw [HF.out]
      exact ⟨rfl, HO.out.drop⟩
    | true =>
      rw [hv] at HV
      rcases hat with hi | ⟨k, x, hi, hx⟩
      · subst hi
        have HF : Hid (G = A.setAttrs el (l ++ [(s, nm, val)])) := Lib.hid (by rw [HG.out, hv]; rfl)
        have HSA2 := Lib.hid (fun v W => HSA.out v (l ++ [(s, nm, val)]) W (by simp; omega))
        clear hv HG HSA
        go_enter Tryz.func29, Tryz.ntmps29
        go_wp2_with fail
        refine HC.out.mono ?_
        rintro e w1 ⟨aa, ac, rfl, o1⟩
        have HO1 := Lib.hid o1
        clear HC o1
        go_wp2_with fail
        refine (HV.out _).mono ?_
        rintro e w2 ⟨rfl, hB2⟩
        have o2 := HO1.out.read hB2
        have HR := Lib.hid (owns_base (o2.row (e := 132) (size := 3) (v := .slice aa l.length ac) (n := l.length) (xs := l.flatMap attrCells) (by simp)) (Nat.zero_le _))
        have HO2 := Lib.hid o2
        clear HV HO1 hB2 o2
        go_wp2_with (at_builtin; refine wpList_append_own_at _ rfl _ _ 44 rfl 0 132 i0 _ 3 40 Tryz.underlying44 HIF.out hz0 hz1 hz2 rfl (by decide) _ _ _ rfl (HR.out.alloc _) ⟨w2.heap.size, 0, none⟩ 1 1 (attrCells (s, nm, val)) rfl rfl ?c1 ?c2 ?c3 ?c4 ?c5 ?_)
        case c1 => intro j u hj; rw [Addr.add_mid, Nat.zero_add]; exact cell_new' rfl (by simpa [attrCells] using hj)
        case c2 => intro u hu; simp [attrCells] at hu; rcases hu with rfl | rfl | rfl <;> rfl
        case c3 => unfold maxLen; omega
        case c4 => omega
        case c5 => first | (simp; done) | (simp; omega)
        intro v' w4 hown hgrow _ hat
        have o4 := HO2.out
        have o5 := ((o4.alloc (.cells #[.int .i64 s, .string nm, .string val] 132)).swap.grow hown hgrow (by simpa using hat)).swap.drop
        have e1 : (l ++ [(s, nm, val)]).length = l.length + 1 := by simp
        have e2 : (l ++ [(s, nm, val)]).flatMap attrCells = l.flatMap attrCells ++ attrCells (s, nm, val) := by simp
        have o6 : Own w0 B (.atts v' (l ++ [(s, nm, val)]) :: .arena b A :: L) w4 := by unfold Asrt.atts; rw [e1, e2]; exact o5
        have HS6 := Lib.hid (HSA2.out _ _ o6.swap)
        clear o4 o5 o6 hown hgrow hat HSA2 e1 e2 HO2 HR
        go_wp2_with fail
        refine HS6.out.mono ?_
        rintro e w5 ⟨rfl, o7⟩
        have HO7 := Lib.hid o7
        clear HS6 o7
        go_wp2
        go_ret
        rw [HF.out]
        exact ⟨rfl, HO7.out.swap.drop⟩
      · subst hi
        have hk := (List.getElem?_eq_some_iff.1 hx).1
        have HF : Hid (G = A.setAttrs el (l.modify k (fun x => (x.1, x.2.1, val)))) := Lib.hid (by
          rw [HG.out, if_neg (fun q => q rfl), hv, if_neg (by decide), if_neg (by omega), Int.toNat_natCast])
        have HSA2 := Lib.hid (fun v W => HSA.out v (l.modify k (fun x => (x.1, x.2.1, val))) W (by simp; omega))
        have hk1 : (k : Int) < (l.length : Int) := by omega
        have hk2 : (l.length : Int) ≤ 1000 := by omega
        clear hv HG HSA hx
        go_enter Tryz.func29, Tryz.ntmps29
        go_wp2_with fail
        refine HC.out.mono ?_
        rintro e w1 ⟨aa, ac, rfl, o1⟩
        have HO1 := Lib.hid o1
        clear HC o1
        go_wp2_with fail
        refine (HV.out _).mono ?_
        rintro e w2 ⟨rfl, hB2⟩
        have o2 := HO1.out.read hB2
        clear HV HO1 hB2
        have hrow := o2.row (e := 132) (size := 3) (v := .slice aa l.length ac) (n := l.length) (xs := l.flatMap attrCells) (by simp)
        obtain ⟨g, cap, hsl, hgl, -⟩ := World.ownsRow.form hrow (by omega)
        have hea : aa = some ⟨g, 0, none⟩ ∧ ac = cap := by injection hsl with h1 h2 h3; exact ⟨h1, h3⟩
        obtain ⟨rfl, rfl⟩ := hea
        obtain ⟨cur, hcur, hcs⟩ := owns_heap hrow
        have hcell : ∃ u, w2.cell? ⟨g, k * 3 + 2, none⟩ = some u := by
          rw [cell_of_row w2 _ _ _ _ _ hcur]
          exact ⟨_, Array.getElem?_eq_getElem (by omega)⟩
        obtain ⟨u, d2⟩ := hcell
        have f2 : w2.frozen? ⟨g, k * 3 + 2, none⟩ = false := frozen_of_row w2 _ _ _ _ hcur
        have hset := owns_set hrow (k * 3 + 2) (.string val)
        have o3 := o2.setRow hset ((Upd.refl (fun k => (Value.slice (some ⟨g, 0, none⟩) l.length ac).ownBlock = some k) w2).setCell (p := ⟨g, k * 3 + 2, none⟩) (.inr rfl) (.string val)) rfl
        rw [attrs_modify] at o3
        have e1 : l.length = (l.modify k (fun x => (x.1, x.2.1, val))).length := by simp
        have o4 : Own w0 B (.atts (.slice (some ⟨g, 0, none⟩) l.length ac) (l.modify k (fun x => (x.1, x.2.1, val))) :: .arena b A :: L) (w2.setCell ⟨g, k * 3 + 2, none⟩ (.string val)) := by
          unfold Asrt.atts; rw [← e1]; exact o3
        have HS6 := Lib.hid (HSA2.out _ _ o4.swap)
        clear o2 o3 o4 hrow hsl hgl hcur hcs hset e1 HSA2
        go_wp2_with fail
        refine HS6.out.mono ?_
        rintro e w5 ⟨rfl, o7⟩
        have HO7 := Lib.hid o7
        clear HS6 o7
        go_wp2
        go_ret
        rw [HF.out]
        exact ⟨rfl, HO7.out.swap.drop⟩
  · have HF : Hid (G = (er, A)) := Lib.hid (HG.out.trans (if_pos he))
    have e1 : (er != 0) = true := by simp [he]
    clear he HG hat HSA HV
    go_enter Tryz.func29, Tryz.ntmps29
    go_wp2_with fail
    refine HC.out.mono ?_
    rintro e w1 ⟨aa, ac, rfl, o1⟩
    have HO := Lib.hid o1
    clear HC o1
    go_wp2
    go_ret
    rw [HF.out]
    exact ⟨rfl, HO.out.drop⟩

end Go.Proofs.YtpicinjcmjaogaaGreat
