/-
  The invariant is kept by every operation; how much an operation adds. No walk here.
-/
import Derived.Test.YtnfdcfagdidmhaaP23
import Derived.Test.YtnfdcfagdidmhaaArV
namespace Go.Proofs.Ytnfdcfagdidmhaa
set_option linter.unusedVariables false

theorem Ar.Inv.make {A : Ar} (hI : A.Inv) {d : Int} {n : Nd} (hk : n.kids = []) (hp : n.parent = 0) (hh : n.host = 0) (hc : n.contents = 0) (hl : n.Local) (h1 : n.kind ≠ 1) (h4 : n.kind ≠ 4) : (A.make d n).2.Inv := by
  unfold Ar.make
  by_cases he : A.ofDoc d ≠ 0
  · rw [if_pos he]; exact hI
  · rw [if_neg he]
    have he' : A.ofDoc d = 0 := Classical.not_not.1 he
    refine hI.added (n := { n with doc := d }) hk hp hh hc ⟨hl.k1, hl.k6, hl.sp, hl.at1, hl.at2, hl.at3, hl.el, hl.nm, hl.ps, hl.da, hl.qu⟩ (.inl ⟨ofDoc_has he', ofDoc_kind he', h1⟩) (.inl ⟨rfl, fun h => h4 h.1⟩)

theorem local_doctype (a b c : ByteArray) : (docTypeNd a b c).Local :=
  ⟨by simp [docTypeNd], by simp [docTypeNd], by simp [docTypeNd, inSpaces, zeroNd], by simp [docTypeNd, attrSpaces, zeroNd], rfl, by simp [docTypeNd, zeroNd], fun _ => ⟨rfl, rfl⟩, fun _ h => absurd rfl h, fun h => absurd rfl h, fun _ _ => rfl, fun _ => rfl⟩
theorem local_text (a : ByteArray) : (textNd a).Local :=
  ⟨by simp [textNd], by simp [textNd], by simp [textNd, inSpaces, zeroNd], by simp [textNd, attrSpaces, zeroNd], rfl, by simp [textNd, zeroNd], fun _ => ⟨rfl, rfl⟩, fun _ _ => rfl, fun _ => ⟨rfl, rfl⟩, fun h => absurd rfl h, fun _ => rfl⟩
theorem local_comment (a : ByteArray) : (commentNd a).Local :=
  ⟨by simp [commentNd], by simp [commentNd], by simp [commentNd, inSpaces, zeroNd], by simp [commentNd, attrSpaces, zeroNd], rfl, by simp [commentNd, zeroNd], fun _ => ⟨rfl, rfl⟩, fun _ _ => rfl, fun _ => ⟨rfl, rfl⟩, fun _ h => absurd rfl h, fun _ => rfl⟩
theorem local_fragment : fragNd.Local := local_frag (d := 0) (h := 0)

theorem Ar.Inv.inertCall {A : Ar} (hI : A.Inv) (d : Int) : (A.inertCall d).2.Inv := by
  unfold Ar.inertCall
  by_cases he : A.ofDoc d ≠ 0
  · rw [if_pos he]; exact hI
  · rw [if_neg he]; exact Ar.InvX.inertOf hI (ofDoc_has (Classical.not_not.1 he))

theorem Ar.Inv.element {A : Ar} (hI : A.Inv) (d s : Int) (name : ByteArray) (l : List AttrD) (hl : l.length ≤ 20) : (A.element d s name l).2.Inv := by
  by_cases he : A.ofDoc d = 0
  · have hd := ofDoc_has he
    have hdk := ofDoc_kind he
    by_cases hs : inSpaces s ∧ attrSpaces l
    · by_cases ht : isTemplate (elemNd d s name l)
      · rw [elem_templ he hs ht]
        have h1 : (A.add (elemNd d s name l)).InvX (A.n + 1) := Ar.InvX.added hI rfl rfl rfl rfl (local_elem hs.1 hs.2 hl) (.inl ⟨hd, hdk, by simp [elemNd]⟩) (.inr ⟨rfl, rfl⟩)
        have hd1 : (A.add (elemNd d s name l)).has d := (Ar.add_has _ _ _).2 (.inl hd)
        have h2 := h1.inertOf hd1
        obtain ⟨v1, v2⟩ := h1.inertVal hd1
        have hx := Ar.inertOf_get (d := d) (A := A.add (elemNd d s name l)) (x := A.n + 1) ((Ar.add_has _ _ _).2 (.inr rfl))
        exact h2.contents hx.2 (by rw [hx.1, Ar.add_new]; exact ht) v1 v2
      · rw [elem_plain he hs ht]
        exact Ar.InvX.added hI rfl rfl rfl rfl (local_elem hs.1 hs.2 hl) (.inl ⟨hd, hdk, by simp [elemNd]⟩) (.inl ⟨rfl, ht⟩)
    · rw [elem_false he hs]; exact hI
  · have : A.element d s name l = ((0, A.ofDoc d), A) := by simp [Ar.element, he]
    rw [this]; exact hI

theorem Ar.Inv.setData {A : Ar} (hI : A.Inv) (h : Int) (s : ByteArray) : (A.setData h s).2.Inv := by
  unfold Ar.setData
  split
  · exact hI
  · rename_i hh
    have hh := Classical.not_not.1 hh
    split
    · exact hI
    · rename_i hk
      have hk := Classical.not_not.1 hk
      have := hI.loc h hh
      refine Ar.InvX.modF hI hh _ ⟨rfl, rfl, rfl, rfl, rfl, rfl, rfl⟩ ⟨this.k1, this.k6, this.sp, this.at1, this.at2, this.at3, this.el, this.nm, this.ps, fun a b => ?_, this.qu⟩ (.inl rfl)
      rcases hk with hk | hk
      · exact absurd hk a
      · exact absurd hk b
theorem Ar.Inv.setAttrs {A : Ar} (hI : A.Inv) (h : Int) (l : List AttrD) (hl : l.length ≤ 20) : (A.setAttrs h l).2.Inv := by
  unfold Ar.setAttrs
  split
  · exact hI
  · rename_i hh
    have hh := Classical.not_not.1 hh
    split
    · exact hI
    · rename_i hk
      have hk := Classical.not_not.1 hk
      split
      · exact hI
      · rename_i hs
        have hs := Classical.not_not.1 hs
        have := hI.loc h hh
        exact Ar.InvX.modF hI hh _ ⟨rfl, rfl, rfl, rfl, rfl, rfl, rfl⟩ ⟨this.k1, this.k6, this.sp, fun a q => hs a (onceL_mem q), onceL_idem l, Nat.le_trans (onceL_len l) hl, fun a => absurd hk a, this.nm, this.ps, this.da, this.qu⟩ (.inl rfl)
theorem Ar.Inv.setQuirks {A : Ar} (hI : A.Inv) (h : Int) (q : Bool) : (A.setQuirks h q).2.Inv := by
  unfold Ar.setQuirks
  split
  · exact hI
  · rename_i hh
    have hh := Classical.not_not.1 hh
    split
    · exact hI
    · rename_i hk
      have hk := Classical.not_not.1 hk
      have := hI.loc h hh
      exact Ar.InvX.modF hI hh _ ⟨rfl, rfl, rfl, rfl, rfl, rfl, rfl⟩ ⟨this.k1, this.k6, this.sp, this.at1, this.at2, this.at3, this.el, this.nm, this.ps, this.da, fun a => absurd hk a⟩ (.inl rfl)
theorem Ar.Inv.setDoc {A : Ar} (hI : A.Inv) (h d : Int) : (A.setDoc h d).2.Inv := by
  unfold Ar.setDoc
  split
  · exact hI
  · rename_i hh
    have hh1 : A.has h := Classical.not_not.1 (fun e => hh (.inl e))
    have hh2 : A.has d := Classical.not_not.1 (fun e => hh (.inr e))
    split
    · exact hI
    · rename_i hk
      have hk1 : (A.get h).kind ≠ 1 := fun e => hk (.inl e)
      have hk2 : (A.get d).kind = 1 := Classical.not_not.1 (fun e => hk (.inr e))
      have := hI.loc h hh1
      exact Ar.InvX.modF hI hh1 _ ⟨rfl, rfl, rfl, rfl, rfl, rfl, rfl⟩ ⟨this.k1, this.k6, this.sp, this.at1, this.at2, this.at3, this.el, this.nm, this.ps, this.da, this.qu⟩ (.inr ⟨hh2, hk2, hk1⟩)

theorem Ar.Inv.cutCall {A : Ar} (hI : A.Inv) (h : Int) : (A.cutCall h).2.Inv := by
  unfold Ar.cutCall
  split
  · rename_i hh; exact Ar.InvX.cut hI hh
  · exact hI

/-- What 'Put' has found when it goes on. -/
theorem allowed_got {A : Ar} {parent node before : Int} {c : Bool} (h : A.allowed parent node before c = 0) : A.has parent ∧ A.has node ∧ (before ≠ 0 → A.has before ∧ before ≠ node ∧ (A.get before).parent = parent) ∧
    ((A.get parent).kind = 1 ∨ (A.get parent).kind = 2 ∨ (A.get parent).kind = 4) ∧ ((A.get node).kind ≠ 1 ∧ (A.get node).kind ≠ 2) ∧ c = false := by
  unfold Ar.allowed at h
  split at h
  · exact absurd h (by decide)
  · rename_i h1
    split at h
    · exact absurd h (by decide)
    · rename_i h2
      split at h
      · exact absurd h (by decide)
      · rename_i h3
        split at h
        · exact absurd h (by decide)
        · rename_i h4
          refine ⟨Classical.not_not.1 (fun e => h1 (.inl e)), Classical.not_not.1 (fun e => h1 (.inr (.inl e))), fun hb => ⟨Classical.not_not.1 (fun e => h1 (.inr (.inr ⟨hb, e⟩))), fun e => h4 ⟨hb, .inl e⟩, Classical.not_not.1 (fun e => h4 ⟨hb, .inr e⟩)⟩, Classical.not_not.1 h2, ⟨fun e => h3 (.inl e), fun e => h3 (.inr (.inl e))⟩, ?_⟩
          cases c
          · rfl
          · exact absurd (.inr (.inr rfl)) h3
theorem Ar.Inv.put {A : Ar} (hI : A.Inv) (parent node before : Int) : (A.put parent node before).2.Inv := by
  unfold Ar.put
  split
  · exact hI
  · rename_i h
    obtain ⟨h1, h2, h3, h4, h5, h6⟩ := allowed_got (Classical.not_not.1 h)
    exact Ar.InvX.place hI h1 h2 h3 h4 h5 h6

/-- What holds of every call's outcome holds of an operation's. -/
theorem step_rec {A : Ar} {x : OpD} {P : (Int × Int) × Ar → Prop}
    (h1 : x.kind = 1 → P (((A.n + 1, 0), A.document x.flag)))
    (h2 : x.kind = 2 → P (A.make x.a (docTypeNd x.name x.s x.t)))
    (h3 : x.kind = 3 → P (A.element x.a x.space x.name x.attrs))
    (h4 : x.kind = 4 → P (A.make x.a (textNd x.s)))
    (h5 : x.kind = 5 → P (A.make x.a (commentNd x.s)))
    (h6 : x.kind = 6 → P (A.make x.a fragNd))
    (h7 : x.kind = 7 → P (A.inertCall x.a))
    (h8 : x.kind = 8 → P (((0, (A.put x.a x.b x.c).1), (A.put x.a x.b x.c).2)))
    (h9 : x.kind = 9 → P (((0, (A.cutCall x.a).1), (A.cutCall x.a).2)))
    (h10 : x.kind = 10 → P (((0, (A.setData x.a x.s).1), (A.setData x.a x.s).2)))
    (h11 : x.kind = 11 → P (((0, (A.setAttrs x.a x.attrs).1), (A.setAttrs x.a x.attrs).2)))
    (h12 : x.kind = 12 → P (((0, (A.setQuirks x.a x.flag).1), (A.setQuirks x.a x.flag).2)))
    (h13 : x.kind = 13 → P (((0, (A.setDoc x.a x.b).1), (A.setDoc x.a x.b).2)))
    (h0 : (∀ j : Int, 1 ≤ j → j ≤ 13 → x.kind ≠ j) → P ((0, 0), A)) : P (A.step x) := by
  unfold Ar.step
  by_cases e1 : x.kind = 1
  · rw [if_pos e1]; exact h1 e1
  rw [if_neg e1]
  by_cases e2 : x.kind = 2
  · rw [if_pos e2]; exact h2 e2
  rw [if_neg e2]
  by_cases e3 : x.kind = 3
  · rw [if_pos e3]; exact h3 e3
  rw [if_neg e3]
  by_cases e4 : x.kind = 4
  · rw [if_pos e4]; exact h4 e4
  rw [if_neg e4]
  by_cases e5 : x.kind = 5
  · rw [if_pos e5]; exact h5 e5
  rw [if_neg e5]
  by_cases e6 : x.kind = 6
  · rw [if_pos e6]; exact h6 e6
  rw [if_neg e6]
  by_cases e7 : x.kind = 7
  · rw [if_pos e7]; exact h7 e7
  rw [if_neg e7]
  by_cases e8 : x.kind = 8
  · rw [if_pos e8]; exact h8 e8
  rw [if_neg e8]
  by_cases e9 : x.kind = 9
  · rw [if_pos e9]; exact h9 e9
  rw [if_neg e9]
  by_cases e10 : x.kind = 10
  · rw [if_pos e10]; exact h10 e10
  rw [if_neg e10]
  by_cases e11 : x.kind = 11
  · rw [if_pos e11]; exact h11 e11
  rw [if_neg e11]
  by_cases e12 : x.kind = 12
  · rw [if_pos e12]; exact h12 e12
  rw [if_neg e12]
  by_cases e13 : x.kind = 13
  · rw [if_pos e13]; exact h13 e13
  rw [if_neg e13]
  exact h0 (fun j h1 h2 e => by omega)

theorem Ar.Inv.step {A : Ar} (hI : A.Inv) (x : OpD) (hl : x.attrs.length ≤ 20) : (A.step x).2.Inv := by
  refine step_rec (P := fun r => r.2.Inv) ?_ ?_ ?_ ?_ ?_ ?_ ?_ ?_ ?_ ?_ ?_ ?_ ?_ ?_ <;> intro _
  · exact Ar.InvX.document hI _
  · exact hI.make rfl rfl rfl rfl (local_doctype _ _ _) (by simp [docTypeNd]) (by simp [docTypeNd])
  · exact hI.element _ _ _ _ hl
  · exact hI.make rfl rfl rfl rfl (local_text _) (by simp [textNd]) (by simp [textNd])
  · exact hI.make rfl rfl rfl rfl (local_comment _) (by simp [commentNd]) (by simp [commentNd])
  · exact hI.make rfl rfl rfl rfl local_fragment (by simp [fragNd]) (by simp [fragNd])
  · exact hI.inertCall _
  · exact hI.put _ _ _
  · exact hI.cutCall _
  · exact hI.setData _ _
  · exact hI.setAttrs _ _ hl
  · exact hI.setQuirks _ _
  · exact hI.setDoc _ _
  · exact hI

theorem inv_new : Ar.new.Inv := by
  have hno : ∀ h, ¬ Ar.new.has h := fun h hh => by have h1 := hh.1; have h2 := hh.2; simp [Ar.new, Ar.n] at h2; omega
  refine ⟨⟨fun h hh => absurd hh (hno h), fun h hh => absurd hh (hno h), fun h hh => absurd hh (hno h), fun h hh => absurd hh (hno h), rfl⟩, fun h hh => absurd hh (hno h), fun h hh => absurd hh (hno h), fun h hh => absurd hh (hno h), fun h hh => absurd hh (hno h), fun h hh => absurd hh (hno h), fun h hh => absurd hh (hno h), fun h hh => absurd hh (hno h), fun h hh => absurd hh (hno h), rfl, fun d hd => ?_⟩
  exfalso; apply hd
  unfold Ar.inertAt
  cases h : Ar.new.inert[d.toNat]? with
  | none => rfl
  | some x => have := List.mem_of_getElem? h; simp [Ar.new] at this; simp [this]

/-- How much an operation adds; what was there stays there, with its kind. -/
structure Ar.Ext (A A' : Ar) : Prop where
  le : A.ns.length ≤ A'.ns.length
  kind : ∀ x, A.has x → (A'.get x).kind = (A.get x).kind
theorem Ar.Ext.refl (A : Ar) : A.Ext A := ⟨Nat.le_refl _, fun _ _ => rfl⟩
theorem Ar.Ext.has {A A' : Ar} (h : A.Ext A') {x : Int} (hx : A.has x) : A'.has x := ⟨hx.1, by have := hx.2; have := h.le; unfold Ar.n at *; omega⟩
theorem Ar.Ext.trans {A B C : Ar} (h : A.Ext B) (k : B.Ext C) : A.Ext C := ⟨Nat.le_trans h.le k.le, fun x hx => (k.kind x (h.has hx)).trans (h.kind x hx)⟩
theorem Ar.ext_add (A : Ar) (n : Nd) : A.Ext (A.add n) := ⟨by simp [Ar.add], fun x hx => by rw [Ar.add_old n hx]⟩
theorem Ar.ext_mod {A : Ar} {x : Int} (hx : A.has x) (f : Nd → Nd) (hf : (f (A.get x)).kind = (A.get x).kind) : A.Ext (A.mod x f) := ⟨by simp [Ar.mod], fun y hy => by
  rw [Ar.mod_get f hx hy]; split
  · rename_i e; rw [e]; exact hf
  · rfl⟩

theorem Ar.ext_make (A : Ar) (d : Int) (n : Nd) : A.Ext (A.make d n).2 := by
  unfold Ar.make
  split
  · exact Ar.Ext.refl A
  · exact Ar.ext_add A _
theorem Ar.ext_inertOf (A : Ar) (d : Int) : A.Ext (A.inertOf d).2 := ⟨(Ar.inertOf_len A d).1, fun x hx => by rw [(Ar.inertOf_get hx).1]⟩
theorem Ar.ext_inertCall (A : Ar) (d : Int) : A.Ext (A.inertCall d).2 := by
  unfold Ar.inertCall
  split
  · exact Ar.Ext.refl A
  · exact Ar.ext_inertOf A d
theorem Ar.ext_element (A : Ar) (d s : Int) (name : ByteArray) (l : List AttrD) : A.Ext (A.element d s name l).2 := by
  unfold Ar.element
  split
  · exact Ar.Ext.refl A
  · split
    · exact Ar.Ext.refl A
    · dsimp only
      split
      · refine ((Ar.ext_add A _).trans (Ar.ext_inertOf _ d)).trans ((Ar.ext_add _ _).trans (Ar.ext_mod ?_ _ rfl))
        exact (Ar.ext_add _ _).has ((Ar.ext_inertOf _ d).has ((Ar.add_has _ _ _).2 (.inr rfl)))
      · exact Ar.ext_add A _
theorem Ar.Inv.ext_cut {A : Ar} (hI : A.Inv) {h : Int} (hh : A.has h) : A.Ext (A.cut h) := ⟨by rw [Ar.cut_ns]; exact Nat.le_refl _, fun x hx => by rw [Ar.cut_get hI hh hx]⟩
theorem Ar.Inv.ext_put {A : Ar} (hI : A.Inv) (parent node before : Int) : A.Ext (A.put parent node before).2 := by
  unfold Ar.put
  split
  · exact Ar.Ext.refl A
  · rename_i h
    obtain ⟨h1, h2, h3, h4, h5, h6⟩ := allowed_got (Classical.not_not.1 h)
    have hne : parent ≠ node := fun e => by
      subst e
      have : A.contains parent parent = true := by simp [Ar.contains, h1, way_head (hI.wf.wayOf h1) h1]
      rw [this] at h6; exact absurd h6 (by simp)
    refine ⟨by have := Ar.place_n A parent node before; unfold Ar.n at this; dsimp only; omega, fun x hx => ?_⟩
    show ((A.place parent node before).get x).kind = _
    rw [Ar.place_get h1 h2 hx hne, Ar.cut_get hI h2 hx]
theorem Ar.ext_set {A : Ar} (h : Int) (s : ByteArray) (l : List AttrD) (q : Bool) (d : Int) : A.Ext (A.setData h s).2 ∧ A.Ext (A.setAttrs h l).2 ∧ A.Ext (A.setQuirks h q).2 ∧ A.Ext (A.setDoc h d).2 := by
  refine ⟨?_, ?_, ?_, ?_⟩
  · unfold Ar.setData
    split
    · exact Ar.Ext.refl A
    · rename_i hh
      split
      · exact Ar.Ext.refl A
      · exact Ar.ext_mod (Classical.not_not.1 hh) _ rfl
  · unfold Ar.setAttrs
    split
    · exact Ar.Ext.refl A
    · rename_i hh
      split
      · exact Ar.Ext.refl A
      · split
        · exact Ar.Ext.refl A
        · exact Ar.ext_mod (Classical.not_not.1 hh) _ rfl
  · unfold Ar.setQuirks
    split
    · exact Ar.Ext.refl A
    · rename_i hh
      split
      · exact Ar.Ext.refl A
      · exact Ar.ext_mod (Classical.not_not.1 hh) _ rfl
  · unfold Ar.setDoc
    split
    · exact Ar.Ext.refl A
    · rename_i hh
      split
      · exact Ar.Ext.refl A
      · exact Ar.ext_mod (Classical.not_not.1 (fun e => hh (.inl e))) _ rfl
theorem Ar.Inv.ext_step {A : Ar} (hI : A.Inv) (x : OpD) : A.Ext (A.step x).2 := by
  refine step_rec (P := fun r => A.Ext r.2) ?_ ?_ ?_ ?_ ?_ ?_ ?_ ?_ ?_ ?_ ?_ ?_ ?_ ?_ <;> intro _
  · exact Ar.ext_add A _
  · exact Ar.ext_make A _ _
  · exact Ar.ext_element A _ _ _ _
  · exact Ar.ext_make A _ _
  · exact Ar.ext_make A _ _
  · exact Ar.ext_make A _ _
  · exact Ar.ext_inertCall A _
  · exact hI.ext_put _ _ _
  · dsimp only; unfold Ar.cutCall; split
    · rename_i hh; exact hI.ext_cut hh
    · exact Ar.Ext.refl A
  · exact (Ar.ext_set _ _ [] false 0).1
  · exact (Ar.ext_set _ ByteArray.empty _ false 0).2.1
  · exact (Ar.ext_set _ ByteArray.empty [] _ 0).2.2.1
  · exact (Ar.ext_set _ ByteArray.empty [] false _).2.2.2
  · exact Ar.Ext.refl A

theorem mod_len (A : Ar) (x : Int) (f : Nd → Nd) : (A.mod x f).ns.length = A.ns.length := by simp [Ar.mod]
theorem add_len (A : Ar) (n : Nd) : (A.add n).ns.length = A.ns.length + 1 := by simp [Ar.add]
theorem make_len (A : Ar) (d : Int) (n : Nd) : (A.make d n).2.ns.length ≤ A.ns.length + 3 := by
  unfold Ar.make; split
  · exact Nat.le_add_right _ _
  · rw [add_len]; omega
theorem step_len (A : Ar) (x : OpD) : (A.step x).2.ns.length ≤ A.ns.length + 3 := by
  have hcut : ∀ h, (A.cut h).ns.length = A.ns.length := Ar.cut_ns A
  refine step_rec (P := fun r => r.2.ns.length ≤ A.ns.length + 3) ?_ ?_ ?_ ?_ ?_ ?_ ?_ ?_ ?_ ?_ ?_ ?_ ?_ ?_ <;> intro _
  · dsimp only [Ar.document]; rw [add_len]; omega
  · exact make_len A _ _
  · unfold Ar.element
    split
    · exact Nat.le_add_right _ _
    · split
      · exact Nat.le_add_right _ _
      · dsimp only
        split
        · rw [mod_len, add_len]
          refine Nat.le_trans (Nat.succ_le_succ (Ar.inertOf_len _ _).2) ?_
          rw [add_len]; omega
        · rw [add_len]; omega
  · exact make_len A _ _
  · exact make_len A _ _
  · exact make_len A _ _
  · unfold Ar.inertCall; split
    · exact Nat.le_add_right _ _
    · have := (Ar.inertOf_len A x.a).2; dsimp only; omega
  · dsimp only; unfold Ar.put; split
    · exact Nat.le_add_right _ _
    · have := Ar.place_n A x.a x.b x.c; unfold Ar.n at this; dsimp only; omega
  · dsimp only; unfold Ar.cutCall; split
    · dsimp only; rw [hcut]; omega
    · exact Nat.le_add_right _ _
  · dsimp only; unfold Ar.setData; repeat' split
    all_goals (dsimp only; try rw [mod_len]); try omega
    all_goals exact Nat.le_add_right _ _
  · dsimp only; unfold Ar.setAttrs; repeat' split
    all_goals (dsimp only; try rw [mod_len]); try omega
    all_goals exact Nat.le_add_right _ _
  · dsimp only; unfold Ar.setQuirks; repeat' split
    all_goals (dsimp only; try rw [mod_len]); try omega
    all_goals exact Nat.le_add_right _ _
  · dsimp only; unfold Ar.setDoc; repeat' split
    all_goals (dsimp only; try rw [mod_len]); try omega
    all_goals exact Nat.le_add_right _ _
  · exact Nat.le_add_right _ _

/-- The arena that operations make. -/
def runL (l : List OpD) : Ar := l.foldl (fun A x => (A.step x).2) Ar.new

theorem run_snoc (l : List OpD) (x : OpD) : runL (l ++ [x]) = ((runL l).step x).2 := by simp [runL, List.foldl_append]
theorem run_take {l : List OpD} {k : Nat} {x : OpD} (hx : l[k]? = some x) : runL (l.take (k + 1)) = ((runL (l.take k)).step x).2 := by
  have hk := (List.getElem?_eq_some_iff.1 hx).1
  rw [List.take_succ_eq_append_getElem hk, run_snoc]
  have := (List.getElem?_eq_some_iff.1 hx).2
  rw [this]
theorem run_inv : ∀ {k : Nat} {l : List OpD}, (∀ x ∈ l, x.attrs.length ≤ 20) → k ≤ l.length → (runL (l.take k)).Inv ∧ (runL (l.take k)).ns.length ≤ 3 * k
  | 0, l, _, _ => ⟨by simpa [runL] using inv_new, by simp [runL, Ar.new]⟩
  | k + 1, l, h, hk => by
    obtain ⟨x, hx⟩ : ∃ x, l[k]? = some x := ⟨_, List.getElem?_eq_getElem (by omega)⟩
    obtain ⟨q1, q2⟩ := run_inv (k := k) h (by omega)
    rw [run_take hx]
    exact ⟨q1.step x (h x (List.mem_of_getElem? hx)), by have := step_len (runL (l.take k)) x; omega⟩
end Go.Proofs.Ytnfdcfagdidmhaa
