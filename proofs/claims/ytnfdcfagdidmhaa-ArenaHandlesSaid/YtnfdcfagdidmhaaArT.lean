/-
  The invariant is kept by the calls that create and by those that set fields. No program here.
-/
import Derived.Test.YtnfdcfagdidmhaaArS
namespace Go.Proofs.Ytnfdcfagdidmhaa
set_option linter.unusedVariables false

theorem Ar.add_inertAt {A : Ar} (hl : A.inert.length = A.ns.length + 1) (n : Nd) (d : Int) : (A.add n).inertAt d = A.inertAt d := by
  unfold Ar.inertAt Ar.add
  simp only [List.getElem?_append]
  split
  · rfl
  · rename_i hge
    rw [List.getElem?_eq_none (l := A.inert) (by omega)]
    cases h : [(0 : Int)][d.toNat - A.inert.length]? with
    | none => rfl
    | some x => have := List.mem_of_getElem? h; simp at this; simp [this]

/-- A node is added that has no children, parent, host, contents. -/
theorem Ar.InvX.added {A : Ar} {ex ex' : Int} (hI : A.InvX ex) {n : Nd} (hk : n.kids = []) (hp : n.parent = 0) (hh : n.host = 0) (hc : n.contents = 0) (hl : n.Local)
    (hd : (A.has n.doc ∧ (A.get n.doc).kind = 1 ∧ n.kind ≠ 1) ∨ (n.doc = A.n + 1 ∧ n.kind = 1)) (hex : (ex' = ex ∧ ¬ isTemplate n) ∨ (ex = 0 ∧ ex' = A.n + 1)) : (A.add n).InvX ex' := by
  have hold : ∀ {x}, A.has x → (A.add n).get x = A.get x := fun hx => Ar.add_old n hx
  have hhas : ∀ {x}, A.has x → (A.add n).has x := fun hx => (Ar.add_has A n _).2 (.inl hx)
  have hnew : (A.add n).has (A.n + 1) := (Ar.add_has A n _).2 (.inr rfl)
  have hne : ∀ x, A.has x → x ≠ ex' → x ≠ ex := fun x hx hn e => by
    rcases hex with ⟨h, _⟩ | ⟨h, _⟩
    · exact hn (by rw [e, h])
    · exact has_zero A (by rw [← h, ← e]; exact hx)
  have hcase : ∀ x, (A.add n).has x → A.has x ∨ x = A.n + 1 := fun x hx => (Ar.add_has A n x).1 hx
  refine ⟨hI.wf.added hk hp (fun h => absurd hh h), fun x hx => ?_, fun x hx h0 => ?_, fun x hx hxe ht => ?_, fun x hx hxe => ?_, fun x hx h0 => ?_, fun x hx h0 => ?_, fun x hx => ?_, fun x hx h1 => ?_, ?_, fun d h0 => ?_⟩
  · rcases hcase x hx with hx | rfl
    · rw [hold hx]; exact hI.loc x hx
    · rw [Ar.add_new]; exact hl
  · rcases hcase x hx with hx | rfl
    · rw [hold hx] at h0 ⊢
      obtain ⟨q1, q2, q3, q4⟩ := hI.host x hx h0
      exact ⟨q1, hhas q2, by rw [hold q2]; exact q3, by rw [hold q2]; exact q4⟩
    · rw [Ar.add_new] at h0; exact absurd hh h0
  · rcases hcase x hx with hx | rfl
    · rw [hold hx] at ht ⊢
      obtain ⟨q1, q2, q3⟩ := hI.cont x hx (hne x hx hxe) ht
      exact ⟨hhas q1, by rw [hold q1]; exact q2, by rw [hold q1]; exact q3⟩
    · rw [Ar.add_new] at ht
      rcases hex with ⟨_, h⟩ | ⟨_, h⟩
      · exact absurd ht h
      · exact absurd h.symm hxe
  · rcases hcase x hx with hx | rfl
    · rw [hold hx] at hxe ⊢
      refine hI.nocont x hx ?_
      rcases hxe with e | e
      · rcases hex with ⟨h, _⟩ | ⟨_, h⟩
        · exact .inl (by rw [e, h])
        · exact absurd (by rw [e, h] at hx; exact hx) (Ar.new_no A)
      · exact .inr e
    · rw [Ar.add_new]; exact hc
  · rcases hcase x hx with hx | rfl
    · rw [hold hx] at h0 ⊢; exact hI.par x hx h0
    · rw [Ar.add_new] at h0; exact absurd hp h0
  · rcases hcase x hx with hx | rfl
    · rw [hold hx] at h0 ⊢; exact hI.kidk x hx h0
    · rw [Ar.add_new] at h0; exact absurd hk h0
  · rcases hcase x hx with hx | rfl
    · obtain ⟨q1, q2⟩ := hI.docK x hx
      rw [hold hx]; exact ⟨hhas q1, by rw [hold q1]; exact q2⟩
    · rw [Ar.add_new]
      rcases hd with ⟨q1, q2, _⟩ | ⟨q1, q2⟩
      · exact ⟨hhas q1, by rw [hold q1]; exact q2⟩
      · rw [q1, Ar.add_new]; exact ⟨hnew, q2⟩
  · rcases hcase x hx with hx | rfl
    · rw [hold hx] at h1 ⊢; exact hI.docS x hx h1
    · rw [Ar.add_new] at h1 ⊢
      rcases hd with ⟨_, _, q⟩ | ⟨q1, _⟩
      · exact absurd h1 q
      · exact q1
  · have := hI.inert0
    have h0 : 0 < A.inert.length := (List.getElem?_eq_some_iff.1 this).1
    simp only [Ar.add, List.getElem?_append, h0, if_true]; exact this
  · rw [Ar.add_inertAt hI.wf.inert] at h0 ⊢
    obtain ⟨q1, q2, q3, q4⟩ := hI.inert d h0
    exact ⟨hhas q1, hhas q2, by rw [hold q2]; exact q3, by rw [Ar.add_inertAt hI.wf.inert]; exact q4⟩

/-- A change of fields that are no links, at one node. -/
theorem Ar.InvX.fields {A A' : Ar} {ex : Int} (hI : A.InvX ex) (hn : A'.n = A.n) (hi : A'.inert = A.inert)
    (h : ∀ x, A.has x → (A'.get x).parent = (A.get x).parent ∧ (A'.get x).kids = (A.get x).kids ∧ (A'.get x).host = (A.get x).host ∧ (A'.get x).contents = (A.get x).contents ∧ (A'.get x).kind = (A.get x).kind ∧ (A'.get x).space = (A.get x).space ∧ (A'.get x).name = (A.get x).name ∧ (A'.get x).Local ∧
      ((A'.get x).doc = (A.get x).doc ∨ (A.has (A'.get x).doc ∧ (A.get (A'.get x).doc).kind = 1 ∧ (A.get x).kind ≠ 1))) : A'.InvX ex := by
  have hh : ∀ x, A'.has x ↔ A.has x := fun x => by unfold Ar.has; rw [hn]
  have ht : ∀ x, A.has x → (isTemplate (A'.get x) ↔ isTemplate (A.get x)) := fun x hx => by
    obtain ⟨_, _, _, _, h5, h6, h7, _⟩ := h x hx
    unfold isTemplate; rw [h5, h6, h7]
  have hin : ∀ d, A'.inertAt d = A.inertAt d := fun d => by unfold Ar.inertAt; rw [hi]
  refine ⟨hI.wf.fields hn (by rw [hi]) (fun x hx => ⟨(h x hx).1, (h x hx).2.1, (h x hx).2.2.1⟩), fun x hx => ?_, fun x hx h0 => ?_, fun x hx hxe h0 => ?_, fun x hx hxe => ?_, fun x hx h0 => ?_, fun x hx h0 => ?_, fun x hx => ?_, fun x hx h1 => ?_, by rw [hi]; exact hI.inert0, fun d h0 => ?_⟩
  all_goals try have hx' := (hh x).1 hx
  · exact (h x hx').2.2.2.2.2.2.2.1
  · obtain ⟨g1, g2, g3, g4, g5, g6, g7, g8, g9⟩ := h x hx'
    rw [g3] at h0 ⊢
    obtain ⟨q1, q2, q3, q4⟩ := hI.host x hx' h0
    exact ⟨by rw [g5]; exact q1, (hh _).2 q2, (ht _ q2).2 q3, by rw [(h _ q2).2.2.2.1]; exact q4⟩
  · obtain ⟨g1, g2, g3, g4, g5, g6, g7, g8, g9⟩ := h x hx'
    rw [g4]
    obtain ⟨q1, q2, q3⟩ := hI.cont x hx' hxe ((ht x hx').1 h0)
    exact ⟨(hh _).2 q1, by rw [(h _ q1).2.2.2.2.1]; exact q2, by rw [(h _ q1).2.2.1]; exact q3⟩
  · rw [(h x hx').2.2.2.1]
    exact hI.nocont x hx' (hxe.imp id (fun e q => e ((ht x hx').2 q)))
  · obtain ⟨g1, g2, g3, g4, g5, g6, g7, g8, g9⟩ := h x hx'
    rw [g1] at h0; rw [g5]; exact hI.par x hx' h0
  · obtain ⟨g1, g2, g3, g4, g5, g6, g7, g8, g9⟩ := h x hx'
    rw [g2] at h0; rw [g5]; exact hI.kidk x hx' h0
  · obtain ⟨g1, g2, g3, g4, g5, g6, g7, g8, g9⟩ := h x hx'
    rcases g9 with g9 | ⟨g9, g10, _⟩
    · obtain ⟨q1, q2⟩ := hI.docK x hx'
      rw [g9]; exact ⟨(hh _).2 q1, by rw [(h _ q1).2.2.2.2.1]; exact q2⟩
    · exact ⟨(hh _).2 g9, by rw [(h _ g9).2.2.2.2.1]; exact g10⟩
  · obtain ⟨g1, g2, g3, g4, g5, g6, g7, g8, g9⟩ := h x hx'
    rw [g5] at h1
    rcases g9 with g9 | ⟨_, _, g9⟩
    · rw [g9]; exact hI.docS x hx' h1
    · exact absurd h1 g9
  · rw [hin] at h0 ⊢
    obtain ⟨q1, q2, q3, q4⟩ := hI.inert d h0
    exact ⟨(hh _).2 q1, (hh _).2 q2, by rw [(h _ q2).2.2.2.2.1]; exact q3, by rw [hin]; exact q4⟩

/-- The same at 'mod'. -/
theorem Ar.InvX.modF {A : Ar} {ex : Int} (hI : A.InvX ex) {x : Int} (hx : A.has x) (f : Nd → Nd) (hf : (f (A.get x)).parent = (A.get x).parent ∧ (f (A.get x)).kids = (A.get x).kids ∧ (f (A.get x)).host = (A.get x).host ∧ (f (A.get x)).contents = (A.get x).contents ∧ (f (A.get x)).kind = (A.get x).kind ∧ (f (A.get x)).space = (A.get x).space ∧ (f (A.get x)).name = (A.get x).name)
    (hl : (f (A.get x)).Local) (hd : (f (A.get x)).doc = (A.get x).doc ∨ (A.has (f (A.get x)).doc ∧ (A.get (f (A.get x)).doc).kind = 1 ∧ (A.get x).kind ≠ 1)) : (A.mod x f).InvX ex := by
  refine hI.fields (Ar.mod_n _ _ _) rfl (fun y hy => ?_)
  rw [Ar.mod_get f hx hy]
  by_cases e : y = x
  · subst e; rw [if_pos rfl]
    exact ⟨hf.1, hf.2.1, hf.2.2.1, hf.2.2.2.1, hf.2.2.2.2.1, hf.2.2.2.2.2.1, hf.2.2.2.2.2.2, hl, hd⟩
  · rw [if_neg e]
    exact ⟨rfl, rfl, rfl, rfl, rfl, rfl, rfl, hI.loc y hy, .inl rfl⟩

theorem local_doc (q : Bool) (d : Int) : Nd.Local { zeroNd with kind := 1, quirks := q, doc := d } :=
  ⟨by simp, by simp, by simp [inSpaces, zeroNd], by simp [attrSpaces, zeroNd], rfl, by simp [zeroNd], fun _ => ⟨rfl, rfl⟩, fun _ _ => rfl, fun _ => ⟨rfl, rfl⟩, fun _ _ => rfl, fun h => absurd rfl h⟩

theorem Ar.InvX.document {A : Ar} {ex : Int} (hI : A.InvX ex) (q : Bool) : (A.document q).InvX ex := by
  refine hI.added rfl rfl rfl rfl (local_doc q _) (.inr ⟨rfl, rfl⟩) (.inl ⟨rfl, ?_⟩)
  exact fun h => absurd h.1 (by simp)

theorem set2_get {l : List Int} {i j k : Nat} {v u : Int} (hi : i < l.length) (hj : j < l.length) : ((l.set i v).set j u)[k]?.getD 0 = if k = j then u else if k = i then v else l[k]?.getD 0 := by
  simp only [List.getElem?_set, List.length_set]
  by_cases h1 : j = k
  · subst h1; simp [hj]
  · rw [if_neg h1, if_neg (Ne.symm h1)]
    by_cases h2 : i = k
    · subst h2; simp [hi]
    · rw [if_neg h2, if_neg (Ne.symm h2)]

theorem Ar.InvX.inertOf {A : Ar} {ex d : Int} (hI : A.InvX ex) (hd : A.has d) : (A.inertOf d).2.InvX ex := by
  unfold Ar.inertOf
  by_cases h0 : A.inertAt d ≠ 0
  · rw [if_pos h0]; exact hI
  · rw [if_neg h0]
    have hD := hI.document false
    have hg : ∀ x, ({ A.document false with inert := ((A.document false).inert.set d.toNat (A.n + 1)).set (A.n + 1).toNat (A.n + 1) } : Ar).get x = (A.document false).get x := fun x => rfl
    have hlen : (A.document false).inert.length = A.ns.length + 2 := by simp [Ar.document, Ar.add, hI.wf.inert]
    have hdl : d.toNat < (A.document false).inert.length := by have := hd.2; unfold Ar.n at this; omega
    have hnl : (A.n + 1).toNat < (A.document false).inert.length := by unfold Ar.n; omega
    have hin : ∀ e : Int, ({ A.document false with inert := ((A.document false).inert.set d.toNat (A.n + 1)).set (A.n + 1).toNat (A.n + 1) } : Ar).inertAt e = if e.toNat = (A.n + 1).toNat then A.n + 1 else if e.toNat = d.toNat then A.n + 1 else (A.document false).inertAt e := fun e => set2_get hdl hnl
    have hn0 : 0 ≤ A.n := by unfold Ar.n; omega
    have hd1 := hd.1
    have hnewhas : (A.document false).has (A.n + 1) := (Ar.add_has _ _ _).2 (.inr rfl)
    have hdhas : (A.document false).has d := (Ar.add_has _ _ _).2 (.inl hd)
    have hnewk : ((A.document false).get (A.n + 1)).kind = 1 := by rw [Ar.document, Ar.add_new]
    refine ⟨hD.wf.fields rfl (by simp) (fun x _ => ⟨rfl, rfl, rfl⟩), hD.loc, hD.host, hD.cont, hD.nocont, hD.par, hD.kidk, hD.docK, hD.docS, ?_, fun e he => ?_⟩
    · have := hD.inert0
      simp only [List.getElem?_set, List.length_set]
      rw [if_neg (by omega), if_neg (by omega)]; exact this
    · rw [hin] at he ⊢
      by_cases e1 : e.toNat = (A.n + 1).toNat
      · rw [if_pos e1]
        have : e = A.n + 1 := by omega
        subst this
        exact ⟨hnewhas, hnewhas, hnewk, by rw [hin, if_pos rfl]⟩
      · rw [if_neg e1] at he ⊢
        by_cases e2 : e.toNat = d.toNat
        · rw [if_pos e2]
          have : e = d := by omega
          subst this
          exact ⟨hdhas, hnewhas, hnewk, by rw [hin, if_pos rfl]⟩
        · rw [if_neg e2] at he ⊢
          obtain ⟨q1, q2, q3, q4⟩ := hD.inert e he
          refine ⟨q1, q2, q3, ?_⟩
          rw [hin]
          by_cases e3 : ((A.document false).inertAt e).toNat = (A.n + 1).toNat
          · rw [if_pos e3]; have := q2.1; omega
          · rw [if_neg e3]
            by_cases e4 : ((A.document false).inertAt e).toNat = d.toNat
            · exfalso
              have hde : (A.document false).inertAt e = d := by have := q2.1; omega
              rw [hde] at q4
              rw [Ar.document, Ar.add_inertAt hI.wf.inert] at q4
              apply h0; rw [q4]; omega
            · rw [if_neg e4]; exact q4

end Go.Proofs.Ytnfdcfagdidmhaa
