/-
  The invariant is kept by cut, put and by the creation of an element. No program here.
-/
import Derived.Test.YtnfdcfagdidmhaaArT
namespace Go.Proofs.Ytnfdcfagdidmhaa
set_option linter.unusedVariables false

/-- A node with other links. -/
abbrev Nd.re (n : Nd) (ks : List Int) (p : Int) : Nd := { n with kids := ks, parent := p }

theorem Ar.cut_get {A : Ar} {ex : Int} (hI : A.InvX ex) {h p : Int} (hh : A.has h) (hp : A.has p) :
    (A.cut h).get p = (A.get p).re (if p = (A.get h).parent then without (A.get p).kids h else (A.get p).kids) (if p = h then 0 else (A.get p).parent) := by
  by_cases hz : (A.get h).parent = 0
  · have hc : A.cut h = A := by unfold Ar.cut; rw [if_pos hz]
    have e1 : (if p = (A.get h).parent then without (A.get p).kids h else (A.get p).kids) = (A.get p).kids := if_neg (by rw [hz]; intro e; rw [e] at hp; exact has_zero A hp)
    have e2 : (if p = h then 0 else (A.get p).parent) = (A.get p).parent := by
      by_cases e : p = h
      · rw [if_pos e, e, hz]
      · rw [if_neg e]
    rw [hc, e1, e2]
  · have hpp := (hI.wf.link h hh hz).1
    have hne : (A.get h).parent ≠ h := fun e => by
      obtain ⟨l, hl⟩ := hI.wf.way h hh
      cases l with
      | nil => exact has_zero A (by have e0 : h = 0 := hl; rw [← e0]; exact hh)
      | cons y l =>
        have hl0 := hl
        have h2 := hl.2.2
        have hup : upStep A true h = h := by simp only [upStep, Ar.up, if_true]; rw [if_pos hz, e]
        rw [hup] at h2
        have := way_unique h2 hl0
        have := congrArg List.length this
        simp at this
    unfold Ar.cut
    rw [if_neg hz, Ar.mod_get _ ((Ar.mod_has _ _ _ _).2 hh) ((Ar.mod_has _ _ _ _).2 hp), Ar.mod_get _ hpp hp, Ar.mod_get _ hpp hh]
    by_cases e1 : p = h
    · subst e1
      rw [if_pos rfl, if_pos rfl, if_neg (Ne.symm hne), if_neg (Ne.symm hne)]
    · rw [if_neg e1, if_neg e1]
      by_cases e2 : p = (A.get h).parent
      · subst e2; rw [if_pos rfl, if_pos rfl]
      · rw [if_neg e2, if_neg e2]

theorem Ar.cut_inert (A : Ar) (h : Int) : (A.cut h).inert = A.inert := by
  unfold Ar.cut; split <;> rfl

/-- A change of links: what is left to show. -/
theorem Ar.InvX.links {A A' : Ar} {ex : Int} (hI : A.InvX ex) (hw : A'.WF) (hn : A'.n = A.n) (hi : A'.inert = A.inert)
    (h : ∀ x, A.has x → ∃ ks p, A'.get x = (A.get x).re ks p ∧ (p ≠ 0 → (A.get x).kind ≠ 1 ∧ (A.get x).kind ≠ 2) ∧ (ks ≠ [] → (A.get x).kind = 1 ∨ (A.get x).kind = 2 ∨ (A.get x).kind = 4)) : A'.InvX ex := by
  have hh : ∀ x, A'.has x ↔ A.has x := fun x => by unfold Ar.has; rw [hn]
  have hin : ∀ d, A'.inertAt d = A.inertAt d := fun d => by unfold Ar.inertAt; rw [hi]
  have hkind : ∀ x, A.has x → (A'.get x).kind = (A.get x).kind := fun x hx => by obtain ⟨ks, p, e, _⟩ := h x hx; rw [e]
  have hcont : ∀ x, A.has x → (A'.get x).contents = (A.get x).contents := fun x hx => by obtain ⟨ks, p, e, _⟩ := h x hx; rw [e]
  have hhost : ∀ x, A.has x → (A'.get x).host = (A.get x).host := fun x hx => by obtain ⟨ks, p, e, _⟩ := h x hx; rw [e]
  have hdoc : ∀ x, A.has x → (A'.get x).doc = (A.get x).doc := fun x hx => by obtain ⟨ks, p, e, _⟩ := h x hx; rw [e]
  have ht : ∀ x, A.has x → (isTemplate (A'.get x) ↔ isTemplate (A.get x)) := fun x hx => by
    obtain ⟨ks, p, e, _⟩ := h x hx
    rw [e]; rfl
  refine ⟨hw, fun x hx => ?_, fun x hx h0 => ?_, fun x hx hxe h0 => ?_, fun x hx hxe => ?_, fun x hx h0 => ?_, fun x hx h0 => ?_, fun x hx => ?_, fun x hx h1 => ?_, by rw [hi]; exact hI.inert0, fun d h0 => ?_⟩
  all_goals try have hx' := (hh x).1 hx
  · obtain ⟨ks, p, e, _⟩ := h x hx'
    have := hI.loc x hx'
    rw [e]; exact ⟨this.k1, this.k6, this.sp, this.at1, this.at2, this.at3, this.el, this.nm, this.ps, this.da, this.qu⟩
  · rw [hhost x hx'] at h0 ⊢
    obtain ⟨q1, q2, q3, q4⟩ := hI.host x hx' h0
    exact ⟨by rw [hkind x hx']; exact q1, (hh _).2 q2, (ht _ q2).2 q3, by rw [hcont _ q2]; exact q4⟩
  · rw [hcont x hx']
    obtain ⟨q1, q2, q3⟩ := hI.cont x hx' hxe ((ht x hx').1 h0)
    exact ⟨(hh _).2 q1, by rw [hkind _ q1]; exact q2, by rw [hhost _ q1]; exact q3⟩
  · rw [hcont x hx']
    exact hI.nocont x hx' (hxe.imp id (fun e q => e ((ht x hx').2 q)))
  · obtain ⟨ks, p, e, h1, _⟩ := h x hx'
    rw [e] at h0 ⊢; exact h1 h0
  · obtain ⟨ks, p, e, _, h2⟩ := h x hx'
    rw [e] at h0 ⊢; exact h2 h0
  · obtain ⟨q1, q2⟩ := hI.docK x hx'
    rw [hdoc x hx']; exact ⟨(hh _).2 q1, by rw [hkind _ q1]; exact q2⟩
  · rw [hkind x hx'] at h1
    rw [hdoc x hx']; exact hI.docS x hx' h1
  · rw [hin] at h0 ⊢
    obtain ⟨q1, q2, q3, q4⟩ := hI.inert d h0
    exact ⟨(hh _).2 q1, (hh _).2 q2, by rw [hkind _ q2]; exact q3, by rw [hin]; exact q4⟩

theorem Ar.InvX.cut {A : Ar} {ex : Int} (hI : A.InvX ex) {h : Int} (hh : A.has h) : (A.cut h).InvX ex := by
  by_cases hz : (A.get h).parent = 0
  · have hc : A.cut h = A := by unfold Ar.cut; rw [if_pos hz]
    rw [hc]; exact hI
  have hg : ∀ {p}, A.has p → _ := fun {p} hp => Ar.cut_get hI hh hp
  have hhas : ∀ x, (A.cut h).has x ↔ A.has x := Ar.cut_has A h
  have hhost : (A.get h).host = 0 := by
    by_cases e : (A.get h).host = 0
    · exact e
    · exact absurd (hI.host h hh e).1 (hI.par h hh hz).2
  refine hI.links ⟨fun x hx hp => ?_, fun p hp k hk => ?_, fun p hp => ?_, fun x hx => ?_, ?_⟩ (Ar.cut_n A h) (Ar.cut_inert A h) (fun x hx => ?_)
  · have hx' := (hhas x).1 hx
    rw [hg hx'] at hp ⊢
    dsimp only [Nd.re] at hp ⊢
    by_cases e : x = h
    · rw [if_pos e] at hp; exact absurd rfl hp
    · rw [if_neg e] at hp ⊢
      obtain ⟨q1, q2, q3⟩ := hI.wf.link x hx' hp
      refine ⟨(hhas _).2 q1, ?_, ?_⟩
      · rw [hg q1]; dsimp only [Nd.re]
        split
        · exact List.mem_filter.2 ⟨q2, by simpa using e⟩
        · exact q2
      · rw [hg q1]; dsimp only [Nd.re]
        split
        · exact q3.filter _
        · exact q3
  · have hp' := (hhas p).1 hp
    rw [hg hp'] at hk
    dsimp only [Nd.re] at hk
    by_cases e : p = (A.get h).parent
    · rw [if_pos e] at hk
      obtain ⟨k1, k2⟩ := List.mem_filter.1 hk
      obtain ⟨q1, q2⟩ := hI.wf.kids p hp' k k1
      exact ⟨(hhas _).2 q1, by rw [hg q1]; dsimp only [Nd.re]; rw [if_neg (by simpa using k2)]; exact q2⟩
    · rw [if_neg e] at hk
      obtain ⟨q1, q2⟩ := hI.wf.kids p hp' k hk
      exact ⟨(hhas _).2 q1, by rw [hg q1]; dsimp only [Nd.re]; rw [if_neg (fun e2 => e (by rw [← q2, e2]))]; exact q2⟩
  · have hp' := (hhas p).1 hp
    rw [hg hp']
    dsimp only [Nd.re]
    split
    · exact (hI.wf.nodup p hp').filter _
    · exact hI.wf.nodup p hp'
  · obtain ⟨l, hl⟩ := hI.wf.way x ((hhas x).1 hx)
    refine way_relink (node := h) (p := 0) (lp := []) (fun y hy => (hhas y).2 hy) (fun y hy hn => ?_) ?_ rfl (by simp) hl
    · simp [upStep, Ar.up, hg hy, hn, Nd.re]
    · simp [upStep, Ar.up, hg hh, hhost, Nd.re]
  · rw [Ar.cut_inert, Ar.cut_ns]; exact hI.wf.inert
  · refine ⟨_, _, hg hx, fun hp => ?_, fun hk => ?_⟩
    · by_cases e : x = h
      · rw [if_pos e] at hp; exact absurd rfl hp
      · rw [if_neg e] at hp; exact hI.par x hx hp
    · refine hI.kidk x hx (fun e => hk ?_)
      rw [e]; split <;> rfl

theorem putIn_perm {l : List Int} {node before : Int} (hn : l.Nodup) (hb : (before = 0 ∧ (0 : Int) ∉ l) ∨ (before ≠ 0 ∧ before ∈ l)) : (putIn l node before).Perm (node :: l) := by
  rcases hb with ⟨rfl, h0⟩ | ⟨h0, hm⟩
  · rw [putIn_zero h0]; exact (List.perm_append_comm).trans (by simp)
  · obtain ⟨i, hi, e⟩ := List.getElem_of_mem hm
    rw [putIn_at h0 hn (i := i) (by rw [List.getElem?_eq_getElem hi, e])]
    have := @List.perm_middle _ node (l.take i) (l.drop i)
    rwa [List.take_append_drop] at this

theorem way_head {A : Ar} {up : Int → Int} {l : List Int} {h : Int} (hw : A.Way up h l) (hh : A.has h) : h ∈ l := by
  cases l with
  | nil => have e : h = 0 := hw; rw [e] at hh; exact absurd hh (has_zero A)
  | cons x l => rw [hw.1]; simp

theorem Ar.place_get {A : Ar} {parent node before p : Int} (hpar : A.has parent) (hnode : A.has node) (hp : A.has p) (hne : parent ≠ node) :
    (A.place parent node before).get p = ((A.cut node).get p).re (if p = parent then putIn ((A.cut node).get p).kids node before else ((A.cut node).get p).kids) (if p = node then parent else ((A.cut node).get p).parent) := by
  unfold Ar.place
  rw [Ar.mod_get _ ((Ar.mod_has _ _ _ _).2 ((Ar.cut_has _ _ _).2 hnode)) ((Ar.mod_has _ _ _ _).2 ((Ar.cut_has _ _ _).2 hp)), Ar.mod_get _ ((Ar.cut_has _ _ _).2 hpar) ((Ar.cut_has _ _ _).2 hp), Ar.mod_get _ ((Ar.cut_has _ _ _).2 hpar) ((Ar.cut_has _ _ _).2 hnode)]
  by_cases e1 : p = node
  · subst e1
    rw [if_pos rfl, if_pos rfl, if_neg (Ne.symm hne), if_neg (Ne.symm hne)]
  · rw [if_neg e1, if_neg e1]
    by_cases e2 : p = parent
    · subst e2; rw [if_pos rfl, if_pos rfl]
    · rw [if_neg e2, if_neg e2]
theorem Ar.place_n (A : Ar) (parent node before : Int) : (A.place parent node before).n = A.n := by unfold Ar.place; rw [Ar.mod_n, Ar.mod_n, Ar.cut_n]
theorem Ar.place_inert (A : Ar) (parent node before : Int) : (A.place parent node before).inert = A.inert := by show (A.cut node).inert = _; exact Ar.cut_inert A node

theorem Ar.InvX.place {A : Ar} {ex : Int} (hI : A.InvX ex) {parent node before : Int} (hpar : A.has parent) (hnode : A.has node) (hb : before ≠ 0 → A.has before ∧ before ≠ node ∧ (A.get before).parent = parent)
    (hk : (A.get parent).kind = 1 ∨ (A.get parent).kind = 2 ∨ (A.get parent).kind = 4) (hkn : (A.get node).kind ≠ 1 ∧ (A.get node).kind ≠ 2) (hc : A.contains node parent = false) : (A.place parent node before).InvX ex := by
  have hno : node ∉ A.waySt true parent := fun h => by simp [Ar.contains, hpar, hnode, h] at hc
  have hlp := hI.wf.wayOf hpar
  have hne : parent ≠ node := fun e => hno (by rw [← e]; exact way_head hlp hpar)
  have hB := hI.cut hnode
  have hbh : ∀ x, (A.cut node).has x ↔ A.has x := Ar.cut_has A node
  have hgB : ∀ {p}, A.has p → _ := fun {p} hp => Ar.cut_get hI hnode hp
  have hg : ∀ {p}, A.has p → _ := fun {p} hp => Ar.place_get (before := before) hpar hnode hp hne
  have hhas : ∀ x, (A.place parent node before).has x ↔ A.has x := fun x => by unfold Ar.has; rw [Ar.place_n]
  have hBp : ((A.cut node).get node).parent = 0 := by rw [hgB hnode]; simp
  have hBpo : ∀ {x}, A.has x → x ≠ node → ((A.cut node).get x).parent = (A.get x).parent := fun hx e => by rw [hgB hx]; simp [e]
  have hnd := hB.wf.nodup parent ((hbh _).2 hpar)
  have hnot : ∀ p, A.has p → node ∉ ((A.cut node).get p).kids := fun p hp hm => by
    have := (hB.wf.kids p ((hbh _).2 hp) node hm).2
    rw [hBp] at this; rw [← this] at hp; exact has_zero A hp
  have hperm : (putIn ((A.cut node).get parent).kids node before).Perm (node :: ((A.cut node).get parent).kids) := by
    refine putIn_perm hnd ?_
    by_cases h0 : before = 0
    · exact .inl ⟨h0, fun hm => has_zero A ((hbh _).1 (hB.wf.kids parent ((hbh _).2 hpar) 0 hm).1)⟩
    · obtain ⟨q1, q2, q3⟩ := hb h0
      refine .inr ⟨h0, ?_⟩
      have h4 := (hB.wf.link before ((hbh _).2 q1) (by rw [hBpo q1 q2, q3]; intro e; rw [e] at hpar; exact has_zero A hpar)).2.1
      rwa [hBpo q1 q2, q3] at h4
  have hpz : parent ≠ 0 := fun e => by rw [e] at hpar; exact has_zero A hpar
  have hhost : (A.get node).host = 0 := by
    by_cases e : (A.get node).host = 0
    · exact e
    · exact absurd (hI.host node hnode e).1 hkn.2
  refine hB.links (A' := A.place parent node before) ⟨fun x hx hp => ?_, fun p hp k hkk => ?_, fun p hp => ?_, fun x hx => ?_, ?_⟩ (by rw [Ar.place_n, Ar.cut_n]) (by rw [Ar.place_inert, Ar.cut_inert]) (fun x hx => ?_)
  · have hx' := (hhas x).1 hx
    rw [hg hx'] at hp ⊢
    dsimp only [Nd.re] at hp ⊢
    by_cases e : x = node
    · rw [if_pos e] at hp ⊢
      refine ⟨(hhas _).2 hpar, ?_, ?_⟩
      · rw [hg hpar, e]; dsimp only [Nd.re]; rw [if_pos rfl]; exact hperm.mem_iff.2 (by simp)
      · rw [hg hpar]; dsimp only [Nd.re]; rw [if_pos rfl]; exact hperm.nodup_iff.2 (List.nodup_cons.2 ⟨hnot parent hpar, hnd⟩)
    · rw [if_neg e] at hp ⊢
      obtain ⟨q1, q2, q3⟩ := hB.wf.link x ((hbh _).2 hx') hp
      have q1' := (hbh _).1 q1
      refine ⟨(hhas _).2 q1', ?_, ?_⟩
      · rw [hg q1']; dsimp only [Nd.re]
        split
        · rename_i e2; rw [e2] at q2 ⊢; exact hperm.mem_iff.2 (List.mem_cons_of_mem _ q2)
        · exact q2
      · rw [hg q1']; dsimp only [Nd.re]
        split
        · rename_i e2; rw [e2]; exact hperm.nodup_iff.2 (List.nodup_cons.2 ⟨hnot parent hpar, hnd⟩)
        · exact q3
  · have hp' := (hhas p).1 hp
    rw [hg hp'] at hkk
    dsimp only [Nd.re] at hkk
    have hold : k ∈ ((A.cut node).get p).kids → (A.place parent node before).has k ∧ ((A.place parent node before).get k).parent = p := fun hm => by
      obtain ⟨q1, q2⟩ := hB.wf.kids p ((hbh _).2 hp') k hm
      have q1' := (hbh _).1 q1
      refine ⟨(hhas _).2 q1', ?_⟩
      rw [hg q1']; dsimp only [Nd.re]
      rw [if_neg (fun e => hnot p hp' (by have hm' := hm; rw [e] at hm'; exact hm'))]; exact q2
    by_cases e : p = parent
    · rw [if_pos e] at hkk
      subst e
      rcases List.mem_cons.1 (hperm.mem_iff.1 hkk) with e2 | hm
      · rw [e2]
        refine ⟨(hhas _).2 hnode, ?_⟩
        rw [hg hnode]; simp
      · exact hold hm
    · rw [if_neg e] at hkk; exact hold hkk
  · have hp' := (hhas p).1 hp
    rw [hg hp']
    dsimp only [Nd.re]
    split
    · rename_i e; rw [e]; exact hperm.nodup_iff.2 (List.nodup_cons.2 ⟨hnot parent hpar, hnd⟩)
    · exact hB.wf.nodup p ((hbh _).2 hp')
  · obtain ⟨l, hl⟩ := hI.wf.way x ((hhas x).1 hx)
    refine way_relink (node := node) (p := parent) (lp := A.waySt true parent) (fun y hy => (hhas y).2 hy) (fun y hy hn => ?_) ?_ hlp hno hl
    · simp only [upStep, Ar.up, hg hy, hgB hy, hn, Nd.re]; simp
    · simp [upStep, Ar.up, hg hnode, hpz, Nd.re]
  · have := Ar.place_n A parent node before
    unfold Ar.n at this
    rw [Ar.place_inert, hI.wf.inert]; omega
  · have hx' := (hbh _).1 hx
    refine ⟨_, _, hg hx', fun hp => ?_, fun hkk => ?_⟩
    · by_cases e : x = node
      · rw [e, hgB hnode]; exact hkn
      · rw [if_neg e] at hp; exact hB.par x hx hp
    · by_cases e : x = parent
      · rw [e, hgB hpar]; exact hk
      · rw [if_neg e] at hkk; exact hB.kidk x hx hkk

end Go.Proofs.Ytnfdcfagdidmhaa
