/-
  The invariant is kept by every call. No program here.
-/
import Derived.Test.YtnfdcfagdidmhaaArU
namespace Go.Proofs.Ytnfdcfagdidmhaa
set_option linter.unusedVariables false

theorem onceStep_mem {out : List AttrD} {x y : AttrD} (h : y ∈ onceStep out x) : y ∈ out ∨ y = x := by
  unfold onceStep at h
  split at h
  · exact .inl h
  · rcases List.mem_append.1 h with h | h
    · exact .inl h
    · exact .inr (by simpa using h)
theorem onceF_mem : ∀ {l out : List AttrD} {y : AttrD}, y ∈ l.foldl onceStep out → y ∈ out ∨ y ∈ l
  | [], out, y, h => .inl h
  | x :: l, out, y, h => by
    rcases onceF_mem (l := l) h with h | h
    · rcases onceStep_mem h with h | h
      · exact .inl h
      · exact .inr (by simp [h])
    · exact .inr (by simp [h])
theorem onceL_mem {l : List AttrD} {y : AttrD} (h : y ∈ onceL l) : y ∈ l := by
  rcases onceF_mem h with h | h
  · simp at h
  · exact h
theorem onceF_len : ∀ (l acc : List AttrD), (l.foldl onceStep acc).length ≤ acc.length + l.length
  | [], acc => by simp
  | x :: l, acc => by
    have := onceF_len l (onceStep acc x)
    have h2 : (onceStep acc x).length ≤ acc.length + 1 := by unfold onceStep; split <;> simp
    simp only [List.foldl_cons, List.length_cons]; omega
theorem onceL_len (l : List AttrD) : (onceL l).length ≤ l.length := by have := onceF_len l []; simpa [onceL] using this

/-- No name twice. -/
def NoTwice (l : List AttrD) : Prop := l.Pairwise (fun a b => sameName b a = false)
theorem onceF_no : ∀ {l acc : List AttrD}, NoTwice acc → NoTwice (l.foldl onceStep acc)
  | [], acc, h => h
  | x :: l, acc, h => by
    refine onceF_no (l := l) ?_
    unfold onceStep
    split
    · exact h
    · rename_i hn
      refine List.pairwise_append.2 ⟨h, by simp, fun a ha b hb => ?_⟩
      simp at hb hn
      subst hb
      have := hn a.1 a.2.1 a.2.2 ha
      simpa using this
theorem onceF_id : ∀ {l acc : List AttrD}, NoTwice (acc ++ l) → l.foldl onceStep acc = acc ++ l
  | [], acc, _ => by simp
  | x :: l, acc, h => by
    have h1 : onceStep acc x = acc ++ [x] := by
      unfold onceStep
      rw [if_neg]
      simp only [List.any_eq_true, not_exists, not_and, Bool.not_eq_true]
      intro a ha
      exact (List.pairwise_append.1 h).2.2 a ha x (by simp)
    rw [List.foldl_cons, h1, onceF_id (by simpa using h)]
    simp
theorem onceL_idem (l : List AttrD) : onceL (onceL l) = onceL l := by
  have h : NoTwice (onceL l) := onceF_no (l := l) (acc := []) List.Pairwise.nil
  have := onceF_id (l := onceL l) (acc := []) (by simpa using h)
  simpa [onceL] using this

theorem Ar.inertOf_get {A : Ar} {d x : Int} (hx : A.has x) : (A.inertOf d).2.get x = A.get x ∧ (A.inertOf d).2.has x := by
  unfold Ar.inertOf
  split
  · exact ⟨rfl, hx⟩
  · exact ⟨Ar.add_old _ hx, (Ar.add_has _ _ _).2 (.inl hx)⟩
theorem Ar.InvX.inertVal {A : Ar} {ex d : Int} (hI : A.InvX ex) (hd : A.has d) : (A.inertOf d).2.has (A.inertOf d).1 ∧ ((A.inertOf d).2.get (A.inertOf d).1).kind = 1 := by
  unfold Ar.inertOf
  split
  · rename_i h
    obtain ⟨_, q2, q3, _⟩ := hI.inert d h
    exact ⟨q2, q3⟩
  · exact ⟨(Ar.add_has _ _ _).2 (.inr rfl), by show ((A.document false).get (A.n + 1)).kind = 1; rw [Ar.document, Ar.add_new]⟩

theorem local_elem {d s : Int} {name : ByteArray} {l : List AttrD} (hs : inSpaces s) (ha : attrSpaces l) (hl : l.length ≤ 20) : Nd.Local { zeroNd with kind := 4, doc := d, space := s, name := name, attrs := onceL l } :=
  ⟨by simp, by simp, hs, fun a h => ha a (onceL_mem h), onceL_idem l, Nat.le_trans (onceL_len l) hl, fun h => absurd rfl h, fun h => absurd rfl h, fun _ => ⟨rfl, rfl⟩, fun _ _ => rfl, fun _ => rfl⟩
theorem local_frag {d h : Int} : Nd.Local { zeroNd with kind := 2, host := h, doc := d } :=
  ⟨by simp, by simp, by simp [inSpaces, zeroNd], by simp [attrSpaces, zeroNd], rfl, by simp [zeroNd], fun _ => ⟨rfl, rfl⟩, fun _ _ => rfl, fun _ => ⟨rfl, rfl⟩, fun _ _ => rfl, fun _ => rfl⟩

/-- The contents of a new template. -/
theorem Ar.InvX.contents {A : Ar} {ex i : Int} (hI : A.InvX ex) (hh : A.has ex) (ht : isTemplate (A.get ex)) (hi : A.has i) (hik : (A.get i).kind = 1) :
    ((A.add { zeroNd with kind := 2, host := ex, doc := i }).mod ex (fun x => { x with contents := A.n + 1 })).Inv := by
  obtain ⟨c, hc⟩ : ∃ c : Nd, c = { zeroNd with kind := 2, host := ex, doc := i } := ⟨_, rfl⟩
  rw [← hc]
  have hck : c.kids = [] := by rw [hc]; rfl
  have hcp : c.parent = 0 := by rw [hc]; rfl
  have hch : c.host = ex := by rw [hc]
  have hckind : c.kind = 2 := by rw [hc]
  have hcd : c.doc = i := by rw [hc]
  have hcc : c.contents = 0 := by rw [hc]; rfl
  have hcl : c.Local := by rw [hc]; exact local_frag
  have hnt : ¬ isTemplate c := fun h => by have := h.1; rw [hckind] at this; omega
  have hold : ∀ {x}, A.has x → (A.add c).get x = A.get x := fun hx => Ar.add_old c hx
  have hexh : (A.add c).has ex := (Ar.add_has _ _ _).2 (.inl hh)
  have hex0 : ex ≠ 0 := fun e => by rw [e] at hh; exact has_zero A hh
  have hne : A.n + 1 ≠ ex := fun e => by rw [← e] at hh; exact Ar.new_no A hh
  have hW := hI.wf.added (n := c) hck hcp (fun _ => by rw [hch]; exact hh)
  have hmh : ∀ x, ((A.add c).mod ex (fun x => { x with contents := A.n + 1 })).has x ↔ A.has x ∨ x = A.n + 1 := fun x => by rw [Ar.mod_has, Ar.add_has]
  have hgold : ∀ {x}, A.has x → x ≠ ex → ((A.add c).mod ex (fun x => { x with contents := A.n + 1 })).get x = A.get x := fun {x} hx e => by
    rw [Ar.mod_get _ hexh ((Ar.add_has _ _ _).2 (.inl hx)), if_neg e, hold hx]
  have hgex : ((A.add c).mod ex (fun x => { x with contents := A.n + 1 })).get ex = { A.get ex with contents := A.n + 1 } := by
    rw [Ar.mod_get _ hexh hexh, if_pos rfl, hold hh]
  have hgnew : ((A.add c).mod ex (fun x => { x with contents := A.n + 1 })).get (A.n + 1) = c := by
    rw [Ar.mod_get _ hexh ((Ar.add_has _ _ _).2 (.inr rfl)), if_neg hne, Ar.add_new]
  have hin : ∀ d, ((A.add c).mod ex (fun x => { x with contents := A.n + 1 })).inertAt d = A.inertAt d := fun d => Ar.add_inertAt hI.wf.inert c d
  have hkind : ∀ {x}, A.has x → (((A.add c).mod ex (fun x => { x with contents := A.n + 1 })).get x).kind = (A.get x).kind := fun {x} hx => by
    by_cases e : x = ex
    · rw [e, hgex]
    · rw [hgold hx e]
  have hT : ∀ {x}, A.has x → (isTemplate (((A.add c).mod ex (fun x => { x with contents := A.n + 1 })).get x) ↔ isTemplate (A.get x)) := fun {x} hx => by
    by_cases e : x = ex
    · rw [e, hgex]; exact Iff.rfl
    · rw [hgold hx e]
  have hWm : ((A.add c).mod ex (fun x => { x with contents := A.n + 1 })).WF := hW.fields (Ar.mod_n _ _ _) rfl (fun x hx => by
    rw [Ar.mod_get _ hexh hx]
    split
    · rename_i e; rw [e]; exact ⟨rfl, rfl, rfl⟩
    · exact ⟨rfl, rfl, rfl⟩)
  have hi0 := hI.inert0
  generalize hB : (A.add c).mod ex (fun x => { x with contents := A.n + 1 }) = B at *
  have hBi : B.inert[0]? = some 0 := by
    rw [← hB]
    have h0 : 0 < A.inert.length := (List.getElem?_eq_some_iff.1 hi0).1
    simp only [Ar.mod, Ar.add, List.getElem?_append, h0, if_true]; exact hi0
  clear hB
  refine ⟨hWm, fun x hx => ?_, fun x hx h0 => ?_, fun x hx hxe htx => ?_, fun x hx hxe => ?_, fun x hx h0 => ?_, fun x hx h0 => ?_, fun x hx => ?_, fun x hx h1 => ?_, hBi, fun d h0 => ?_⟩
  · rcases (hmh x).1 hx with hx' | rfl
    · by_cases e : x = ex
      · subst e; rw [hgex]
        have := hI.loc x hx'
        exact ⟨this.k1, this.k6, this.sp, this.at1, this.at2, this.at3, this.el, this.nm, this.ps, this.da, this.qu⟩
      · rw [hgold hx' e]; exact hI.loc x hx'
    · rw [hgnew]; exact hcl
  · rcases (hmh x).1 hx with hx' | rfl
    · have hhx : (B.get x).host = (A.get x).host := by
        by_cases e : x = ex
        · subst e; rw [hgex]
        · rw [hgold hx' e]
      rw [hhx] at h0 ⊢
      obtain ⟨q1, q2, q3, q4⟩ := hI.host x hx' h0
      have hn : (A.get x).host ≠ ex := fun e => by
        rw [e, hI.nocont ex hh (.inl rfl)] at q4
        rw [← q4] at hx'; exact has_zero A hx'
      exact ⟨by rw [hkind hx']; exact q1, (hmh _).2 (.inl q2), (hT q2).2 q3, by rw [hgold q2 hn]; exact q4⟩
    · rw [hgnew, hch]
      exact ⟨hckind, (hmh _).2 (.inl hh), (hT hh).2 ht, by rw [hgex]⟩
  · rcases (hmh x).1 hx with hx' | rfl
    · by_cases e : x = ex
      · subst e; rw [hgex]
        dsimp only
        exact ⟨(hmh _).2 (.inr rfl), by rw [hgnew]; exact hckind, by rw [hgnew]; exact hch⟩
      · rw [hgold hx' e]
        obtain ⟨q1, q2, q3⟩ := hI.cont x hx' e ((hT hx').1 htx)
        have hnc : (A.get x).contents ≠ ex := fun e2 => by
          rw [e2] at q2; have := ht.1; omega
        exact ⟨(hmh _).2 (.inl q1), by rw [hgold q1 hnc]; exact q2, by rw [hgold q1 hnc]; exact q3⟩
    · rw [hgnew] at htx; exact absurd htx hnt
  · rcases (hmh x).1 hx with hx' | rfl
    · have hxe' : ¬ isTemplate (A.get x) := by
        rcases hxe with e | e
        · rw [e] at hx'; exact absurd hx' (has_zero A)
        · exact fun q => e ((hT hx').2 q)
      have e : x ≠ ex := fun e => hxe' (by rw [e]; exact ht)
      rw [hgold hx' e]; exact hI.nocont x hx' (.inr hxe')
    · rw [hgnew]; exact hcc
  · rcases (hmh x).1 hx with hx' | rfl
    · rw [hkind hx']
      refine hI.par x hx' (fun e => h0 ?_)
      by_cases e2 : x = ex
      · subst e2; rw [hgex]; exact e
      · rw [hgold hx' e2]; exact e
    · rw [hgnew] at h0; exact absurd hcp h0
  · rcases (hmh x).1 hx with hx' | rfl
    · rw [hkind hx']
      refine hI.kidk x hx' (fun e => h0 ?_)
      by_cases e2 : x = ex
      · subst e2; rw [hgex]; exact e
      · rw [hgold hx' e2]; exact e
    · rw [hgnew] at h0; exact absurd hck h0
  · rcases (hmh x).1 hx with hx' | rfl
    · have hdx : (B.get x).doc = (A.get x).doc := by
        by_cases e : x = ex
        · subst e; rw [hgex]
        · rw [hgold hx' e]
      obtain ⟨q1, q2⟩ := hI.docK x hx'
      rw [hdx]; exact ⟨(hmh _).2 (.inl q1), by rw [hkind q1]; exact q2⟩
    · rw [hgnew, hcd]; exact ⟨(hmh _).2 (.inl hi), by rw [hkind hi]; exact hik⟩
  · rcases (hmh x).1 hx with hx' | rfl
    · have hdx : (B.get x).doc = (A.get x).doc := by
        by_cases e : x = ex
        · subst e; rw [hgex]
        · rw [hgold hx' e]
      rw [hkind hx'] at h1
      rw [hdx]; exact hI.docS x hx' h1
    · rw [hgnew] at h1; omega
  · rw [hin] at h0 ⊢
    obtain ⟨q1, q2, q3, q4⟩ := hI.inert d h0
    exact ⟨(hmh _).2 (.inl q1), (hmh _).2 (.inl q2), by rw [hkind q2]; exact q3, by rw [hin]; exact q4⟩

end Go.Proofs.Ytnfdcfagdidmhaa
