/-
  Parts: DA.
-/
import Derived.Test.YtpicinjcmjaogaaGreatN06

/- Layer 5 as plain data: the nodes below a node, adoption, insertion. No program here. -/
namespace Go.Proofs.YtpicinjcmjaogaaGreat
set_option linter.unusedVariables false

/-- The nodes below a node, in preorder, without contents. -/
def belowF (A : Ar) : Nat → Int → List Int
  | 0, _ => []
  | n + 1, h => (A.get h).kids.flatMap (fun k => k :: belowF A n k)
def Ar.below (A : Ar) (h : Int) : List Int := belowF A A.ns.length h

theorem belowF_fuel {A : Ar} (hI : A.Inv) : ∀ (f : Nat) (h : Int), A.has h → A.ns.length + 1 ≤ f + A.depth h → belowF A f h = belowF A (f + 1) h
  | 0, h, hh, hf => by have := depth_le hI hh; omega
  | f + 1, h, hh, hf => by
    rw [belowF, belowF]
    refine flatMap_congr' (fun k hk => ?_)
    obtain ⟨h1, h2, _⟩ := kid_up hI hh hk
    rw [belowF_fuel hI f _ h1 (by rw [depth_link hI h1 hh h2]; omega)]
theorem below_eq {A : Ar} (hI : A.Inv) {h : Int} (hh : A.has h) : A.below h = (A.get h).kids.flatMap (fun k => k :: A.below k) := by
  have hd := depth_pos hI hh
  unfold Ar.below
  rw [belowF_fuel hI _ h hh (by omega), belowF]
theorem below_mem {A : Ar} (hI : A.Inv) : ∀ h, A.has h → ∀ x, x ∈ A.below h → A.has x ∧ x ∈ A.walk h ∧ (A.walk x).length < (A.walk h).length ∧ (A.get x).parent ≠ 0 := by
  refine walk_ind hI (fun h hh _ hk x hx => ?_)
  rw [below_eq hI hh] at hx
  obtain ⟨k, hkk, hx⟩ := List.mem_flatMap.1 hx
  obtain ⟨h1, h2, h3⟩ := kid_up hI hh hkk
  have hw := walk_eq hI hh
  have hlen : (A.walk k).length < (A.walk h).length := by
    obtain ⟨s, t, e⟩ := List.append_of_mem hkk
    rw [hw, e]; simp; omega
  have hin : ∀ y, y ∈ A.walk k → y ∈ A.walk h := fun y hy => by
    rw [hw]; exact List.mem_cons.2 (.inr (List.mem_append.2 (.inr (List.mem_flatMap.2 ⟨k, hkk, hy⟩))))
  rcases List.mem_cons.1 hx with rfl | hx
  · exact ⟨h1, hin _ (by rw [walk_eq hI h1]; simp), hlen, by rw [h3]; have := hh.1; omega⟩
  · obtain ⟨q1, q2, q3, q4⟩ := hk k hkk x hx
    exact ⟨q1, hin _ q2, Nat.lt_trans q3 hlen, q4⟩
theorem contents_walk {A : Ar} (hI : A.Inv) {h : Int} (hh : A.has h) (hc : (A.get h).contents ≠ 0) : (A.walk (A.get h).contents).length < (A.walk h).length := by
  rw [walk_eq hI hh, if_pos hc]; simp; omega
theorem walk_pos {A : Ar} (hI : A.Inv) {h : Int} (hh : A.has h) : 0 < (A.walk h).length := by rw [walk_eq hI hh]; simp
theorem below_len {A : Ar} (hI : A.Inv) : ∀ h, A.has h → (A.below h).length < (A.walk h).length := by
  refine walk_ind hI (fun h hh _ hk => ?_)
  rw [below_eq hI hh, walk_eq hI hh]
  have : ∀ l : List Int, (∀ k ∈ l, (A.below k).length < (A.walk k).length) → (l.flatMap (fun k => k :: A.below k)).length ≤ (l.flatMap A.walk).length := by
    intro l
    induction l with
    | nil => simp
    | cons a l ih =>
      intro h
      have h1 := h a (by simp)
      have h2 := ih (fun k hk => h k (by simp [hk]))
      simp only [List.flatMap_cons, List.length_append, List.length_cons] at h2 ⊢
      omega
  have := this _ hk
  simp only [List.length_cons, List.length_append]
  omega

/-- B has the nodes of A with the same links and fields, but for node documents; B may have more. -/
structure Ar.Tree (A B : Ar) : Prop where
  le : A.ns.length ≤ B.ns.length
  get : ∀ x, A.has x → ∃ d, B.get x = { A.get x with doc := d }
theorem Ar.Tree.has {A B : Ar} (h : A.Tree B) {x : Int} (hx : A.has x) : B.has x := ⟨hx.1, by have := hx.2; have := h.le; unfold Ar.n at *; omega⟩
theorem Ar.Tree.refl (A : Ar) : A.Tree A := ⟨Nat.le_refl _, fun x _ => ⟨(A.get x).doc, rfl⟩⟩
theorem Ar.Tree.trans {A B C : Ar} (h : A.Tree B) (k : B.Tree C) : A.Tree C := ⟨Nat.le_trans h.le k.le, fun x hx => by
  obtain ⟨d, e⟩ := h.get x hx
  obtain ⟨d', e'⟩ := k.get x (h.has hx)
  exact ⟨d', by rw [e', e]⟩⟩
theorem Ar.Tree.kids {A B : Ar} (h : A.Tree B) {x : Int} (hx : A.has x) : (B.get x).kids = (A.get x).kids := by obtain ⟨d, e⟩ := h.get x hx; rw [e]
theorem Ar.Tree.contents {A B : Ar} (h : A.Tree B) {x : Int} (hx : A.has x) : (B.get x).contents = (A.get x).contents := by obtain ⟨d, e⟩ := h.get x hx; rw [e]
theorem Ar.Tree.kind {A B : Ar} (h : A.Tree B) {x : Int} (hx : A.has x) : (B.get x).kind = (A.get x).kind := by obtain ⟨d, e⟩ := h.get x hx; rw [e]
theorem Ar.Tree.parent {A B : Ar} (h : A.Tree B) {x : Int} (hx : A.has x) : (B.get x).parent = (A.get x).parent := by obtain ⟨d, e⟩ := h.get x hx; rw [e]
theorem Ar.Tree.host {A B : Ar} (h : A.Tree B) {x : Int} (hx : A.has x) : (B.get x).host = (A.get x).host := by obtain ⟨d, e⟩ := h.get x hx; rw [e]
theorem Ar.Tree.walk {A B : Ar} (h : A.Tree B) (hA : A.Inv) (hB : B.Inv) : ∀ x, A.has x → B.walk x = A.walk x := by
  refine walk_ind hA (fun x hx hc hk => ?_)
  rw [walk_eq hA hx, walk_eq hB (h.has hx), h.kids hx, h.contents hx]
  congr 1
  congr 1
  · split
    · rename_i q; exact hc q
    · rfl
  · exact flatMap_congr' (fun k hkk => hk k hkk)
theorem Ar.Tree.below {A B : Ar} (h : A.Tree B) (hA : A.Inv) (hB : B.Inv) : ∀ x, A.has x → B.below x = A.below x := by
  refine walk_ind hA (fun x hx hc hk => ?_)
  rw [below_eq hA hx, below_eq hB (h.has hx), h.kids hx]
  exact flatMap_congr' (fun k hkk => by rw [hk k hkk])
theorem Ar.tree_inertOf (A : Ar) (d : Int) : A.Tree (A.inertOf d).2 := ⟨(Ar.inertOf_len A d).1, fun x hx => ⟨(A.get x).doc, by rw [(Ar.inertOf_get hx).1]⟩⟩
theorem Ar.tree_setDoc (A : Ar) (h d : Int) : A.Tree (A.setDoc h d).2 := by
  unfold Ar.setDoc
  split
  · exact Ar.Tree.refl A
  · rename_i q
    have hh : A.has h := Classical.not_not.1 (fun e => q (.inl e))
    split
    · exact Ar.Tree.refl A
    · refine ⟨by simp [Ar.mod], fun x hx => ?_⟩
      show ∃ d', (A.mod h fun x => { x with doc := d }).get x = _
      rw [Ar.mod_get _ hh hx]
      split
      · rename_i e; subst e; exact ⟨d, rfl⟩
      · exact ⟨(A.get x).doc, rfl⟩

theorem cut_root {A : Ar} {h : Int} (hp : (A.get h).parent = 0) : A.cut h = A := by unfold Ar.cut; rw [if_pos hp]

theorem inertOf_at {A : Ar} {d : Int} (hd : A.has d) (hl : A.inert.length = A.ns.length + 1) : (A.inertOf d).1 = (A.inertOf d).2.inertAt d ∧ (A.inertOf d).2.inertAt d ≠ 0 := by
  unfold Ar.inertOf
  by_cases h0 : A.inertAt d ≠ 0
  · rw [if_pos h0]; exact ⟨rfl, h0⟩
  · rw [if_neg h0]
    have hlen : (A.document false).inert.length = A.ns.length + 2 := by simp [Ar.document, Ar.add, hl]
    have h1 := hd.1
    have h2 := hd.2
    unfold Ar.n at h2
    have e : ({ A.document false with inert := ((A.document false).inert.set d.toNat (A.n + 1)).set (A.n + 1).toNat (A.n + 1) } : Ar).inertAt d = if d.toNat = (A.n + 1).toNat then A.n + 1 else if d.toNat = d.toNat then A.n + 1 else (A.document false).inertAt d :=
      set2_get (by omega) (by unfold Ar.n; omega)
    have e2 : ({ A.document false with inert := ((A.document false).inert.set d.toNat (A.n + 1)).set (A.n + 1).toNat (A.n + 1) } : Ar).inertAt d = A.n + 1 := by
      rw [e]; split
      · rfl
      · rw [if_pos rfl]
    exact ⟨e2.symm, by rw [e2]; unfold Ar.n; omega⟩
theorem setDoc_keeps (A : Ar) (h d : Int) : (A.setDoc h d).2.inert = A.inert ∧ (A.setDoc h d).2.ns.length = A.ns.length := by
  unfold Ar.setDoc
  split
  · exact ⟨rfl, rfl⟩
  · split
    · exact ⟨rfl, rfl⟩
    · exact ⟨rfl, by simp [Ar.mod]⟩

/-- What a document gives to a node: itself as the node document, and its inert document to the contents. -/
def ownStep (rec : Ar → Int → Int → Ar) (d : Int) (B : Ar) (x : Int) : Ar :=
  if ((B.setDoc x d).2.get x).contents = 0 then (B.setDoc x d).2
  else rec ((B.setDoc x d).2.inertOf d).2 ((B.setDoc x d).2.get x).contents ((B.setDoc x d).2.inertOf d).1
/-- Adoption, with fuel. -/
def adoptF : Nat → Ar → Int → Int → Ar
  | 0, A, h, _ => A.cut h
  | n + 1, A, h, d => if ((A.cut h).get h).doc = d then A.cut h else (h :: (A.cut h).below h).foldl (ownStep (adoptF n) d) (A.cut h)
def Ar.adopt (A : Ar) (h d : Int) : Ar := adoptF A.ns.length A h d

theorem foldl_inv {α β : Type} {f : β → α → β} {P : β → Prop} : ∀ {l : List α} {b : β}, P b → (∀ b x, x ∈ l → P b → P (f b x)) → P (l.foldl f b)
  | [], b, hb, _ => hb
  | a :: l, b, hb, h => foldl_inv (l := l) (h b a (by simp) hb) (fun b x hx => h b x (by simp [hx]))

/-- What stays, when a node of a tree C gets a document: the tree. -/
theorem ownStep_facts {rec : Ar → Int → Int → Ar} {C B : Ar} {d x : Int} (hB : B.Inv) (hT : C.Tree B) (hd : C.has d) (hk : (C.get d).kind = 1) (hx : C.has x)
    (hrec : ∀ B' c i, B'.Inv → B'.has c → (B'.get c).parent = 0 → B'.has i → (B'.get i).kind = 1 → (rec B' c i).Inv ∧ B'.Tree (rec B' c i)) :
    (ownStep rec d B x).Inv ∧ C.Tree (ownStep rec d B x) := by
  have h1 := Ar.Inv.setDoc hB x d
  have t1 := hT.trans (Ar.tree_setDoc B x d)
  unfold ownStep
  split
  · exact ⟨h1, t1⟩
  · rename_i hc
    obtain ⟨c1, c2, c3⟩ := contents_up h1 (t1.has hx) hc
    have hd1 := t1.has hd
    have h2 := Ar.InvX.inertOf h1 hd1
    obtain ⟨v1, v2⟩ := Ar.InvX.inertVal h1 hd1
    have t2 := Ar.tree_inertOf (B.setDoc x d).2 d
    obtain ⟨r1, r2⟩ := hrec _ _ _ h2 (t2.has c1) (by rw [t2.parent c1]; exact c3) v1 v2
    exact ⟨r1, (t1.trans t2).trans r2⟩
theorem adoptF_facts : ∀ (n : Nat) {A : Ar} {h d : Int}, A.Inv → A.has h → A.has d → (A.get d).kind = 1 → (adoptF n A h d).Inv ∧ (A.cut h).Tree (adoptF n A h d)
  | 0, A, h, d, hI, hh, hd, hk => ⟨Ar.InvX.cut hI hh, Ar.Tree.refl _⟩
  | n + 1, A, h, d, hI, hh, hd, hk => by
    have hC : (A.cut h).Inv := Ar.InvX.cut hI hh
    have hdC : (A.cut h).has d := (Ar.cut_has _ _ _).2 hd
    have hkC : ((A.cut h).get d).kind = 1 := by rw [Ar.cut_get hI hh hd]; exact hk
    have hhC : (A.cut h).has h := (Ar.cut_has _ _ _).2 hh
    unfold adoptF
    split
    · exact ⟨hC, Ar.Tree.refl _⟩
    · refine foldl_inv (P := fun B : Ar => B.Inv ∧ (A.cut h).Tree B) ⟨hC, Ar.Tree.refl _⟩ ?_
      rintro B x hx ⟨hB, hT⟩
      have hxC : (A.cut h).has x := by
        rcases List.mem_cons.1 hx with rfl | hx
        · exact hhC
        · exact (below_mem hC h hhC x hx).1
      refine ownStep_facts hB hT hdC hkC hxC ?_
      intro B' c i hB' hc hp hi hik
      have := adoptF_facts n hB' hc hi hik
      rw [cut_root hp] at this
      exact this

/-- Under a document whose inert document is there, no node is added. -/
theorem adoptF_still : ∀ (n : Nat) {A : Ar} {h d : Int}, A.Inv → A.has h → A.has d → (A.get d).kind = 1 → A.inertAt d ≠ 0 → (adoptF n A h d).inert = A.inert ∧ (adoptF n A h d).ns.length = A.ns.length
  | 0, A, h, d, hI, hh, hd, hk, hi => ⟨Ar.cut_inert A h, Ar.cut_ns A h⟩
  | n + 1, A, h, d, hI, hh, hd, hk, hi => by
    have hC : (A.cut h).Inv := Ar.InvX.cut hI hh
    have hdC : (A.cut h).has d := (Ar.cut_has _ _ _).2 hd
    have hkC : ((A.cut h).get d).kind = 1 := by rw [Ar.cut_get hI hh hd]; exact hk
    have hhC : (A.cut h).has h := (Ar.cut_has _ _ _).2 hh
    unfold adoptF
    split
    · exact ⟨Ar.cut_inert A h, Ar.cut_ns A h⟩
    · have := foldl_inv (f := ownStep (adoptF n) d) (l := h :: (A.cut h).below h) (b := A.cut h) (P := fun B : Ar => (B.Inv ∧ (A.cut h).Tree B) ∧ B.inert = A.inert ∧ B.ns.length = A.ns.length) ⟨⟨hC, Ar.Tree.refl _⟩, Ar.cut_inert A h, Ar.cut_ns A h⟩ ?_
      · exact this.2
      rintro B x hx ⟨⟨hB, hT⟩, e1, e2⟩
      have hxC : (A.cut h).has x := by
        rcases List.mem_cons.1 hx with rfl | hx
        · exact hhC
        · exact (below_mem hC h hhC x hx).1
      refine ⟨ownStep_facts hB hT hdC hkC hxC (fun B' c i hB' hc hp hi hik => by have := adoptF_facts n hB' hc hi hik; rw [cut_root hp] at this; exact this), ?_⟩
      obtain ⟨s1, s2⟩ := setDoc_keeps B x d
      have h1 := Ar.Inv.setDoc hB x d
      have t1 := hT.trans (Ar.tree_setDoc B x d)
      unfold ownStep
      split
      · exact ⟨s1.trans e1, s2.trans e2⟩
      · rename_i hc
        obtain ⟨c1, c2, c3⟩ := contents_up h1 (t1.has hxC) hc
        have hd1 := t1.has hdC
        have hin : (B.setDoc x d).2.inertAt d ≠ 0 := by
          have : (B.setDoc x d).2.inertAt d = A.inertAt d := by unfold Ar.inertAt; rw [s1, e1]
          rw [this]; exact hi
        have he : (B.setDoc x d).2.inertOf d = ((B.setDoc x d).2.inertAt d, (B.setDoc x d).2) := by unfold Ar.inertOf; rw [if_pos hin]
        obtain ⟨q1, q2, q3, q4⟩ := Ar.InvX.inert h1 d hin
        rw [he]
        obtain ⟨r1, r2⟩ := adoptF_still n h1 c1 q2 q3 (by rw [q4]; exact hin)
        exact ⟨r1.trans (s1.trans e1), r2.trans (s2.trans e2)⟩

/-- How many nodes there may be when a document has got what it wants: one more, if its inert document was missing. -/
def Ar.cap (A : Ar) (d : Int) : Nat := A.ns.length + (if A.inertAt d = 0 then 1 else 0)
theorem Ar.cap_of {A B : Ar} {d : Int} (h1 : B.inert = A.inert) (h2 : B.ns.length = A.ns.length) : B.cap d = A.cap d := by unfold Ar.cap Ar.inertAt; rw [h1, h2]
theorem Ar.cap_ge (A : Ar) (d : Int) : A.ns.length ≤ A.cap d := by unfold Ar.cap; omega
theorem Ar.cap_le (A : Ar) (d : Int) : A.cap d ≤ A.ns.length + 1 := by unfold Ar.cap; split <;> omega
theorem inertOf_cap {A : Ar} {d : Int} (hd : A.has d) (hl : A.inert.length = A.ns.length + 1) : (A.inertOf d).2.cap d = A.cap d := by
  have h := inertOf_at hd hl
  have h2 := h.2
  unfold Ar.cap
  rw [if_neg h2]
  by_cases q : A.inertAt d = 0
  · rw [if_pos q]
    unfold Ar.inertOf
    rw [if_neg (fun e => e q)]
    simp [Ar.document, Ar.add]
  · rw [if_neg q]
    unfold Ar.inertOf
    rw [if_pos q]
theorem adoptF_cap : ∀ (n : Nat) {A : Ar} {h d : Int}, A.Inv → A.has h → A.has d → (A.get d).kind = 1 → (adoptF n A h d).cap d = A.cap d
  | 0, A, h, d, hI, hh, hd, hk => Ar.cap_of (Ar.cut_inert A h) (Ar.cut_ns A h)
  | n + 1, A, h, d, hI, hh, hd, hk => by
    have hC : (A.cut h).Inv := Ar.InvX.cut hI hh
    have hdC : (A.cut h).has d := (Ar.cut_has _ _ _).2 hd
    have hkC : ((A.cut h).get d).kind = 1 := by rw [Ar.cut_get hI hh hd]; exact hk
    have hhC : (A.cut h).has h := (Ar.cut_has _ _ _).2 hh
    have h0 : (A.cut h).cap d = A.cap d := Ar.cap_of (Ar.cut_inert A h) (Ar.cut_ns A h)
    unfold adoptF
    split
    · exact h0
    · have := foldl_inv (f := ownStep (adoptF n) d) (l := h :: (A.cut h).below h) (b := A.cut h) (P := fun B : Ar => (B.Inv ∧ (A.cut h).Tree B) ∧ B.cap d = A.cap d) ⟨⟨hC, Ar.Tree.refl _⟩, h0⟩ ?_
      · exact this.2
      rintro B x hx ⟨⟨hB, hT⟩, e1⟩
      have hxC : (A.cut h).has x := by
        rcases List.mem_cons.1 hx with rfl | hx
        · exact hhC
        · exact (below_mem hC h hhC x hx).1
      refine ⟨ownStep_facts hB hT hdC hkC hxC (fun B' c i hB' hc hp hi hik => by have := adoptF_facts n hB' hc hi hik; rw [cut_root hp] at this; exact this), ?_⟩
      obtain ⟨s1, s2⟩ := setDoc_keeps B x d
      have s3 : (B.setDoc x d).2.cap d = A.cap d := (Ar.cap_of s1 s2).trans e1
      have h1 := Ar.Inv.setDoc hB x d
      have t1 := hT.trans (Ar.tree_setDoc B x d)
      unfold ownStep
      split
      · exact s3
      · rename_i hc
        obtain ⟨c1, c2, c3⟩ := contents_up h1 (t1.has hxC) hc
        have hd1 := t1.has hdC
        have h2 := Ar.InvX.inertOf h1 hd1
        obtain ⟨v1, v2⟩ := Ar.InvX.inertVal h1 hd1
        obtain ⟨i1, i2⟩ := inertOf_at hd1 h1.wf.inert
        obtain ⟨q1, q2, q3, q4⟩ := Ar.InvX.inert h2 d i2
        obtain ⟨r1, r2⟩ := adoptF_still n h2 ((Ar.tree_inertOf _ d).has c1) v1 v2 (by rw [i1, q4]; exact i2)
        rw [Ar.cap_of r1 r2, inertOf_cap hd1 h1.wf.inert, s3]

/-- The nodes that are inserted for a node. -/
def Ar.nodesOf (A : Ar) (h : Int) : List Int := if (A.get h).kind = 2 then (A.get h).kids else [h]
/-- The child that follows a node, or 0. -/
def Ar.next (A : Ar) (h : Int) : Int :=
  if 0 < A.index h + 1 ∧ A.index h + 1 < ((A.get (A.get h).parent).kids.length : Int) then (A.get (A.get h).parent).kids[(A.index h + 1).toNat]?.getD 0 else 0
def putStep (d p c : Int) (B : Ar) (x : Int) : Ar := ((B.adopt x d).put p x c).2
def Ar.insertAt (A : Ar) (p n c : Int) : Ar := (A.nodesOf n).foldl (putStep (A.get p).doc p c) A

theorem put_keeps (A : Ar) (p x c : Int) : (A.put p x c).2.inert = A.inert ∧ (A.put p x c).2.ns.length = A.ns.length := by
  unfold Ar.put
  split
  · exact ⟨rfl, rfl⟩
  · exact ⟨Ar.place_inert A p x c, by have := Ar.place_n A p x c; unfold Ar.n at this; dsimp only; omega⟩
theorem put_get {A : Ar} (hI : A.Inv) (p x c : Int) {y : Int} (hy : A.has y) : (A.put p x c).2.has y ∧ ((A.put p x c).2.get y).kind = (A.get y).kind ∧ ((A.put p x c).2.get y).doc = (A.get y).doc := by
  refine ⟨⟨hy.1, by have := (put_keeps A p x c).2; have := hy.2; unfold Ar.n at *; omega⟩, ?_⟩
  unfold Ar.put
  split
  · exact ⟨rfl, rfl⟩
  · rename_i q
    have q := Classical.not_not.1 q
    obtain ⟨h1, h2, h3, h4, h5, h6⟩ := allowed_got q
    have hne : p ≠ x := fun e => by
      subst e
      have : A.contains p p = true := by simp [Ar.contains, h1, way_head (hI.wf.wayOf h1) h1]
      rw [this] at h6; exact absurd h6 (by simp)
    show ((A.place p x c).get y).kind = _ ∧ ((A.place p x c).get y).doc = _
    rw [Ar.place_get h1 h2 hy hne, Ar.cut_get hI h2 hy]
    exact ⟨rfl, rfl⟩

theorem adopt_facts {A : Ar} {h d : Int} (hI : A.Inv) (hh : A.has h) (hd : A.has d) (hk : (A.get d).kind = 1) : (A.adopt h d).Inv ∧ (A.cut h).Tree (A.adopt h d) ∧ (A.adopt h d).cap d = A.cap d :=
  ⟨(adoptF_facts _ hI hh hd hk).1, (adoptF_facts _ hI hh hd hk).2, adoptF_cap _ hI hh hd hk⟩
theorem putStep_facts {A : Ar} {d p c x : Int} (hI : A.Inv) (hx : A.has x) (hd : A.has d) (hk : (A.get d).kind = 1) :
    (putStep d p c A x).Inv ∧ (putStep d p c A x).cap d = A.cap d ∧ ∀ y, A.has y → (putStep d p c A x).has y ∧ ((putStep d p c A x).get y).kind = (A.get y).kind := by
  obtain ⟨i1, i2, i3⟩ := adopt_facts hI hx hd hk
  unfold putStep
  refine ⟨Ar.Inv.put i1 _ _ _, by rw [Ar.cap_of (put_keeps _ _ _ _).1 (put_keeps _ _ _ _).2, i3], fun y hy => ?_⟩
  have hc : (A.cut x).has y := (Ar.cut_has _ _ _).2 hy
  obtain ⟨g1, g2, _⟩ := put_get i1 p x c (i2.has hc)
  refine ⟨g1, ?_⟩
  rw [g2, i2.kind hc, Ar.cut_get hI hx hy]
theorem nodesOf_has {A : Ar} {h : Int} (hI : A.Inv) (hh : A.has h) : ∀ x ∈ A.nodesOf h, A.has x := by
  intro x hx
  unfold Ar.nodesOf at hx
  split at hx
  · exact (kid_up hI hh hx).1
  · simp at hx; subst hx; exact hh
theorem putSteps_facts {A : Ar} {d p c : Int} (hd : A.has d) (hk : (A.get d).kind = 1) (hI : A.Inv) {l : List Int} (hl : ∀ x ∈ l, A.has x) :
    (l.foldl (putStep d p c) A).Inv ∧ (l.foldl (putStep d p c) A).cap d = A.cap d ∧ ∀ y, A.has y → (l.foldl (putStep d p c) A).has y ∧ ((l.foldl (putStep d p c) A).get y).kind = (A.get y).kind := by
  refine foldl_inv (P := fun B : Ar => B.Inv ∧ B.cap d = A.cap d ∧ ∀ y, A.has y → B.has y ∧ (B.get y).kind = (A.get y).kind) ⟨hI, rfl, fun y hy => ⟨hy, rfl⟩⟩ ?_
  rintro B x hx ⟨h1, h2, h3⟩
  obtain ⟨q1, q2, q3⟩ := putStep_facts (p := p) (c := c) h1 (h3 x (hl x hx)).1 (h3 d hd).1 ((h3 d hd).2.trans hk)
  exact ⟨q1, q2.trans h2, fun y hy => ⟨(q3 y (h3 y hy).1).1, (q3 y (h3 y hy).1).2.trans (h3 y hy).2⟩⟩
theorem insertAt_facts {A : Ar} {p n c : Int} (hI : A.Inv) (hp : A.has p) (hn : A.has n) :
    (A.insertAt p n c).Inv ∧ (A.insertAt p n c).ns.length ≤ A.ns.length + 1 := by
  obtain ⟨d1, d2⟩ := hI.docK p hp
  obtain ⟨q1, q2, q3⟩ := putSteps_facts (p := p) (c := c) d1 d2 hI (nodesOf_has hI hn)
  refine ⟨q1, ?_⟩
  have h1 := Ar.cap_ge (A.insertAt p n c) (A.get p).doc
  have h2 := Ar.cap_le A (A.get p).doc
  unfold Ar.insertAt at h1 ⊢
  omega

/-- The kinds of the children before a child, and behind it. -/
def splitStep (A : Ar) (c : Int) (s : Bool × List Int × List Int) (k : Int) : Bool × List Int × List Int :=
  if k = c then (true, s.2.1, s.2.2) else if s.1 = true then (s.1, s.2.1, s.2.2 ++ [(A.get k).kind]) else (s.1, s.2.1 ++ [(A.get k).kind], s.2.2)
def Ar.splitOf (A : Ar) (p c : Int) : List Int × List Int := ((A.get p).kids.foldl (splitStep A c) (false, [], [])).2
def Ar.elBad (A : Ar) (p c : Int) (r : Bool) : Prop := 4 ∈ (A.splitOf p c).1 ∨ 4 ∈ (A.splitOf p c).2 ∨ 3 ∈ (A.splitOf p c).2 ∨ (r = false ∧ c ≠ 0 ∧ ((A.get c).kind = 4 ∨ (A.get c).kind = 3))
instance (A : Ar) (p c : Int) (r : Bool) : Decidable (A.elBad p c r) := inferInstanceAs (Decidable (_ ∨ _))
def Ar.dtBad (A : Ar) (p c : Int) (r : Bool) : Prop := 3 ∈ (A.splitOf p c).1 ∨ 3 ∈ (A.splitOf p c).2 ∨ 4 ∈ (A.splitOf p c).1 ∨ (r = false ∧ c ≠ 0 ∧ (A.get c).kind = 3)
instance (A : Ar) (p c : Int) (r : Bool) : Decidable (A.dtBad p c r) := inferInstanceAs (Decidable (_ ∨ _))
def Ar.kindsOf (A : Ar) (h : Int) : List Int := (A.get h).kids.map (fun k => (A.get k).kind)
def Ar.fragBad (A : Ar) (p n c : Int) (r : Bool) : Prop := 5 ∈ A.kindsOf n ∨ 1 < (A.kindsOf n).count 4 ∨ ((A.kindsOf n).count 4 = 1 ∧ A.elBad p c r)
instance (A : Ar) (p n c : Int) (r : Bool) : Decidable (A.fragBad p n c r) := inferInstanceAs (Decidable (_ ∨ _))
/-- A document would have too many children, or in a wrong order. -/
def Ar.crowded (A : Ar) (p n c : Int) (r : Bool) : Prop := ((A.get n).kind = 2 ∧ A.fragBad p n c r) ∨ ((A.get n).kind = 4 ∧ A.elBad p c r) ∨ ((A.get n).kind = 3 ∧ A.dtBad p c r)
instance (A : Ar) (p n c : Int) (r : Bool) : Decidable (A.crowded p n c r) := inferInstanceAs (Decidable (_ ∨ _))
/-- The rules of an insertion, one by one. -/
def Ar.rule (A : Ar) (p n c : Int) (r : Bool) : Nat → Prop
  | 0 => ¬ ((A.get p).kind = 1 ∨ (A.get p).kind = 2 ∨ (A.get p).kind = 4)
  | 1 => A.contains n p = true
  | 2 => c ≠ 0 ∧ (A.get c).parent ≠ p
  | 3 => (A.get n).kind = 1
  | 4 => ((A.get p).kind = 1 ∧ (A.get n).kind = 5) ∨ ((A.get p).kind ≠ 1 ∧ (A.get n).kind = 3)
  | 5 => (A.get p).kind = 1 ∧ A.crowded p n c r
  | _ => False
instance (A : Ar) (p n c : Int) (r : Bool) : ∀ i, Decidable (A.rule p n c r i)
  | 0 => inferInstanceAs (Decidable (¬ _))
  | 1 => inferInstanceAs (Decidable (_ = _))
  | 2 => inferInstanceAs (Decidable (_ ∧ _))
  | 3 => inferInstanceAs (Decidable (_ = _))
  | 4 => inferInstanceAs (Decidable (_ ∨ _))
  | 5 => inferInstanceAs (Decidable (_ ∧ _))
  | _ + 6 => inferInstanceAs (Decidable False)
def ruleCode (i : Nat) : Int := if i = 2 then 5 else 4
/-- The error of the first rule from i on that applies. -/
def Ar.ruleFrom (A : Ar) (p n c : Int) (r : Bool) : Nat → Nat → Int
  | _, 0 => 0
  | i, m + 1 => if A.rule p n c r i then ruleCode i else A.ruleFrom p n c r (i + 1) m
def Ar.refused (A : Ar) (p n c : Int) (r : Bool) : Int := A.ruleFrom p n c r 0 6
def Ar.validate (A : Ar) (p n c : Int) : Int := if A.has p ∧ A.has n ∧ (c ≠ 0 → A.has c) then A.refused p n c false else 3
def Ar.insertCall (A : Ar) (p n c : Int) : Int × Ar := if A.validate p n c ≠ 0 then (A.validate p n c, A) else (0, A.insertAt p n (if c = n then A.next n else c))
def Ar.replaceCall (A : Ar) (p n c : Int) : Int × Ar :=
  if A.has p ∧ A.has n ∧ A.has c then
    if A.refused p n c true ≠ 0 then (A.refused p n c true, A) else (0, (A.cut c).insertAt p n (if A.next c = n then A.next n else A.next c))
  else (3, A)
def Ar.removeCall (A : Ar) (p c : Int) : Int × Ar := if A.has p ∧ A.has c then (if (A.get c).parent ≠ p then (5, A) else (0, A.cut c)) else (3, A)
def Ar.empty (A : Ar) (p : Int) : Ar := (A.get p).kids.foldl (fun B k => B.cut k) A
def Ar.replaceAllCall (A : Ar) (p n : Int) : Int × Ar :=
  if A.has p ∧ (n ≠ 0 → A.has n) then
    if (A.get p).kind ≠ 4 ∧ (A.get p).kind ≠ 2 then (9, A)
    else if n ≠ 0 ∧ ((A.get n).kind ≠ 2 ∨ A.contains n p = true) then (4, A)
    else (0, if n ≠ 0 then (A.empty p).insertAt p n 0 else A.empty p)
  else (3, A)
def Ar.adoptCall (A : Ar) (n d : Int) : Int × Ar :=
  if A.has n ∧ A.has d then (if (A.get d).kind ≠ 1 ∨ (A.get n).kind = 1 ∨ (A.get n).host ≠ 0 then (9, A) else (0, A.adopt n d)) else (3, A)

end Go.Proofs.YtpicinjcmjaogaaGreat
