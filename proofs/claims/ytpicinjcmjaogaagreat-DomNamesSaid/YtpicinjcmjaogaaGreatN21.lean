/-
  Parts: DF, DG.
-/
import Derived.Test.YtpicinjcmjaogaaGreatN09

/- Layer 5 as plain data: attributes stay few. No program here. -/
namespace Go.Proofs.YtpicinjcmjaogaaGreat
set_option linter.unusedVariables false

/-- No node has more than m attributes. -/
def Ar.Thin (A : Ar) (m : Nat) : Prop := ∀ n ∈ A.ns, n.attrs.length ≤ m
theorem Ar.Thin.get {A : Ar} {m : Nat} (h : A.Thin m) {x : Int} (hx : A.has x) : (A.get x).attrs.length ≤ m := by
  obtain ⟨hi, e⟩ := Ar.get_of hx
  rw [e]; exact h _ (List.getElem_mem hi)
theorem Ar.Thin.mono {A : Ar} {m k : Nat} (h : A.Thin m) (hk : m ≤ k) : A.Thin k := fun n hn => Nat.le_trans (h n hn) hk
theorem thin_new (m : Nat) : Ar.new.Thin m := fun n hn => by simp [Ar.new] at hn
theorem thin_add {A : Ar} {m : Nat} (h : A.Thin m) {n : Nd} (hn : n.attrs.length ≤ m) : (A.add n).Thin m := by
  intro x hx
  rcases List.mem_append.1 hx with hx | hx
  · exact h x hx
  · simp at hx; subst hx; exact hn
theorem modify_mem {α : Type} {f : α → α} {x : α} : ∀ {l : List α} {i : Nat}, x ∈ l.modify i f → x ∈ l ∨ ∃ y ∈ l, x = f y
  | [], i, h => by simp at h
  | a :: l, 0, h => by
    simp at h
    rcases h with rfl | h
    · exact .inr ⟨a, by simp, rfl⟩
    · exact .inl (by simp [h])
  | a :: l, i + 1, h => by
    simp at h
    rcases h with rfl | h
    · exact .inl (by simp)
    · rcases modify_mem h with q | ⟨y, q1, q2⟩
      · exact .inl (by simp [q])
      · exact .inr ⟨y, by simp [q1], q2⟩
theorem thin_mod {A : Ar} {m : Nat} (h : A.Thin m) (x : Int) {f : Nd → Nd} (hf : ∀ n, n.attrs.length ≤ m → (f n).attrs.length ≤ m) : (A.mod x f).Thin m := by
  intro n hn
  rcases modify_mem hn with hn | ⟨y, hy, rfl⟩
  · exact h n hn
  · exact hf y (h y hy)
theorem thin_cut {A : Ar} {m : Nat} (h : A.Thin m) (x : Int) : (A.cut x).Thin m := by
  unfold Ar.cut
  split
  · exact h
  · refine thin_mod (thin_mod h _ ?_) _ ?_ <;> exact fun n hn => hn
theorem thin_put {A : Ar} {m : Nat} (h : A.Thin m) (p x c : Int) : (A.put p x c).2.Thin m := by
  unfold Ar.put
  split
  · exact h
  · refine thin_mod (A := (A.cut x).mod p _) (thin_mod (thin_cut h x) _ ?_) _ ?_ <;> exact fun n hn => hn
theorem thin_document {A : Ar} {m : Nat} (h : A.Thin m) (q : Bool) : (A.document q).Thin m := thin_add h (Nat.zero_le _)
theorem thin_inertOf {A : Ar} {m : Nat} (h : A.Thin m) (d : Int) : (A.inertOf d).2.Thin m := by
  unfold Ar.inertOf
  split
  · exact h
  · exact thin_document h false
theorem thin_inertCall {A : Ar} {m : Nat} (h : A.Thin m) (d : Int) : (A.inertCall d).2.Thin m := by
  unfold Ar.inertCall
  split
  · exact h
  · exact thin_inertOf h d
theorem thin_make {A : Ar} {m : Nat} (h : A.Thin m) (d : Int) {n : Nd} (hn : n.attrs = []) : (A.make d n).2.Thin m := by
  unfold Ar.make
  split
  · exact h
  · exact thin_add h (by show n.attrs.length ≤ m; rw [hn]; exact Nat.zero_le _)
theorem thin_element {A : Ar} {m : Nat} (h : A.Thin m) (d s : Int) (name : ByteArray) {l : List AttrD} (hl : l.length ≤ m) : (A.element d s name l).2.Thin m := by
  have h1 : (A.add (elemNd d s name l)).Thin m := thin_add h (Nat.le_trans (onceL_len l) hl)
  by_cases he : A.ofDoc d = 0
  · by_cases hs : inSpaces s ∧ attrSpaces l
    · by_cases ht : isTemplate (elemNd d s name l)
      · rw [elem_templ he hs ht]
        exact thin_mod (thin_add (thin_inertOf h1 d) (Nat.zero_le _)) _ (fun n hn => hn)
      · rw [elem_plain he hs ht]; exact h1
    · rw [elem_false he hs]; exact h
  · have : A.element d s name l = ((0, A.ofDoc d), A) := by simp [Ar.element, he]
    rw [this]; exact h
theorem thin_setData {A : Ar} {m : Nat} (h : A.Thin m) (x : Int) (s : ByteArray) : (A.setData x s).2.Thin m := by
  unfold Ar.setData
  repeat' split
  all_goals first | exact h | exact thin_mod h _ (fun n hn => hn)
theorem thin_setQuirks {A : Ar} {m : Nat} (h : A.Thin m) (x : Int) (q : Bool) : (A.setQuirks x q).2.Thin m := by
  unfold Ar.setQuirks
  repeat' split
  all_goals first | exact h | exact thin_mod h _ (fun n hn => hn)
theorem thin_setDoc {A : Ar} {m : Nat} (h : A.Thin m) (x d : Int) : (A.setDoc x d).2.Thin m := by
  unfold Ar.setDoc
  repeat' split
  all_goals first | exact h | exact thin_mod h _ (fun n hn => hn)
theorem thin_setAttrs {A : Ar} {m : Nat} (h : A.Thin m) (x : Int) {l : List AttrD} (hl : l.length ≤ m) : (A.setAttrs x l).2.Thin m := by
  unfold Ar.setAttrs
  repeat' split
  all_goals first | exact h | exact thin_mod h _ (fun n hn => Nat.le_trans (onceL_len l) hl)
theorem thin_adoptF {m : Nat} : ∀ (n : Nat) {A : Ar} (h d : Int), A.Thin m → (adoptF n A h d).Thin m
  | 0, A, h, d, ht => thin_cut ht h
  | n + 1, A, h, d, ht => by
    unfold adoptF
    split
    · exact thin_cut ht h
    · refine foldl_inv (P := fun B : Ar => B.Thin m) (thin_cut ht h) (fun B x hx hB => ?_)
      unfold ownStep
      split
      · exact thin_setDoc hB x d
      · exact thin_adoptF n _ _ (thin_inertOf (thin_setDoc hB x d) d)
theorem thin_insertAt {A : Ar} {m : Nat} (h : A.Thin m) (p n c : Int) : (A.insertAt p n c).Thin m :=
  foldl_inv (P := fun B : Ar => B.Thin m) h (fun B x hx hB => thin_put (thin_adoptF _ _ _ hB) _ _ _)
theorem thin_empty {A : Ar} {m : Nat} (h : A.Thin m) (p : Int) : (A.empty p).Thin m := foldl_inv (P := fun B : Ar => B.Thin m) h (fun B x hx hB => thin_cut hB x)
theorem thin_alone {A : Ar} {m : Nat} (h : A.Thin m) (d : Int) {n : Nd} (hn : n.attrs.length ≤ m) : (A.alone d n).2.Thin m := by
  unfold Ar.alone
  repeat' split
  · exact thin_document h _
  · exact thin_make h d rfl
  · exact thin_make h d rfl
  · exact thin_element h d _ _ hn
  · exact thin_make h d rfl
  · exact thin_make h d rfl
  · exact h
theorem get_thin {C : Ar} {m : Nat} (h : C.Thin m) (x : Int) : (C.get x).attrs.length ≤ m := by
  unfold Ar.get
  cases e : C.ns[x.toNat - 1]? with
  | none => exact Nat.zero_le _
  | some n => exact h n (List.mem_of_getElem? e)
theorem thin_dupF {C : Ar} {m : Nat} (hC : C.Thin m) : ∀ (k : Nat) (deep : Bool) {A : Ar} (d h : Int), A.Thin m → (dupF C deep k A d h).2.Thin m
  | 0, deep, A, d, h, ht => ht
  | k + 1, deep, A, d, h, ht => by
    have h1 := thin_alone ht d (get_thin hC h)
    have step : ∀ (l : List Int) (d' c : Int) (B : Ar), B.Thin m → (l.foldl (dupStep (fun B k' => dupF C true k B d' k') c) B).Thin m := fun l d' c B hB =>
      foldl_inv (P := fun B : Ar => B.Thin m) hB (fun B x hx hB => thin_put (thin_dupF hC k true d' x hB) _ _ _)
    have hmid : ∀ (P : Prop) [Decidable P] (l : List Int) (d' c : Int), (if P then l.foldl (dupStep (fun B k' => dupF C true k B d' k') c) ((A.alone d (C.get h)).2.inertCall d).2 else (A.alone d (C.get h)).2).Thin m := by
      intro P _ l d' c
      split
      · exact step _ _ _ _ (thin_inertCall h1 d)
      · exact h1
    unfold dupF
    dsimp only
    split
    · exact step _ _ _ _ (hmid _ _ _ _)
    · exact hmid _ _ _ _
theorem thin_join {A : Ar} {m : Nat} (h : A.Thin m) (x : Int) : (A.join x).Thin m := by
  have fl : ∀ s : JoinS, s.ar.Thin m → s.flush.ar.Thin m := fun s hs => by
    unfold JoinS.flush
    dsimp only
    split
    · exact thin_setData hs _ _
    · exact hs
  refine fl _ (foldl_inv (P := fun s : JoinS => s.ar.Thin m) h (fun s k hk hs => ?_))
  unfold JoinS.step
  split
  · exact fl s hs
  · split
    · exact hs
    · exact thin_cut hs k
theorem modify_len {α : Type} (l : List α) (i : Nat) (f : α → α) : (l.modify i f).length = l.length := by simp
theorem thin_attrsWith {A : Ar} {m : Nat} (h : A.Thin m) (el s : Int) (name val : ByteArray) : (A.attrsWith el s name val).length ≤ m + 1 := by
  have := get_thin h el
  unfold Ar.attrsWith
  split
  · simp; omega
  · rw [modify_len]; omega
theorem thin_step {A : Ar} {m : Nat} (h : A.Thin m) (x : OpD) (hx : x.attrs.length ≤ m) : (A.step x).2.Thin m := by
  refine step_rec (P := fun r => r.2.Thin m) ?_ ?_ ?_ ?_ ?_ ?_ ?_ ?_ ?_ ?_ ?_ ?_ ?_ ?_ <;> intro _
  · exact thin_document h _
  · exact thin_make h _ rfl
  · exact thin_element h _ _ _ hx
  · exact thin_make h _ rfl
  · exact thin_make h _ rfl
  · exact thin_make h _ rfl
  · exact thin_inertCall h _
  · exact thin_put h _ _ _
  · dsimp only; unfold Ar.cutCall; split
    · exact thin_cut h _
    · exact h
  · exact thin_setData h _ _
  · exact thin_setAttrs h _ hx
  · exact thin_setQuirks h _ _
  · exact thin_setDoc h _ _
  · exact h
theorem thin_step5 {A : Ar} {m : Nat} (h : A.Thin m) (x : OpD) (hx : x.attrs.length ≤ m) : (A.step5 x).2.Thin (m + 1) := by
  have h' := h.mono (Nat.le_succ m)
  refine step5_rec (P := fun r => r.2.Thin (m + 1)) ?_ ?_ ?_ ?_ ?_ ?_ ?_ ?_ ?_ ?_ ?_ ?_ ?_ ?_ ?_ ?_ <;> intro _
  · dsimp only; unfold Ar.insertCall; split
    · exact h'
    · exact (thin_insertAt h _ _ _).mono (Nat.le_succ m)
  · dsimp only; unfold Ar.insertCall; split
    · exact h'
    · exact (thin_insertAt h _ _ _).mono (Nat.le_succ m)
  · dsimp only; unfold Ar.replaceCall; split
    · split
      · exact h'
      · exact (thin_insertAt (thin_cut h _) _ _ _).mono (Nat.le_succ m)
    · exact h'
  · dsimp only; unfold Ar.removeCall; split
    · split
      · exact h'
      · exact (thin_cut h _).mono (Nat.le_succ m)
    · exact h'
  · dsimp only; unfold Ar.cutCall; split
    · exact (thin_cut h _).mono (Nat.le_succ m)
    · exact h'
  · dsimp only; unfold Ar.replaceAllCall; split
    · split
      · exact h'
      · split
        · exact h'
        · dsimp only; split
          · exact (thin_insertAt (thin_empty h _) _ _ _).mono (Nat.le_succ m)
          · exact (thin_empty h _).mono (Nat.le_succ m)
    · exact h'
  · dsimp only; unfold Ar.adoptCall; split
    · split
      · exact h'
      · exact (thin_adoptF _ _ _ h).mono (Nat.le_succ m)
    · exact h'
  · unfold Ar.createElement; split
    · exact h'
    · split
      · exact h'
      · exact (thin_element h _ _ _ (Nat.zero_le _)).mono (Nat.le_succ m)
  · dsimp only; unfold Ar.setAttr; split
    · exact h'
    · split
      · exact h'
      · exact thin_setAttrs h' _ (thin_attrsWith h _ _ _ _)
  · dsimp only; unfold Ar.removeAttr; split
    · exact h'
    · split
      · exact h'
      · exact thin_setAttrs h' _ (Nat.le_trans (List.length_eraseIdx_le _ _) (Nat.le_trans (get_thin h _) (Nat.le_succ m)))
  · unfold Ar.cloneCall; split
    · exact (thin_dupF h _ _ _ _ h).mono (Nat.le_succ m)
    · exact h'
  · unfold Ar.importCall; split
    · split
      · exact h'
      · exact (thin_dupF h _ _ _ _ h).mono (Nat.le_succ m)
    · exact h'
  · dsimp only; unfold Ar.setText; split
    · exact h'
    · split
      · exact thin_setData h' _ _
      · split
        · split
          · exact (thin_empty h _).mono (Nat.le_succ m)
          · exact (thin_put (thin_make (thin_empty h _) _ rfl) _ _ _).mono (Nat.le_succ m)
        · exact h'
  · dsimp only; unfold Ar.normalize; split
    · exact (foldl_inv (P := fun B : Ar => B.Thin m) (thin_join h _) (fun B y hy hB => thin_join hB y)).mono (Nat.le_succ m)
    · exact h'
  · unfold Ar.split; split
    · exact h'
    · split
      · exact h'
      · split
        · exact h'
        · dsimp only; split
          · exact thin_put (thin_setData (thin_make h' _ rfl) _ _) _ _ _
          · exact thin_setData (thin_make h' _ rfl) _ _
  · exact (thin_step h x hx).mono (Nat.le_succ m)

end Go.Proofs.YtpicinjcmjaogaaGreat

/- Layer 5 as plain data: the invariant, and how many nodes there may be. No program here. -/
namespace Go.Proofs.YtpicinjcmjaogaaGreat
set_option linter.unusedVariables false

theorem element_len (A : Ar) (d s : Int) (name : ByteArray) (l : List AttrD) : (A.element d s name l).2.ns.length ≤ A.ns.length + 3 := by
  have := step_len A ⟨3, d, 0, 0, false, s, name, ByteArray.empty, ByteArray.empty, l⟩
  simpa [Ar.step] using this
theorem inv_alone {A : Ar} (hI : A.Inv) (d : Int) {n : Nd} (hn : n.attrs.length ≤ 1000) : (A.alone d n).2.Inv := by
  unfold Ar.alone
  split
  · exact Ar.InvX.document hI _
  split
  · exact hI.make rfl rfl rfl rfl local_fragment (by simp [fragNd]) (by simp [fragNd])
  split
  · exact hI.make rfl rfl rfl rfl (local_doctype _ _ _) (by simp [docTypeNd]) (by simp [docTypeNd])
  split
  · exact hI.element _ _ _ _ hn
  split
  · exact hI.make rfl rfl rfl rfl (local_text _) (by simp [textNd]) (by simp [textNd])
  split
  · exact hI.make rfl rfl rfl rfl (local_comment _) (by simp [commentNd]) (by simp [commentNd])
  · exact hI

/-- What a call leaves that only adds: handles, kinds, inert documents. -/
structure Ar.More (A B : Ar) : Prop where
  inv : B.Inv
  has : ∀ x, A.has x → B.has x
  kind : ∀ x, A.has x → (B.get x).kind = (A.get x).kind
  inert : ∀ x, A.inertAt x ≠ 0 → B.inertAt x ≠ 0
theorem Ar.More.refl {A : Ar} (h : A.Inv) : A.More A := ⟨h, fun _ h => h, fun _ _ => rfl, fun _ h => h⟩
theorem Ar.More.trans {A B C : Ar} (h : A.More B) (k : B.More C) : A.More C :=
  ⟨k.inv, fun x hx => k.has x (h.has x hx), fun x hx => (k.kind x (h.has x hx)).trans (h.kind x hx), fun x hx => k.inert x (h.inert x hx)⟩
theorem more_put {A : Ar} (hI : A.Inv) (p x c : Int) : A.More (A.put p x c).2 :=
  ⟨Ar.Inv.put hI p x c, fun y hy => (put_get hI p x c hy).1, fun y hy => (put_get hI p x c hy).2.1, fun y hy => by unfold Ar.inertAt at *; rw [(put_keeps A p x c).1]; exact hy⟩
theorem more_add {A : Ar} (hA : A.Inv) {n : Nd} (hI : (A.add n).Inv) : A.More (A.add n) :=
  ⟨hI, fun y hy => (Ar.add_has _ _ _).2 (.inl hy), fun y hy => by rw [Ar.add_old n hy], fun y hy => by
    rw [Ar.add_inertAt hA.wf.inert]; exact hy⟩
theorem cap_add {A : Ar} (hA : A.Inv) (n : Nd) (d : Int) : (A.add n).cap d = A.cap d + 1 := by
  unfold Ar.cap
  rw [Ar.add_inertAt hA.wf.inert, add_len]; omega
/-- A new element adds itself and, if it is a template, its contents, besides an inert document. -/
theorem more_element {A : Ar} (hA : A.Inv) {d s : Int} {name : ByteArray} {l : List AttrD} (hl : l.length ≤ 1000) (hd : A.has d) (hk : (A.get d).kind = 1) :
    A.More (A.element d s name l).2 ∧ (A.element d s name l).2.cap d ≤ A.cap d + (if s = 1 ∧ name.toList = templateL then 2 else 1) ∧
      (isTemplate (elemNd d s name l) → inSpaces s ∧ attrSpaces l → (A.element d s name l).2.inertAt d ≠ 0) := by
  have he : A.ofDoc d = 0 := by unfold Ar.ofDoc; rw [if_neg (fun h => h hd), if_neg (fun h => h hk)]
  have hinv := Ar.Inv.element hA d s name l hl
  by_cases hs : inSpaces s ∧ attrSpaces l
  · have hI1 : (A.add (elemNd d s name l)).InvX (if isTemplate (elemNd d s name l) then A.n + 1 else 0) := by
      split
      · rename_i ht; exact Ar.InvX.added hA rfl rfl rfl rfl (local_elem hs.1 hs.2 hl) (.inl ⟨hd, hk, by simp [elemNd]⟩) (.inr ⟨rfl, rfl⟩)
      · rename_i ht; exact Ar.InvX.added hA rfl rfl rfl rfl (local_elem hs.1 hs.2 hl) (.inl ⟨hd, hk, by simp [elemNd]⟩) (.inl ⟨rfl, ht⟩)
    by_cases ht : isTemplate (elemNd d s name l)
    · have ht' : s = 1 ∧ name.toList = templateL := ⟨ht.2.1, ht.2.2⟩
      rw [if_pos ht']
      rw [elem_templ he hs ht] at hinv ⊢
      dsimp only at hinv ⊢
      have hd1 : (A.add (elemNd d s name l)).has d := (Ar.add_has _ _ _).2 (.inl hd)
      have hwi : (A.add (elemNd d s name l)).inert.length = (A.add (elemNd d s name l)).ns.length + 1 := hI1.wf.inert
      have hat := inertOf_at hd1 hwi
      have hl2 : ((A.add (elemNd d s name l)).inertOf d).2.inert.length = ((A.add (elemNd d s name l)).inertOf d).2.ns.length + 1 := (hI1.inertOf hd1).wf.inert
      have hin : ∀ y, ((((A.add (elemNd d s name l)).inertOf d).2.add (contNd (A.n + 1) ((A.add (elemNd d s name l)).inertOf d).1)).mod (A.n + 1) (fun x => { x with contents := ((A.add (elemNd d s name l)).inertOf d).2.n + 1 })).inertAt y = ((A.add (elemNd d s name l)).inertOf d).2.inertAt y := fun y => by
        show (((A.add (elemNd d s name l)).inertOf d).2.add (contNd (A.n + 1) ((A.add (elemNd d s name l)).inertOf d).1)).inertAt y = _
        exact Ar.add_inertAt hl2 _ y
      have hnew : (A.add (elemNd d s name l)).has (A.n + 1) := (Ar.add_has _ _ _).2 (.inr rfl)
      refine ⟨⟨hinv, fun y hy => ?_, fun y hy => ?_, fun y hy => ?_⟩, ?_, fun _ _ => ?_⟩
      · exact (Ar.mod_has _ _ _ _).2 ((Ar.add_has _ _ _).2 (.inl (Ar.inertOf_get ((Ar.add_has _ _ _).2 (.inl hy))).2))
      · have h1 : (A.add (elemNd d s name l)).has y := (Ar.add_has _ _ _).2 (.inl hy)
        have h2 := Ar.inertOf_get (d := d) h1
        have h3 := Ar.inertOf_get (d := d) hnew
        rw [Ar.mod_get _ ((Ar.add_has _ _ _).2 (.inl h3.2)) ((Ar.add_has _ _ _).2 (.inl h2.2))]
        have hne : y ≠ A.n + 1 := fun e => Ar.new_no A (e ▸ hy)
        rw [if_neg hne, Ar.add_old _ h2.2, h2.1, Ar.add_old _ hy]
      · rw [hin]
        have h1 : (A.add (elemNd d s name l)).inertAt y ≠ 0 := by rw [Ar.add_inertAt hA.wf.inert]; exact hy
        unfold Ar.inertOf
        split
        · exact h1
        · rename_i q
          have hlen : ((A.add (elemNd d s name l)).document false).inert.length = A.ns.length + 3 := by simp [Ar.document, Ar.add, hA.wf.inert]
          have hd1' := hd.1
          have hd2' := hd.2
          unfold Ar.n at hd2'
          have hn1 : (A.add (elemNd d s name l)).n = (A.ns.length : Int) + 1 := by rw [Ar.add_n]; rfl
          have e := set2_get (l := ((A.add (elemNd d s name l)).document false).inert) (i := d.toNat) (j := ((A.add (elemNd d s name l)).n + 1).toNat) (k := y.toNat) (v := (A.add (elemNd d s name l)).n + 1) (u := (A.add (elemNd d s name l)).n + 1) (by omega) (by omega)
          show ((((A.add (elemNd d s name l)).document false).inert.set d.toNat ((A.add (elemNd d s name l)).n + 1)).set ((A.add (elemNd d s name l)).n + 1).toNat ((A.add (elemNd d s name l)).n + 1))[y.toNat]?.getD 0 ≠ 0
          rw [e]
          split
          · omega
          · split
            · omega
            · show ((A.add (elemNd d s name l)).document false).inertAt y ≠ 0
              rw [Ar.document, Ar.add_inertAt hwi]; exact h1
      · have h1 := inertOf_cap hd1 hwi
        have h2 := cap_add hA (elemNd d s name l) d
        unfold Ar.cap at h1 h2 ⊢
        rw [hin d, mod_len, add_len]
        omega
      · rw [hin]; exact hat.2
    · rw [if_neg ht] at hI1
      rw [elem_plain he hs ht]
      refine ⟨more_add hA hI1, ?_, fun h => absurd h ht⟩
      have := cap_add hA (elemNd d s name l) d
      dsimp only
      split <;> omega
  · rw [elem_false he hs]
    refine ⟨Ar.More.refl hA, ?_, fun _ h => absurd h hs⟩
    dsimp only
    split <;> omega

end Go.Proofs.YtpicinjcmjaogaaGreat
