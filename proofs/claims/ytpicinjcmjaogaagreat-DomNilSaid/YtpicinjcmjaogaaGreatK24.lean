/-
  Parts: DN, DQ.
-/
import Derived.Test.YtpicinjcmjaogaaGreatK20
import Derived.Test.YtpicinjcmjaogaaGreatK23

/- Layer 5 as plain data: the invariant behind an operation, and how many nodes there are. No program here. -/
namespace Go.Proofs.YtpicinjcmjaogaaGreat
set_option linter.unusedVariables false

theorem empty_facts {A : Ar} {p : Int} (hI : A.Inv) (hp : A.has p) : (A.empty p).Inv ∧ (A.empty p).n = A.n ∧ (A.empty p).inert = A.inert ∧ ∀ x, A.has x → ((A.empty p).get x).kind = (A.get x).kind ∧ ((A.empty p).get x).doc = (A.get x).doc := by
  refine foldl_inv (P := fun B : Ar => B.Inv ∧ B.n = A.n ∧ B.inert = A.inert ∧ ∀ x, A.has x → (B.get x).kind = (A.get x).kind ∧ (B.get x).doc = (A.get x).doc) ⟨hI, rfl, rfl, fun _ _ => ⟨rfl, rfl⟩⟩ ?_
  rintro B x hx ⟨q1, q2, q3, q4⟩
  have hx' := (kid_up hI hp hx).1
  have hhas : ∀ y, B.has y ↔ A.has y := fun y => by unfold Ar.has; rw [q2]
  refine ⟨Ar.InvX.cut q1 ((hhas x).2 hx'), (Ar.cut_n B x).trans q2, (Ar.cut_inert B x).trans q3, fun y hy => ?_⟩
  rw [Ar.cut_get q1 ((hhas x).2 hx') ((hhas y).2 hy)]
  exact q4 y hy
theorem n_len {A B : Ar} (h : A.n = B.n) : A.ns.length = B.ns.length := by unfold Ar.n at h; omega
theorem put_len (A : Ar) (p x c : Int) : (A.put p x c).2.ns.length = A.ns.length := (put_keeps A p x c).2

theorem step5_facts {A : Ar} (hI : A.Inv) (hT : A.Thin 900) (x : OpD) (hx : x.attrs.length ≤ 20) :
    (A.step5 x).2.Inv ∧ (A.step5 x).2.ns.length ≤ (if x.kind = 31 ∨ x.kind = 32 then 2 * A.ns.length + 1 else A.ns.length + 3) := by
  have ins : ∀ p n c : Int, (A.insertCall p n c).2.Inv ∧ (A.insertCall p n c).2.ns.length ≤ A.ns.length + 3 := by
    intro p n c
    unfold Ar.insertCall
    by_cases hv : A.validate p n c = 0
    · rw [if_neg (fun e => e hv)]
      unfold Ar.validate at hv
      by_cases hh : A.has p ∧ A.has n ∧ (c ≠ 0 → A.has c)
      · obtain ⟨q1, q2⟩ := insertAt_facts (c := if c = n then A.next n else c) hI hh.1 hh.2.1
        exact ⟨q1, by dsimp only; omega⟩
      · rw [if_neg hh] at hv; exact absurd hv (by decide)
    · rw [if_pos hv]; exact ⟨hI, by dsimp only; omega⟩
  have triv : A.Inv ∧ A.ns.length ≤ A.ns.length + 3 := ⟨hI, by omega⟩
  refine step5_rec (P := fun r => r.2.Inv ∧ r.2.ns.length ≤ (if x.kind = 31 ∨ x.kind = 32 then 2 * A.ns.length + 1 else A.ns.length + 3)) ?_ ?_ ?_ ?_ ?_ ?_ ?_ ?_ ?_ ?_ ?_ ?_ ?_ ?_ ?_ ?_ <;> intro e
  · rw [if_neg (by omega)]; exact ins _ _ _
  · rw [if_neg (by omega)]; exact ins _ _ _
  · rw [if_neg (by omega)]
    dsimp only; unfold Ar.replaceCall; split
    · rename_i hh
      split
      · exact triv
      · obtain ⟨q1, q2⟩ := insertAt_facts (p := x.a) (n := x.b) (c := if A.next x.c = x.b then A.next x.b else A.next x.c) (Ar.InvX.cut hI hh.2.2) ((Ar.cut_has _ _ _).2 hh.1) ((Ar.cut_has _ _ _).2 hh.2.1)
        exact ⟨q1, by rw [Ar.cut_ns] at q2; dsimp only; omega⟩
    · exact triv
  · rw [if_neg (by omega)]
    dsimp only; unfold Ar.removeCall; split
    · rename_i hh
      split
      · exact triv
      · exact ⟨Ar.InvX.cut hI hh.2, by dsimp only; rw [Ar.cut_ns]; omega⟩
    · exact triv
  · rw [if_neg (by omega)]
    dsimp only; unfold Ar.cutCall; split
    · rename_i hh
      exact ⟨Ar.InvX.cut hI hh, by dsimp only; rw [Ar.cut_ns]; omega⟩
    · exact triv
  · rw [if_neg (by omega)]
    dsimp only; unfold Ar.replaceAllCall; split
    · rename_i hh
      split
      · exact triv
      · split
        · exact triv
        · obtain ⟨q1, q2, q3, q4⟩ := empty_facts hI hh.1
          have hl := n_len q2
          dsimp only; split
          · rename_i hn
            have hhas : ∀ y, (A.empty x.a).has y ↔ A.has y := fun y => by unfold Ar.has; rw [q2]
            obtain ⟨r1, r2⟩ := insertAt_facts (p := x.a) (n := x.b) (c := 0) q1 ((hhas _).2 hh.1) ((hhas _).2 (hh.2 hn))
            exact ⟨r1, by omega⟩
          · exact ⟨q1, by omega⟩
    · exact triv
  · rw [if_neg (by omega)]
    dsimp only; unfold Ar.adoptCall; split
    · rename_i hh
      split
      · exact triv
      · rename_i hk
        obtain ⟨q1, q2, q3⟩ := adopt_facts hI hh.1 hh.2 (Classical.not_not.1 (fun z => hk (.inl z)))
        refine ⟨q1, ?_⟩
        have g1 := Ar.cap_ge (A.adopt x.a x.b) x.b
        have g2 := Ar.cap_le A x.b
        dsimp only
        omega
    · exact triv
  · rw [if_neg (by omega)]
    unfold Ar.createElement; split
    · exact triv
    · split
      · exact triv
      · exact ⟨hI.element _ _ _ _ (by simp), element_len _ _ _ _ _⟩
  · rw [if_neg (by omega)]
    dsimp only; unfold Ar.setAttr; split
    · exact triv
    · split
      · exact triv
      · refine ⟨hI.setAttrs _ _ (Nat.le_trans (thin_attrsWith hT _ _ _ _) (by omega)), ?_⟩
        unfold Ar.setAttrs
        repeat' split
        all_goals first | exact Nat.le_add_right _ _ | (dsimp only; rw [mod_len]; omega)
  · rw [if_neg (by omega)]
    dsimp only; unfold Ar.removeAttr; split
    · exact triv
    · split
      · exact triv
      · refine ⟨hI.setAttrs _ _ (Nat.le_trans (List.length_eraseIdx_le _ _) (Nat.le_trans (get_thin hT _) (by omega))), ?_⟩
        dsimp only
        unfold Ar.setAttrs
        repeat' split
        all_goals first | exact Nat.le_add_right _ _ | (dsimp only; rw [mod_len]; omega)
  · rw [if_pos (.inl e)]
    unfold Ar.cloneCall; split
    · rename_i hh
      obtain ⟨d1, d2⟩ := hI.docK x.a hh
      obtain ⟨q1, q2⟩ := dupF_any (deep := x.flag) hI hI d1 d2 hh (walk_len hI x.a)
      have := walk_len hI x.a
      exact ⟨q1, by dsimp only; omega⟩
    · exact ⟨hI, by dsimp only; omega⟩
  · rw [if_pos (.inr e)]
    unfold Ar.importCall; split
    · rename_i hh
      split
      · exact ⟨hI, by dsimp only; omega⟩
      · rename_i hk
        obtain ⟨q1, q2⟩ := dupF_any (deep := true) hI hI hh.1 (Classical.not_not.1 (fun z => hk (.inl z))) hh.2 (walk_len hI x.b)
        have := walk_len hI x.b
        exact ⟨q1, by dsimp only; omega⟩
    · exact ⟨hI, by dsimp only; omega⟩
  · rw [if_neg (by omega)]
    dsimp only; unfold Ar.setText; split
    · exact triv
    · rename_i hh
      have hh := Classical.not_not.1 hh
      split
      · exact ⟨hI.setData _ _, by rw [(setData_n _ _ _).2.1]; omega⟩
      · split
        · obtain ⟨q1, q2, q3, q4⟩ := empty_facts hI hh
          have hl := n_len q2
          split
          · exact ⟨q1, by dsimp only; omega⟩
          · dsimp only
            refine ⟨Ar.Inv.put (q1.make rfl rfl rfl rfl (local_text _) (by simp [textNd]) (by simp [textNd])) _ _ _, ?_⟩
            rw [put_len]
            have := make_len (A.empty x.a) ((A.empty x.a).get x.a).doc (textNd x.s)
            omega
        · exact triv
  · rw [if_neg (by omega)]
    obtain ⟨q1, q2, -, -⟩ := normalize_gain hI x.a
    exact ⟨q1, by dsimp only; omega⟩
  · rw [if_neg (by omega)]
    unfold Ar.split; split
    · exact triv
    · split
      · exact triv
      · split
        · exact triv
        · dsimp only
          have m1 : (A.make (A.get x.a).doc (textNd ⟨((A.get x.a).data.toList.drop x.b.toNat).toArray⟩)).2.Inv := hI.make rfl rfl rfl rfl (local_text _) (by simp [textNd]) (by simp [textNd])
          have m2 := make_len A (A.get x.a).doc (textNd ⟨((A.get x.a).data.toList.drop x.b.toNat).toArray⟩)
          split
          · exact ⟨Ar.Inv.put (m1.setData _ _) _ _ _, by rw [put_len, (setData_n _ _ _).2.1]; exact m2⟩
          · exact ⟨m1.setData _ _, by rw [(setData_n _ _ _).2.1]; exact m2⟩
  · rw [if_neg (by omega)]
    exact ⟨hI.step x hx, step_len A x⟩

end Go.Proofs.YtpicinjcmjaogaaGreat

/- Layer 5 as plain data: the arena while a copy is made. No program here. -/
namespace Go.Proofs.YtpicinjcmjaogaaGreat
set_option linter.unusedVariables false

/-- While nodes of C are copied: the nodes of A0 are as they were. -/
structure DupI (A0 B : Ar) (d : Int) (X : Nat) : Prop where
  inv : B.Inv
  has : B.has d
  kind : (B.get d).kind = 1
  old : ∀ x, A0.has x → B.has x ∧ B.get x = A0.get x
  cap : B.cap d ≤ X
theorem DupI.mono {A0 B : Ar} {d : Int} {X Y : Nat} (h : DupI A0 B d X) (hXY : X ≤ Y) : DupI A0 B d Y := ⟨h.inv, h.has, h.kind, h.old, Nat.le_trans h.cap hXY⟩

theorem DupI.step {C A0 B : Ar} (hC : C.Inv) {d : Int} {X m : Nat} (hI : DupI A0 B d X) {k c : Int} (hk : C.has k ∧ (C.get k).kind ≠ 1 ∧ (C.get k).kind ≠ 2) (hw : (C.walk k).length ≤ m) (hc : ¬ A0.has c) (hcB : B.has c) (hck : (B.get c).kind = 1 ∨ (B.get c).kind = 2 ∨ (B.get c).kind = 4) :
    DupI A0 (dupStep (fun B k => dupF C true m B d k) c B k) d (X + (C.walk k).length) ∧ (dupStep (fun B k => dupF C true m B d k) c B k).has c ∧ ((dupStep (fun B k => dupF C true m B d k) c B k).get c).kind = (B.get c).kind ∧
      (∀ x, B.inertAt x ≠ 0 → (dupStep (fun B k => dupF C true m B d k) c B k).inertAt x ≠ 0) := by
  obtain ⟨K2, S⟩ := copies_fold hC (rec := fun B k => dupF C true m B d k) (d := d) (c := c) [k] (B := B) (fun B' k' hk' hB hd hkd => by simp at hk'; subst hk'; exact copy_facts hC m hB hd hkd hk.1 hk.2.1 hw) (fun k' hk' => by simp at hk'; subst hk'; exact hk.2) hI.inv hI.has hI.kind hcB (fun _ => hck)
  obtain ⟨f1, f2⟩ := dup_fold (C := C) (rec := fun B k => dupF C true m B d k) (d := d) (c := c) [k] (A := B) (fun B' k' hk' hB hd hkd => by simp at hk'; subst hk'; exact dupF_facts hC m true hB hd hkd hk.1 hk.2.1 hw) hI.inv hI.has hI.kind
  have e : [k].foldl (dupStep (fun B k => dupF C true m B d k) c) B = dupStep (fun B k => dupF C true m B d k) c B k := rfl
  rw [e] at S f1 f2
  refine ⟨⟨f1.inv, f1.has d hI.has, (f1.kind d hI.has).trans hI.kind, fun x hx => ?_, ?_⟩, f1.has c hcB, f1.kind c hcB, f1.inert⟩
  · obtain ⟨h1, h2⟩ := hI.old x hx
    obtain ⟨s1, s2⟩ := S.old x h1
    have hne : x ≠ c := fun e => hc (by rw [← e]; exact hx)
    rw [if_neg hne] at s2
    exact ⟨s1, s2.trans h2⟩
  · have := hI.cap
    simp at f2
    omega

/-- The stages of the copies of some nodes. -/
theorem DupI.fold {C A0 B : Ar} (hC : C.Inv) {d : Int} {X m : Nat} (hI : DupI A0 B d X) {c : Int} (hc : ¬ A0.has c) (hcB : B.has c) (ks : List Int) (hck : ks ≠ [] → (B.get c).kind = 1 ∨ (B.get c).kind = 2 ∨ (B.get c).kind = 4) (hk : ∀ k ∈ ks, C.has k ∧ (C.get k).kind ≠ 1 ∧ (C.get k).kind ≠ 2 ∧ (C.walk k).length ≤ m) :
    ∀ i, i ≤ ks.length → DupI A0 ((ks.take i).foldl (dupStep (fun B k => dupF C true m B d k) c) B) d (X + ((ks.take i).flatMap C.walk).length) ∧ ((ks.take i).foldl (dupStep (fun B k => dupF C true m B d k) c) B).has c ∧
      (((ks.take i).foldl (dupStep (fun B k => dupF C true m B d k) c) B).get c).kind = (B.get c).kind ∧ (∀ x, B.inertAt x ≠ 0 → ((ks.take i).foldl (dupStep (fun B k => dupF C true m B d k) c) B).inertAt x ≠ 0)
  | 0, _ => ⟨by simpa using hI, hcB, rfl, fun _ h => h⟩
  | i + 1, hi => by
    obtain ⟨k, hx⟩ : ∃ k, ks[i]? = some k := ⟨_, List.getElem?_eq_getElem (by omega)⟩
    have hkm := List.mem_of_getElem? hx
    have hne : ks ≠ [] := fun e => by rw [e] at hkm; simp at hkm
    obtain ⟨p1, p2, p3, p4⟩ := DupI.fold hC hI hc hcB ks hck hk i (by omega)
    obtain ⟨q1, q2, q3, q4⟩ := hk k hkm
    obtain ⟨r1, r2, r3, r4⟩ := p1.step hC ⟨q1, q2, q3⟩ q4 hc p2 (by rw [p3]; exact hck hne)
    rw [List.take_add_one, hx]
    simp only [Option.toList_some, List.foldl_append, List.foldl_cons, List.foldl_nil, List.flatMap_append, List.flatMap_cons, List.flatMap_nil, List.append_nil, List.length_append]
    refine ⟨?_, r2, r3.trans p3, fun x hx => r4 x (p4 x hx)⟩
    rw [← Nat.add_assoc]; exact r1

theorem flat_le {C : Ar} {ks : List Int} {i : Nat} {k : Int} (hx : ks[i]? = some k) : ((ks.take i).flatMap C.walk).length + (C.walk k).length ≤ (ks.flatMap C.walk).length := by
  have : ks.take (i + 1) = ks.take i ++ [k] := by rw [List.take_add_one, hx]; rfl
  conv => rhs; rw [← List.take_append_drop (i + 1) ks, List.flatMap_append, this, List.flatMap_append]
  simp <;> omega
theorem walk_kids_len {C : Ar} (hC : C.Inv) {h : Int} (hh : C.has h) : ((C.get h).kids.flatMap C.walk).length + 1 ≤ (C.walk h).length := by
  rw [walk_eq hC hh]; simp <;> omega
theorem kids_copy {C : Ar} (hC : C.Inv) {h : Int} {m : Nat} (hh : C.has h) (hw : (C.walk h).length ≤ m + 1) : ∀ k ∈ (C.get h).kids, C.has k ∧ (C.get k).kind ≠ 1 ∧ (C.get k).kind ≠ 2 ∧ (C.walk k).length ≤ m := fun k hk => by
  obtain ⟨q1, q2, q3⟩ := kid_up hC hh hk
  have h1 := hC.par k q1 (by rw [q3]; have := hh.1; omega)
  obtain ⟨i, hi⟩ := List.getElem?_of_mem hk
  have h2 := flat_le (C := C) hi
  have h3 := walk_kids_len hC hh
  exact ⟨q1, h1.1, h1.2, by omega⟩

/-- The first stage: one node is made. -/
theorem DupI.alone {A C : Ar} {d h : Int} (hA : A.Inv) (hC : C.Inv) (hd : A.has d) (hk : (A.get d).kind = 1) (hh : C.has h) (h1 : (C.get h).kind ≠ 1) :
    DupI A (A.alone d (C.get h)).2 d (A.cap d + (if (C.get h).contents ≠ 0 then 2 else 1)) ∧ (A.alone d (C.get h)).1 = A.n + 1 ∧ (A.alone d (C.get h)).2.has (A.n + 1) ∧ ((A.alone d (C.get h)).2.get (A.n + 1)).kind = (C.get h).kind := by
  obtain ⟨a1, a2, a3⟩ := alone_facts hA hC hd hk hh h1
  obtain ⟨n1, n2, n3⟩ := alone_new hA hC hd hk hh h1
  refine ⟨⟨a1.inv, a1.has d hd, (a1.kind d hd).trans hk, n2.old, ?_⟩, n1, n2.has, n2.like.1.symm⟩
  have : isTemplate (C.get h) ↔ (C.get h).contents ≠ 0 := ⟨fun q => by
    have := (hC.cont h hh (by have := hh.1; omega) q).1.1
    omega, fun q => Classical.byContradiction fun t => q (hC.nocont h hh (.inr t))⟩
  by_cases q : (C.get h).contents = 0
  · rw [if_neg (fun e => e q)]; rw [if_neg (fun e => this.1 e q)] at a2; exact a2
  · rw [if_pos q]; rw [if_pos (this.2 q)] at a2; exact a2
theorem DupI.document {A : Ar} (hA : A.Inv) (q : Bool) : DupI A (A.document q) (A.n + 1) (A.ns.length + 2) ∧ (A.document q).has (A.n + 1) ∧ ((A.document q).get (A.n + 1)).kind = 1 := by
  have hnew : (A.document q).has (A.n + 1) := (Ar.add_has _ _ _).2 (.inr rfl)
  have hk : ((A.document q).get (A.n + 1)).kind = 1 := by unfold Ar.document; rw [Ar.add_new]
  refine ⟨⟨Ar.InvX.document hA q, hnew, hk, fun x hx => ⟨(Ar.add_has _ _ _).2 (.inl hx), Ar.add_old _ hx⟩, ?_⟩, hnew, hk⟩
  have := Ar.cap_le (A.document q) (A.n + 1)
  have h2 : (A.document q).ns.length = A.ns.length + 1 := by simp [Ar.document, Ar.add]
  omega
theorem no_new {A : Ar} : ¬ A.has (A.n + 1) := Ar.new_no A

end Go.Proofs.YtpicinjcmjaogaaGreat
