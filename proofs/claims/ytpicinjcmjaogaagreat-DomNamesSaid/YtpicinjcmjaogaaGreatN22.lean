/-
  Parts: DH.
-/
import Derived.Test.YtpicinjcmjaogaaGreatN21

/- Layer 5 as plain data: how many nodes a copy makes. No program here. -/
namespace Go.Proofs.YtpicinjcmjaogaaGreat
set_option linter.unusedVariables false

def dupMid (C : Ar) (deep : Bool) (m : Nat) (r : Int × Ar) (d h : Int) : Ar :=
  if (C.get h).kind = 4 ∧ deep = true ∧ (C.get h).contents ≠ 0 then
    (C.get (C.get h).contents).kids.foldl (dupStep (fun B k => dupF C true m B (r.2.inertCall d).1.1 k) (r.2.get r.1).contents) (r.2.inertCall d).2
  else r.2
theorem dupF_eq (C : Ar) (deep : Bool) (m : Nat) (A : Ar) (d h : Int) : dupF C deep (m + 1) A d h =
    ((A.alone d (C.get h)).1, if deep = true then (C.get h).kids.foldl (dupStep (fun B k => dupF C true m B (if (C.get h).kind = 1 then (A.alone d (C.get h)).1 else d) k) (A.alone d (C.get h)).1) (dupMid C deep m (A.alone d (C.get h)) d h)
      else dupMid C deep m (A.alone d (C.get h)) d h) := rfl

theorem ofDoc_zero {A : Ar} {d : Int} (hd : A.has d) (hk : (A.get d).kind = 1) : A.ofDoc d = 0 := by
  unfold Ar.ofDoc; rw [if_neg (fun h => h hd), if_neg (fun h => h hk)]
theorem make_zero {A : Ar} {d : Int} (n : Nd) (he : A.ofDoc d = 0) : A.make d n = ((A.n + 1, 0), A.add { n with doc := d }) := by
  unfold Ar.make; rw [if_neg (fun h => h he)]
theorem inertCall_at {A : Ar} {d : Int} (he : A.ofDoc d = 0) (hi : A.inertAt d ≠ 0) : A.inertCall d = ((A.inertAt d, 0), A) := by
  unfold Ar.inertCall
  rw [if_neg (fun h => h he)]
  unfold Ar.inertOf
  rw [if_pos hi]

/-- What holds of a copy of a single node. -/
theorem alone_facts {A C : Ar} {d h : Int} (hA : A.Inv) (hC : C.Inv) (hd : A.has d) (hk : (A.get d).kind = 1) (hh : C.has h) (h1 : (C.get h).kind ≠ 1) :
    A.More (A.alone d (C.get h)).2 ∧ (A.alone d (C.get h)).2.cap d ≤ A.cap d + (if isTemplate (C.get h) then 2 else 1) ∧ (isTemplate (C.get h) → (A.alone d (C.get h)).2.inertAt d ≠ 0) := by
  have he := ofDoc_zero hd hk
  have hl := hC.loc h hh
  have hinv := inv_alone hA d (n := C.get h) hl.at3
  have mk : ∀ n : Nd, (A.make d n).2.Inv → A.More (A.make d n).2 ∧ (A.make d n).2.cap d ≤ A.cap d + 1 := by
    intro n hi
    rw [make_zero n he] at hi ⊢
    exact ⟨more_add hA hi, by rw [cap_add hA]; exact Nat.le_refl _⟩
  by_cases h4 : (C.get h).kind = 4
  · have e : (A.alone d (C.get h)).2 = (A.element d (C.get h).space (C.get h).name (C.get h).attrs).2 := by
      unfold Ar.alone
      rw [if_neg h1, if_neg (by omega), if_neg (by omega), if_pos h4]
    rw [e]
    obtain ⟨q1, q2, q3⟩ := more_element hA (s := (C.get h).space) (name := (C.get h).name) hl.at3 hd hk
    have ht : isTemplate (C.get h) ↔ ((C.get h).space = 1 ∧ (C.get h).name.toList = templateL) := ⟨fun q => q.2, fun q => ⟨h4, q⟩⟩
    refine ⟨q1, ?_, fun q => q3 ⟨rfl, q.2.1, q.2.2⟩ ⟨hl.sp, hl.at1⟩⟩
    by_cases q : isTemplate (C.get h)
    · rw [if_pos q]; rw [if_pos (ht.1 q)] at q2; exact q2
    · rw [if_neg q]; rw [if_neg (fun x => q (ht.2 x))] at q2; exact q2
  · have ht : ¬ isTemplate (C.get h) := fun q => h4 q.1
    rw [if_neg ht]
    have : ∃ n : Nd, (A.alone d (C.get h)).2 = (A.make d n).2 := by
      have k1 := hl.k1
      have k6 := hl.k6
      unfold Ar.alone
      rw [if_neg h1]
      by_cases a2 : (C.get h).kind = 2
      · rw [if_pos a2]; exact ⟨_, rfl⟩
      rw [if_neg a2]
      by_cases a3 : (C.get h).kind = 3
      · rw [if_pos a3]; exact ⟨_, rfl⟩
      rw [if_neg a3, if_neg h4]
      by_cases a5 : (C.get h).kind = 5
      · rw [if_pos a5]; exact ⟨_, rfl⟩
      rw [if_neg a5, if_pos (by omega)]; exact ⟨_, rfl⟩
    obtain ⟨n, e⟩ := this
    rw [e] at hinv ⊢
    exact ⟨(mk n hinv).1, (mk n hinv).2, fun q => absurd q ht⟩

theorem dup_fold {C : Ar} {rec : Ar → Int → Int × Ar} {d c : Int} : ∀ (l : List Int) {A : Ar},
    (∀ (B : Ar) k, k ∈ l → B.Inv → B.has d → (B.get d).kind = 1 → B.More (rec B k).2 ∧ (rec B k).2.cap d ≤ B.cap d + (C.walk k).length) →
    A.Inv → A.has d → (A.get d).kind = 1 → A.More (l.foldl (dupStep rec c) A) ∧ (l.foldl (dupStep rec c) A).cap d ≤ A.cap d + (l.flatMap C.walk).length
  | [], A, _, hA, _, _ => ⟨Ar.More.refl hA, by simp⟩
  | k :: l, A, hrec, hA, hd, hk => by
    obtain ⟨m1, c1⟩ := hrec A k (by simp) hA hd hk
    have m2 := more_put m1.inv c (rec A k).1 0
    have c2 : ((rec A k).2.put c (rec A k).1 0).2.cap d = (rec A k).2.cap d := Ar.cap_of (put_keeps _ _ _ _).1 (put_keeps _ _ _ _).2
    have m3 : A.More (dupStep rec c A k) := m1.trans m2
    obtain ⟨m4, c4⟩ := dup_fold (C := C) (rec := rec) (d := d) (c := c) l (A := dupStep rec c A k) (fun B k' hk' => hrec B k' (by simp [hk'])) m3.inv (m3.has d hd) ((m3.kind d hd).trans hk)
    refine ⟨m3.trans m4, ?_⟩
    have e : (dupStep rec c A k).cap d = (rec A k).2.cap d := c2
    rw [List.foldl_cons, List.flatMap_cons, List.length_append]
    omega

theorem cap_at {A : Ar} {d : Int} (h : A.inertAt d ≠ 0) : A.cap d = A.ns.length := by unfold Ar.cap; rw [if_neg h]; rfl

/-- A copy of a node that is no document. -/
theorem dupF_facts {C : Ar} (hC : C.Inv) : ∀ (m : Nat) (deep : Bool) {A : Ar} {d h : Int}, A.Inv → A.has d → (A.get d).kind = 1 → C.has h → (C.get h).kind ≠ 1 → (C.walk h).length ≤ m →
    A.More (dupF C deep m A d h).2 ∧ (dupF C deep m A d h).2.cap d ≤ A.cap d + (C.walk h).length
  | 0, deep, A, d, h, hA, hd, hk, hh, h1, hw => by have := walk_pos hC hh; omega
  | m + 1, deep, A, d, h, hA, hd, hk, hh, h1, hw => by
    rw [dupF_eq, if_neg h1]
    obtain ⟨a1, a2, a3⟩ := alone_facts hA hC hd hk hh h1
    have hwe := walk_eq hC hh
    have hkid : ∀ k ∈ (C.get h).kids, C.has k ∧ (C.get k).kind ≠ 1 := fun k hkk => by
      obtain ⟨q1, q2, q3⟩ := kid_up hC hh hkk
      exact ⟨q1, (hC.par k q1 (by rw [q3]; have := hh.1; omega)).1⟩
    have hkw : ∀ k ∈ (C.get h).kids, (C.walk k).length ≤ ((C.get h).kids.flatMap C.walk).length := fun k hkk => by
      obtain ⟨s, t, e⟩ := List.append_of_mem hkk
      rw [e]; simp; omega
    generalize A.alone d (C.get h) = r at a1 a2 a3 ⊢
    have hdr := a1.has d hd
    have hkr := (a1.kind d hd).trans hk
    -- the contents
    have hmid : r.2.More (dupMid C deep m r d h) ∧ (dupMid C deep m r d h).cap d + ((C.get h).kids.flatMap C.walk).length ≤ A.cap d + (C.walk h).length := by
      by_cases hc : (C.get h).contents = 0
      · have e : dupMid C deep m r d h = r.2 := by unfold dupMid; rw [if_neg (fun q => q.2.2 hc)]
        have ht : ¬ isTemplate (C.get h) := fun q => by
          have := (hC.cont h hh (by have := hh.1; omega) q).1.1
          omega
        rw [if_neg ht] at a2
        rw [e, hwe, if_neg (fun q => q hc)]
        refine ⟨Ar.More.refl a1.inv, ?_⟩
        simp only [List.length_cons, List.nil_append]
        omega
      · have ht : isTemplate (C.get h) := Classical.byContradiction fun q => hc (hC.nocont h hh (.inr q))
        obtain ⟨c1, c2, c3⟩ := hC.cont h hh (by have := hh.1; omega) ht
        have hia := a3 ht
        rw [if_pos ht] at a2
        have hwc := walk_eq hC c1
        have hl : (C.walk h).length = 1 + (1 + ((if (C.get (C.get h).contents).contents ≠ 0 then C.walk (C.get (C.get h).contents).contents else []).length + ((C.get (C.get h).contents).kids.flatMap C.walk).length)) + ((C.get h).kids.flatMap C.walk).length := by
          rw [hwe, if_pos hc, hwc]; simp only [List.length_cons, List.length_append]; omega
        by_cases hdp : deep = true
        · have hic := inertCall_at (ofDoc_zero hdr hkr) hia
          have e : dupMid C deep m r d h = (C.get (C.get h).contents).kids.foldl (dupStep (fun B k => dupF C true m B (r.2.inertAt d) k) (r.2.get r.1).contents) r.2 := by
            unfold dupMid; rw [if_pos ⟨ht.1, hdp, hc⟩, hic]
          obtain ⟨i1, i2, i3, i4⟩ := a1.inv.inert d hia
          have hckid : ∀ k ∈ (C.get (C.get h).contents).kids, C.has k ∧ (C.get k).kind ≠ 1 ∧ (C.walk k).length ≤ ((C.get (C.get h).contents).kids.flatMap C.walk).length := fun k hkk => by
            obtain ⟨q1, q2, q3⟩ := kid_up hC c1 hkk
            refine ⟨q1, (hC.par k q1 (by rw [q3]; have := c1.1; omega)).1, ?_⟩
            obtain ⟨s, t, e⟩ := List.append_of_mem hkk
            rw [e]; simp; omega
          obtain ⟨f1, f2⟩ := dup_fold (C := C) (rec := fun B k => dupF C true m B (r.2.inertAt d) k) (d := r.2.inertAt d) (c := (r.2.get r.1).contents) (C.get (C.get h).contents).kids (A := r.2)
            (fun B k hkk hB hBd hBk => dupF_facts hC m true hB hBd hBk (hckid k hkk).1 (hckid k hkk).2.1 (by have := (hckid k hkk).2.2; omega)) a1.inv i2 i3
          rw [← e] at f1 f2
          refine ⟨f1, ?_⟩
          rw [cap_at (f1.inert _ (by rw [i4]; exact hia)), cap_at (by rw [i4]; exact hia)] at f2
          rw [cap_at (f1.inert d hia)]
          rw [cap_at hia] at a2
          omega
        · have e : dupMid C deep m r d h = r.2 := by unfold dupMid; rw [if_neg (fun q => hdp q.2.1)]
          rw [e]
          exact ⟨Ar.More.refl a1.inv, by omega⟩
    obtain ⟨m1, m2⟩ := hmid
    by_cases hdp : deep = true
    · rw [if_pos hdp]
      obtain ⟨f1, f2⟩ := dup_fold (C := C) (rec := fun B k => dupF C true m B d k) (d := d) (c := r.1) (C.get h).kids (A := dupMid C deep m r d h)
        (fun B k hkk hB hBd hBk => dupF_facts hC m true hB hBd hBk (hkid k hkk).1 (hkid k hkk).2 (by
          have h1 := hkw k hkk
          have h2 : (C.walk h).length = 1 + ((if (C.get h).contents ≠ 0 then C.walk (C.get h).contents else []).length + ((C.get h).kids.flatMap C.walk).length) := by rw [hwe]; simp only [List.length_cons, List.length_append]; omega
          omega)) m1.inv (m1.has d hdr) ((m1.kind d hdr).trans hkr)
      exact ⟨(a1.trans m1).trans f1, by dsimp only; omega⟩
    · rw [if_neg hdp]
      exact ⟨a1.trans m1, by dsimp only; omega⟩

/-- A copy of any node: no more than its own tree, and one more. -/
theorem dupF_any {C : Ar} (hC : C.Inv) {m : Nat} {deep : Bool} {A : Ar} {d h : Int} (hA : A.Inv) (hd : A.has d) (hk : (A.get d).kind = 1) (hh : C.has h) (hw : (C.walk h).length ≤ m) :
    (dupF C deep m A d h).2.Inv ∧ (dupF C deep m A d h).2.ns.length ≤ A.ns.length + (C.walk h).length + 1 := by
  by_cases h1 : (C.get h).kind = 1
  · cases m with
    | zero => have := walk_pos hC hh; omega
    | succ m =>
      have hnt : ¬ isTemplate (C.get h) := fun q => by have := q.1; omega
      have hc : (C.get h).contents = 0 := hC.nocont h hh (.inr hnt)
      have hal : A.alone d (C.get h) = (A.n + 1, A.document (C.get h).quirks) := by unfold Ar.alone; rw [if_pos h1]
      have hmid : dupMid C deep m (A.n + 1, A.document (C.get h).quirks) d h = A.document (C.get h).quirks := by unfold dupMid; rw [if_neg (fun q => q.2.2 hc)]
      have hI : (A.document (C.get h).quirks).Inv := Ar.InvX.document hA _
      have hl : (A.document (C.get h).quirks).ns.length = A.ns.length + 1 := add_len _ _
      have hwe := walk_eq hC hh
      rw [if_neg (fun q => q hc)] at hwe
      have hwl : (C.walk h).length = 1 + ((C.get h).kids.flatMap C.walk).length := by rw [hwe]; simp; omega
      rw [dupF_eq, if_pos h1, hal]
      dsimp only
      rw [hmid]
      by_cases hdp : deep = true
      · rw [if_pos hdp]
        have hnew : (A.document (C.get h).quirks).has (A.n + 1) := (Ar.add_has _ _ _).2 (.inr rfl)
        have hnk : ((A.document (C.get h).quirks).get (A.n + 1)).kind = 1 := by rw [Ar.document, Ar.add_new]
        obtain ⟨f1, f2⟩ := dup_fold (C := C) (rec := fun B k => dupF C true m B (A.n + 1) k) (d := A.n + 1) (c := A.n + 1) (C.get h).kids (A := A.document (C.get h).quirks)
          (fun B k hkk hB hBd hBk => by
            obtain ⟨q1, q2, q3⟩ := kid_up hC hh hkk
            have hkw : (C.walk k).length ≤ ((C.get h).kids.flatMap C.walk).length := by
              obtain ⟨s, t, e⟩ := List.append_of_mem hkk
              rw [e]; simp; omega
            exact dupF_facts hC m true hB hBd hBk q1 (hC.par k q1 (by rw [q3]; have := hh.1; omega)).1 (by omega)) hI hnew hnk
        refine ⟨f1.inv, ?_⟩
        have g1 := Ar.cap_ge ((C.get h).kids.foldl (dupStep (fun B k => dupF C true m B (A.n + 1) k) (A.n + 1)) (A.document (C.get h).quirks)) (A.n + 1)
        have g2 := Ar.cap_le (A.document (C.get h).quirks) (A.n + 1)
        omega
      · rw [if_neg hdp]
        exact ⟨hI, by omega⟩
  · obtain ⟨f1, f2⟩ := dupF_facts hC m deep hA hd hk hh h1 hw
    refine ⟨f1.inv, ?_⟩
    have g1 := Ar.cap_ge (dupF C deep m A d h).2 d
    have g2 := Ar.cap_le A d
    omega

end Go.Proofs.YtpicinjcmjaogaaGreat
