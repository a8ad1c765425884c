/-
  Parts: DH, DJ.
-/
import Derived.Test.YtpicinjcmjaogaaGreatK18

/- Layer 5 as plain data: how many nodes a copy makes. No program here. -/
namespace Go.Proofs.YtpicinjcmjaogaaGreat
set_option linter.unusedVariables false

def dupMid (C : Ar) (deep : Bool) (m : Nat) (r : Int × Ar) (d h : Int) : Ar :=
  if (C.get h).kind = 4 ∧ deep = true ∧ (C.get h).contents ≠ 0 then
    (C.get (C.get h).contents).kids.foldl (dupStep (fun B k => dupF C true m B (r.2.inertCall d).1.1 k) (r.2.get r.1).contents) (r.2.inertCall d).2
  else r.2
theorem dupF_eq (C : Ar) (deep : Bool) (m : Nat) (A : Ar) (d h : Int) : dupF C deep (m + 1) A d h =
    ((A.alone d (C.get h)).1, if deep = true then (C.get h).kids.foldl (dupStep (fun B k => dupF C true m B (if (C.get h).kind = 1 then (A.alone d (C.get h)).1 else d) k) (A.alone d (C.get h)).1) (dupMid C deep m (A.alone d (C.get h)) d h)
      else dupMid C deep m (A.alone d (C.get h)) d h) := rfl

theorem ofDoc_zero {A : Ar} {d : Int} (hd : A.has d) (hk : (A.get d).kind = 1) : A.ofDoc d = 0 := by
  unfold Ar.ofDoc; rw [if_neg (fun h => h hd), if_neg (fun h => h hk)]
theorem make_zero {A : Ar} {d : Int} (n : Nd) (he : A.ofDoc d = 0) : A.make d n = ((A.n + 1, 0), A.add { n with doc := d }) := by
  unfold Ar.make; rw [if_neg (fun h => h he)]
theorem inertCall_at {A : Ar} {d : Int} (he : A.ofDoc d = 0) (hi : A.inertAt d ≠ 0) : A.inertCall d = ((A.inertAt d, 0), A) := by
  unfold Ar.inertCall
  rw [if_neg (fun h => h he)]
  unfold Ar.inertOf
  rw [if_pos hi]

/-- What holds of a copy of a single node. -/
theorem alone_facts {A C : Ar} {d h : Int} (hA : A.Inv) (hC : C.Inv) (hd : A.has d) (hk : (A.get d).kind = 1) (hh : C.has h) (h1 : (C.get h).kind ≠ 1) :
    A.More (A.alone d (C.get h)).2 ∧ (A.alone d (C.get h)).2.cap d ≤ A.cap d + (if isTemplate (C.get h) then 2 else 1) ∧ (isTemplate (C.get h) → (A.alone d (C.get h)).2.inertAt d ≠ 0) := by
  have he := ofDoc_zero hd hk
  have hl := hC.loc h hh
  have hinv := inv_alone hA d (n := C.get h) hl.at3
  have mk : ∀ n : Nd, (A.make d n).2.Inv → A.More (A.make d n).2 ∧ (A.make d n).2.cap d ≤ A.cap d + 1 := by
    intro n hi
    rw [make_zero n he] at hi ⊢
    exact ⟨more_add hA hi, by rw [cap_add hA]; exact Nat.le_refl _⟩
  by_cases h4 : (C.get h).kind = 4
  · have e : (A.alone d (C.get h)).2 = (A.element d (C.get h).space (C.get h).name (C.get h).attrs).2 := by
      unfold Ar.alone
      rw [if_neg h1, if_neg (by omega), if_neg (by omega), if_pos h4]
    rw [e]
    obtain ⟨q1, q2, q3⟩ := more_element hA (s := (C.get h).space) (name := (C.get h).name) hl.at3 hd hk
    have ht : isTemplate (C.get h) ↔ ((C.get h).space = 1 ∧ (C.get h).name.toList = templateL) := ⟨fun q => q.2, fun q => ⟨h4, q⟩⟩
    refine ⟨q1, ?_, fun q => q3 ⟨rfl, q.2.1, q.2.2⟩ ⟨hl.sp, hl.at1⟩⟩
    by_cases q : isTemplate (C.get h)
    · rw [if_pos q]; rw [if_pos (ht.1 q)] at q2; exact q2
    · rw [if_neg q]; rw [if_neg (fun x => q (ht.2 x))] at q2; exact q2
  · have ht : ¬ isTemplate (C.get h) := fun q => h4 q.1
    rw [if_neg ht]
    have : ∃ n : Nd, (A.alone d (C.get h)).2 = (A.make d n).2 := by
      have k1 := hl.k1
      have k6 := hl.k6
      unfold Ar.alone
      rw [if_neg h1]
      by_cases a2 : (C.get h).kind = 2
      · rw [if_pos a2]; exact ⟨_, rfl⟩
      rw [if_neg a2]
      by_cases a3 : (C.get h).kind = 3
      · rw [if_pos a3]; exact ⟨_, rfl⟩
      rw [if_neg a3, if_neg h4]
      by_cases a5 : (C.get h).kind = 5
      · rw [if_pos a5]; exact ⟨_, rfl⟩
      rw [if_neg a5, if_pos (by omega)]; exact ⟨_, rfl⟩
    obtain ⟨n, e⟩ := this
    rw [e] at hinv ⊢
    exact ⟨(mk n hinv).1, (mk n hinv).2, fun q => absurd q ht⟩

theorem dup_fold {C : Ar} {rec : Ar → Int → Int × Ar} {d c : Int} : ∀ (l : List Int) {A : Ar},
    (∀ (B : Ar) k, k ∈ l → B.Inv → B.has d → (B.get d).kind = 1 → B.More (rec B k).2 ∧ (rec B k).2.cap d ≤ B.cap d + (C.walk k).length) →
    A.Inv → A.has d → (A.get d).kind = 1 → A.More (l.foldl (dupStep rec c) A) ∧ (l.foldl (dupStep rec c) A).cap d ≤ A.cap d + (l.flatMap C.walk).length
  | [], A, _, hA, _, _ => ⟨Ar.More.refl hA, by simp⟩
  | k :: l, A, hrec, hA, hd, hk => by
    obtain ⟨m1, c1⟩ := hrec A k (by simp) hA hd hk
    have m2 := more_put m1.inv c (rec A k).1 0
    have c2 : ((rec A k).2.put c (rec A k).1 0).2.cap d = (rec A k).2.cap d := Ar.cap_of (put_keeps _ _ _ _).1 (put_keeps _ _ _ _).2
    have m3 : A.More (dupStep rec c A k) := m1.trans m2
    obtain ⟨m4, c4⟩ := dup_fold (C := C) (rec := rec) (d := d) (c := c) l (A := dupStep rec c A k) (fun B k' hk' => hrec B k' (by simp [hk'])) m3.inv (m3.has d hd) ((m3.kind d hd).trans hk)
    refine ⟨m3.trans m4, ?_⟩
    have e : (dupStep rec c A k).cap d = (rec A k).2.cap d := c2
    rw [List.foldl_cons, List.flatMap_cons, List.length_append]
    omega

theorem cap_at {A : Ar} {d : Int} (h : A.inertAt d ≠ 0) : A.cap d = A.ns.length := by unfold Ar.cap; rw [if_neg h]; rfl

/-- A copy of a node that is no document. -/
theorem dupF_facts {C : Ar} (hC : C.Inv) : ∀ (m : Nat) (deep : Bool) {A : Ar} {d h : Int}, A.Inv → A.has d → (A.get d).kind = 1 → C.has h → (C.get h).kind ≠ 1 → (C.walk h).length ≤ m →
    A.More (dupF C deep m A d h).2 ∧ (dupF C deep m A d h).2.cap d ≤ A.cap d + (C.walk h).length
  | 0, deep, A, d, h, hA, hd, hk, hh, h1, hw => by have := walk_pos hC hh; omega
  | m + 1, deep, A, d, h, hA, hd, hk, hh, h1, hw => by
    rw [dupF_eq, if_neg h1]
    obtain ⟨a1, a2, a3⟩ := alone_facts hA hC hd hk hh h1
    have hwe := walk_eq hC hh
    have hkid : ∀ k ∈ (C.get h).kids, C.has k ∧ (C.get k).kind ≠ 1 := fun k hkk => by
      obtain ⟨q1, q2, q3⟩ := kid_up hC hh hkk
      exact ⟨q1, (hC.par k q1 (by rw [q3]; have := hh.1; omega)).1⟩
    have hkw : ∀ k ∈ (C.get h).kids, (C.walk k).length ≤ ((C.get h).kids.flatMap C.walk).length := fun k hkk => by
      obtain ⟨s, t, e⟩ := List.append_of_mem hkk
      rw [e]; simp; omega
    generalize A.alone d (C.get h) = r at a1 a2 a3 ⊢
    have hdr := a1.has d hd
    have hkr := (a1.kind d hd).trans hk
    -- the contents
    have hmid : r.2.More (dupMid C deep m r d h) ∧ (dupMid C deep m r d h).cap d + ((C.get h).kids.flatMap C.walk).length ≤ A.cap d + (C.walk h).length := by
      by_cases hc : (C.get h).contents = 0
      · have e : dupMid C deep m r d h = r.2 := by unfold dupMid; rw [if_neg (fun q => q.2.2 hc)]
        have ht : ¬ isTemplate (C.get h) := fun q => by
          have := (hC.cont h hh (by have := hh.1; omega) q).1.1
          omega
        rw [if_neg ht] at a2
        rw [e, hwe, if_neg (fun q => q hc)]
        refine ⟨Ar.More.refl a1.inv, ?_⟩
        simp only [List.length_cons, List.nil_append]
        omega
      · have ht : isTemplate (C.get h) := Classical.byContradiction fun q => hc (hC.nocont h hh (.inr q))
        obtain ⟨c1, c2, c3⟩ := hC.cont h hh (by have := hh.1; omega) ht
        have hia := a3 ht
        rw [if_pos ht] at a2
        have hwc := walk_eq hC c1
        have hl : (C.walk h).length = 1 + (1 + ((if (C.get (C.get h).contents).contents ≠ 0 then C.walk (C.get (C.get h).contents).contents else []).length + ((C.get (C.get h).contents).kids.flatMap C.walk).length)) + ((C.get h).kids.flatMap C.walk).length := by
          rw [hwe, if_pos hc, hwc]; simp only [List.length_cons, List.length_append]; omega
        by_cases hdp : deep = true
        · have hic := inertCall_at (ofDoc_zero hdr hkr) hia
          have e : dupMid C deep m r d h = (C.get (C.get h).contents).kids.foldl (dupStep (fun B k => dupF C true m B (r.2.inertAt d) k) (r.2.get r.1).contents) r.2 := by
            unfold dupMid; rw [if_pos ⟨ht.1, hdp, hc⟩, hic]
          obtain ⟨i1, i2, i3, i4⟩ := a1.inv.inert d hia
          have hckid : ∀ k ∈ (C.get (C.get h).contents).kids, C.has k ∧ (C.get k).kind ≠ 1 ∧ (C.walk k).length ≤ ((C.get (C.get h).contents).kids.flatMap C.walk).length := fun k hkk => by
            obtain ⟨q1, q2, q3⟩ := kid_up hC c1 hkk
            refine ⟨q1, (hC.par k q1 (by rw [q3]; have := c1.1; omega)).1, ?_⟩
            obtain ⟨s, t, e⟩ := List.append_of_mem hkk
            rw [e]; simp; omega
          obtain ⟨f1, f2⟩ := dup_fold (C := C) (rec := fun B k => dupF C true m B (r.2.inertAt d) k) (d := r.2.inertAt d) (c := (r.2.get r.1).contents) (C.get (C.get h).contents).kids (A := r.2)
            (fun B k hkk hB hBd hBk => dupF_facts hC m true hB hBd hBk (hckid k hkk).1 (hckid k hkk).2.1 (by have := (hckid k hkk).2.2; omega)) a1.inv i2 i3
          rw [← e] at f1 f2
          refine ⟨f1, ?_⟩
          rw [cap_at (f1.inert _ (by rw [i4]; exact hia)), cap_at (by rw [i4]; exact hia)] at f2
          rw [cap_at (f1.inert d hia)]
          rw [cap_at hia] at a2
          omega
        · have e : dupMid C deep m r d h = r.2 := by unfold dupMid; rw [if_neg (fun q => hdp q.2.1)]
          rw [e]
          exact ⟨Ar.More.refl a1.inv, by omega⟩
    obtain ⟨m1, m2⟩ := hmid
    by_cases hdp : deep = true
    · rw [if_pos hdp]
      obtain ⟨f1, f2⟩ := dup_fold (C := C) (rec := fun B k => dupF C true m B d k) (d := d) (c := r.1) (C.get h).kids (A := dupMid C deep m r d h)
        (fun B k hkk hB hBd hBk => dupF_facts hC m true hB hBd hBk (hkid k hkk).1 (hkid k hkk).2 (by
          have h1 := hkw k hkk
          have h2 : (C.walk h).length = 1 + ((if (C.get h).contents ≠ 0 then C.walk (C.get h).contents else []).length + ((C.get h).kids.flatMap C.walk).length) := by rw [hwe]; simp only [List.length_cons, List.length_append]; omega
          omega)) m1.inv (m1.has d hdr) ((m1.kind d hdr).trans hkr)
      exact ⟨(a1.trans m1).trans f1, by dsimp only; omega⟩
    · rw [if_neg hdp]
      exact ⟨a1.trans m1, by dsimp only; omega⟩

/-- A copy of any node: no more than its own tree, and one more. -/
theorem dupF_any {C : Ar} (hC : C.Inv) {m : Nat} {deep : Bool} {A : Ar} {d h : Int} (hA : A.Inv) (hd : A.has d) (hk : (A.get d).kind = 1) (hh : C.has h) (hw : (C.walk h).length ≤ m) :
    (dupF C deep m A d h).2.Inv ∧ (dupF C deep m A d h).2.ns.length ≤ A.ns.length + (C.walk h).length + 1 := by
  by_cases h1 : (C.get h).kind = 1
  · cases m with
    | zero => have := walk_pos hC hh; omega
    | succ m =>
      have hnt : ¬ isTemplate (C.get h) := fun q => by have := q.1; omega
      have hc : (C.get h).contents = 0 := hC.nocont h hh (.inr hnt)
      have hal : A.alone d (C.get h) = (A.n + 1, A.document (C.get h).quirks) := by unfold Ar.alone; rw [if_pos h1]
      have hmid : dupMid C deep m (A.n + 1, A.document (C.get h).quirks) d h = A.document (C.get h).quirks := by unfold dupMid; rw [if_neg (fun q => q.2.2 hc)]
      have hI : (A.document (C.get h).quirks).Inv := Ar.InvX.document hA _
      have hl : (A.document (C.get h).quirks).ns.length = A.ns.length + 1 := add_len _ _
      have hwe := walk_eq hC hh
      rw [if_neg (fun q => q hc)] at hwe
      have hwl : (C.walk h).length = 1 + ((C.get h).kids.flatMap C.walk).length := by rw [hwe]; simp; omega
      rw [dupF_eq, if_pos h1, hal]
      dsimp only
      rw [hmid]
      by_cases hdp : deep = true
      · rw [if_pos hdp]
        have hnew : (A.document (C.get h).quirks).has (A.n + 1) := (Ar.add_has _ _ _).2 (.inr rfl)
        have hnk : ((A.document (C.get h).quirks).get (A.n + 1)).kind = 1 := by rw [Ar.document, Ar.add_new]
        obtain ⟨f1, f2⟩ := dup_fold (C := C) (rec := fun B k => dupF C true m B (A.n + 1) k) (d := A.n + 1) (c := A.n + 1) (C.get h).kids (A := A.document (C.get h).quirks)
          (fun B k hkk hB hBd hBk => by
            obtain ⟨q1, q2, q3⟩ := kid_up hC hh hkk
            have hkw : (C.walk k).length ≤ ((C.get h).kids.flatMap C.walk).length := by
              obtain ⟨s, t, e⟩ := List.append_of_mem hkk
              rw [e]; simp; omega
            exact dupF_facts hC m true hB hBd hBk q1 (hC.par k q1 (by rw [q3]; have := hh.1; omega)).1 (by omega)) hI hnew hnk
        refine ⟨f1.inv, ?_⟩
        have g1 := Ar.cap_ge ((C.get h).kids.foldl (dupStep (fun B k => dupF C true m B (A.n + 1) k) (A.n + 1)) (A.document (C.get h).quirks)) (A.n + 1)
        have g2 := Ar.cap_le (A.document (C.get h).quirks) (A.n + 1)
        omega
      · rw [if_neg hdp]
        exact ⟨hI, by omega⟩
  · obtain ⟨f1, f2⟩ := dupF_facts hC m deep hA hd hk hh h1 hw
    refine ⟨f1.inv, ?_⟩
    have g1 := Ar.cap_ge (dupF C deep m A d h).2 d
    have g2 := Ar.cap_le A d
    omega

end Go.Proofs.YtpicinjcmjaogaaGreat

/- Layer 5 as plain data: what joining texts does, node by node. No program here. -/
namespace Go.Proofs.YtpicinjcmjaogaaGreat
set_option linter.unusedVariables false

/-- The children that stay, and what texts will say, behind a first text f (or 0) that will say d. -/
def jk (B : Ar) : Int → ByteArray → List Int → List Int × List (Int × ByteArray)
  | f, d, [] => ([], if f ≠ 0 then [(f, d)] else [])
  | f, d, k :: l =>
    if (B.get k).kind ≠ 5 then (k :: (jk B 0 ByteArray.empty l).1, (if f ≠ 0 then [(f, d)] else []) ++ (jk B 0 ByteArray.empty l).2)
    else if f = 0 ∧ (B.get k).data ≠ ByteArray.empty then (k :: (jk B k (B.get k).data l).1, (jk B k (B.get k).data l).2)
    else jk B f (d ++ (B.get k).data) l
theorem jk_congr {B B' : Ar} : ∀ {l : List Int} (f : Int) (d : ByteArray), (∀ k ∈ l, (B'.get k).kind = (B.get k).kind ∧ (B'.get k).data = (B.get k).data) → jk B' f d l = jk B f d l
  | [], _, _, _ => rfl
  | k :: l, f, d, h => by
    obtain ⟨h1, h2⟩ := h k (by simp)
    have h' : ∀ k' ∈ l, (B'.get k').kind = (B.get k').kind ∧ (B'.get k').data = (B.get k').data := fun k' hk => h k' (by simp [hk])
    unfold jk
    rw [h1, h2, jk_congr 0 ByteArray.empty h', jk_congr k (B.get k).data h', jk_congr f (d ++ (B.get k).data) h']
theorem jk_sub {B : Ar} : ∀ (l : List Int) (f : Int) (d : ByteArray), ∀ x ∈ (jk B f d l).1, x ∈ l
  | [], f, d, x, hx => by simp [jk] at hx
  | k :: l, f, d, x, hx => by
    unfold jk at hx
    split at hx
    · rcases List.mem_cons.1 hx with rfl | hx
      · simp
      · simp [jk_sub l _ _ x hx]
    · split at hx
      · rcases List.mem_cons.1 hx with rfl | hx
        · simp
        · simp [jk_sub l _ _ x hx]
      · simp [jk_sub l _ _ x hx]
theorem jk_keys {B : Ar} : ∀ (l : List Int) (f : Int) (d : ByteArray), ∀ p ∈ (jk B f d l).2, (p.1 = f ∧ f ≠ 0) ∨ (p.1 ∈ l ∧ (B.get p.1).kind = 5)
  | [], f, d, p, hp => by
    unfold jk at hp
    by_cases q : f = 0
    · simp [q] at hp
    · simp [q] at hp; subst hp; exact .inl ⟨rfl, q⟩
  | k :: l, f, d, p, hp => by
    unfold jk at hp
    by_cases q : (B.get k).kind = 5
    · rw [if_neg (fun e => e q)] at hp
      by_cases q2 : f = 0 ∧ (B.get k).data ≠ ByteArray.empty
      · rw [if_pos q2] at hp
        rcases jk_keys l _ _ p hp with ⟨e, _⟩ | ⟨e, e'⟩
        · exact .inr ⟨by rw [e]; simp, by rw [e]; exact q⟩
        · exact .inr ⟨by simp [e], e'⟩
      · rw [if_neg q2] at hp
        rcases jk_keys l _ _ p hp with e | ⟨e, e'⟩
        · exact .inl e
        · exact .inr ⟨by simp [e], e'⟩
    · rw [if_pos q] at hp
      rcases List.mem_append.1 hp with hp | hp
      · by_cases q2 : f = 0
        · simp [q2] at hp
        · simp [q2] at hp; subst hp; exact .inl ⟨rfl, q2⟩
      · rcases jk_keys l _ _ p hp with ⟨e, e'⟩ | ⟨e, e'⟩
        · exact absurd rfl e'
        · exact .inr ⟨by simp [e], e'⟩
theorem lookup_none' {x : Int} : ∀ {l : List (Int × ByteArray)}, (∀ p ∈ l, p.1 ≠ x) → l.lookup x = none
  | [], _ => rfl
  | p :: l, h => by
    rw [List.lookup_cons]
    have : (x == p.1) = false := by simp; exact fun e => h p (by simp) e.symm
    rw [this]
    exact lookup_none' (fun q hq => h q (by simp [hq]))

def Nd.re3 (n : Nd) (kids : List Int) (parent : Int) (data : ByteArray) : Nd := { n with kids := kids, parent := parent, data := data }
theorem re_re3 (n : Nd) (k k' : List Int) (p p' : Int) (d' : ByteArray) : (n.re k p).re3 k' p' d' = n.re3 k' p' d' := rfl
theorem re3_re3 (n : Nd) (k k' : List Int) (p p' : Int) (d d' : ByteArray) : (n.re3 k p d).re3 k' p' d' = n.re3 k' p' d' := rfl
theorem re3_congr {n : Nd} {k k' : List Int} {p p' : Int} {d d' : ByteArray} (h1 : k = k') (h2 : p = p') (h3 : d = d') : n.re3 k p d = n.re3 k' p' d' := by rw [h1, h2, h3]
theorem re3_self (n : Nd) : n.re3 n.kids n.parent n.data = n := rfl

theorem setData_get {A : Ar} {f : Int} {d : ByteArray} (hf : A.has f) (hk : (A.get f).kind = 5) {x : Int} (hx : A.has x) :
    (A.setData f d).2.get x = (A.get x).re3 (A.get x).kids (A.get x).parent (if x = f then d else (A.get x).data) := by
  unfold Ar.setData
  rw [if_neg (fun e => e hf), if_neg (fun e => e (.inl hk))]
  show (A.mod f _).get x = _
  rw [Ar.mod_get _ hf hx]
  by_cases e : x = f
  · subst e; rw [if_pos rfl, if_pos rfl]; rfl
  · rw [if_neg e, if_neg e]; rfl
theorem setData_n (A : Ar) (f : Int) (d : ByteArray) : (A.setData f d).2.n = A.n ∧ (A.setData f d).2.ns.length = A.ns.length ∧ (A.setData f d).2.inert = A.inert := by
  unfold Ar.setData
  split
  · exact ⟨rfl, rfl, rfl⟩
  · split
    · exact ⟨rfl, rfl, rfl⟩
    · exact ⟨Ar.mod_n _ _ _, by simp [Ar.mod], rfl⟩
theorem setData_has (A : Ar) (f : Int) (d : ByteArray) (x : Int) : (A.setData f d).2.has x ↔ A.has x := by unfold Ar.has; rw [(setData_n A f d).1]

/-- The arena of a state whose first text is written. -/
theorem flush_get {s : JoinS} (hf : s.first ≠ 0 → s.ar.has s.first ∧ (s.ar.get s.first).kind = 5) {x : Int} (hx : s.ar.has x) :
    s.flush.ar.get x = (s.ar.get x).re3 (s.ar.get x).kids (s.ar.get x).parent (((if s.first ≠ 0 then [(s.first, s.data)] else []).lookup x).getD (s.ar.get x).data) := by
  unfold JoinS.flush
  by_cases q : s.first = 0
  · rw [if_neg (fun e => e q), if_neg (fun e => e q)]; rfl
  · rw [if_pos q, if_pos q]
    rw [setData_get (hf q).1 (hf q).2 hx]
    by_cases e : x = s.first
    · subst e; simp
    · have : (x == s.first) = false := by simp [e]
      rw [if_neg e, List.lookup_cons, this]; rfl
theorem flush_n (s : JoinS) : s.flush.ar.n = s.ar.n ∧ s.flush.ar.ns.length = s.ar.ns.length ∧ s.flush.ar.inert = s.ar.inert := by
  unfold JoinS.flush
  dsimp only
  split
  · exact setData_n _ _ _
  · exact ⟨rfl, rfl, rfl⟩
theorem flush_inv {s : JoinS} (hI : s.ar.Inv) : s.flush.ar.Inv := by
  unfold JoinS.flush
  dsimp only
  split
  · exact hI.setData _ _
  · exact hI
theorem getD_lookup_append {x : Int} (a b : List (Int × ByteArray)) (d : ByteArray) : ((a ++ b).lookup x).getD d = (a.lookup x).getD ((b.lookup x).getD d) := by
  induction a with
  | nil => rfl
  | cons p a ih =>
    obtain ⟨p1, p2⟩ := p
    simp only [List.cons_append, List.lookup_cons]
    cases (x == p1)
    · exact ih
    · rfl

theorem join_fold {h : Int} : ∀ (l : List Int) (s : JoinS) (dn : List Int), s.ar.Inv → s.ar.has h → (s.ar.get h).kids = dn ++ l → (s.first ≠ 0 → s.first ∈ dn ∧ (s.ar.get s.first).kind = 5) → (s.first = 0 → s.data = ByteArray.empty) →
    (l.foldl JoinS.step s).flush.ar.Inv ∧ (l.foldl JoinS.step s).flush.ar.ns.length = s.ar.ns.length ∧ (l.foldl JoinS.step s).flush.ar.inert = s.ar.inert ∧
    ∀ x, s.ar.has x → (l.foldl JoinS.step s).flush.ar.get x = (s.ar.get x).re3 (if x = h then dn ++ (jk s.ar s.first s.data l).1 else (s.ar.get x).kids)
      (if x ∈ l ∧ (s.ar.get x).kind = 5 ∧ x ∉ (jk s.ar s.first s.data l).1 then 0 else (s.ar.get x).parent) (((jk s.ar s.first s.data l).2.lookup x).getD (s.ar.get x).data)
  | [], s, dn, hI, hh, hk, hf, h0 => by
    have hf' : s.first ≠ 0 → s.ar.has s.first ∧ (s.ar.get s.first).kind = 5 := fun q => ⟨(kid_up hI hh (by rw [hk]; simp [(hf q).1])).1, (hf q).2⟩
    refine ⟨flush_inv hI, (flush_n s).2.1, (flush_n s).2.2, fun x hx => ?_⟩
    show s.flush.ar.get x = _
    have e0 : (if x ∈ ([] : List Int) ∧ (s.ar.get x).kind = 5 ∧ x ∉ (jk s.ar s.first s.data []).1 then (0 : Int) else (s.ar.get x).parent) = (s.ar.get x).parent := if_neg (fun q => absurd q.1 List.not_mem_nil)
    rw [flush_get hf' hx, e0]
    simp only [jk, List.append_nil] at hk ⊢
    by_cases e : x = h
    · subst e; rw [if_pos rfl, hk]
    · rw [if_neg e]
  | k :: l, s, dn, hI, hh, hk, hf, h0 => by
    have hnd := hI.wf.nodup h hh
    rw [hk] at hnd
    obtain ⟨n1, n2, n3⟩ := List.nodup_append.1 hnd
    obtain ⟨n4, n5⟩ := List.nodup_cons.1 n2
    have hkd : k ∉ dn := fun q => n3 k q k (by simp) rfl
    obtain ⟨hk1, hk2, hk3⟩ := kid_up hI hh (k := k) (by rw [hk]; simp)
    have hkh : k ≠ h := fun e => by
      have h5 : (s.ar.get h).parent = h := by rw [e] at hk3; exact hk3
      obtain ⟨p, hp⟩ := hI.wf.way h hh
      cases p with
      | nil => exact has_zero s.ar (by have e0 : h = 0 := hp; rw [← e0]; exact hh)
      | cons y p =>
        have hp2 := hp.2.2
        have hup : upStep s.ar true h = h := by
          simp only [upStep, Ar.up, if_true]
          rw [if_pos (by rw [h5]; have := hh.1; omega), h5]
        rw [hup] at hp2
        have := congrArg List.length (way_unique hp2 hp)
        simp at this
    have hf' : s.first ≠ 0 → s.ar.has s.first ∧ (s.ar.get s.first).kind = 5 := fun q => ⟨(kid_up hI hh (by rw [hk]; simp [(hf q).1])).1, (hf q).2⟩
    have hfl : s.first ≠ 0 → s.first ≠ k ∧ s.first ∉ l := fun q => ⟨fun e => hkd (e ▸ (hf q).1), fun e => n3 _ (hf q).1 _ (by simp [e]) rfl⟩
    rw [List.foldl_cons]
    by_cases q5 : (s.ar.get k).kind = 5
    · by_cases q0 : s.first = 0 ∧ (s.ar.get k).data ≠ ByteArray.empty
      · have e : s.step k = ⟨s.ar, k, (s.ar.get k).data⟩ := by unfold JoinS.step; rw [if_neg (fun e => e q5), if_pos q0]
        have ej : jk s.ar s.first s.data (k :: l) = (k :: (jk s.ar k (s.ar.get k).data l).1, (jk s.ar k (s.ar.get k).data l).2) := by
          conv => lhs; unfold jk
          rw [if_neg (fun e => e q5), if_pos q0]
        rw [e, ej]
        have hk0 : k ≠ 0 := by have := hk1.1; omega
        obtain ⟨r1, r2, r3, r4⟩ := join_fold (h := h) l ⟨s.ar, k, (s.ar.get k).data⟩ (dn ++ [k]) hI hh (by rw [hk]; simp) (fun _ => ⟨by simp, q5⟩) (fun z => absurd z hk0)
        refine ⟨r1, r2, r3, fun x hx => ?_⟩
        rw [r4 x hx]
        dsimp only
        congr 1
        · by_cases e : x = h
          · rw [if_pos e, if_pos e]; simp
          · rw [if_neg e, if_neg e]
        · by_cases e : x = k
          · subst e; rw [if_neg (fun z => n4 z.1), if_neg (fun z => z.2.2 (by simp))]
          · simp only [List.mem_cons, e, false_or]
      · have e : s.step k = ⟨s.ar.cut k, s.first, s.data ++ (s.ar.get k).data⟩ := by unfold JoinS.step; rw [if_neg (fun e => e q5), if_neg q0]
        have ej : jk s.ar s.first s.data (k :: l) = jk s.ar s.first (s.data ++ (s.ar.get k).data) l := by
          conv => lhs; unfold jk
          rw [if_neg (fun e => e q5), if_neg q0]
        rw [e, ej]
        have hcg : ∀ x, s.ar.has x → (s.ar.cut k).get x = (s.ar.get x).re (if x = h then without (s.ar.get x).kids k else (s.ar.get x).kids) (if x = k then 0 else (s.ar.get x).parent) := fun x hx => by
          rw [Ar.cut_get hI hk1 hx, hk3]
        have hkc : ∀ x, s.ar.has x → ((s.ar.cut k).get x).kind = (s.ar.get x).kind ∧ ((s.ar.cut k).get x).data = (s.ar.get x).data := fun x hx => by rw [hcg x hx]; exact ⟨rfl, rfl⟩
        have hlh : ∀ x ∈ l, s.ar.has x := fun x hx => (kid_up hI hh (by rw [hk]; simp [hx])).1
        have hkids : ((s.ar.cut k).get h).kids = dn ++ l := by
          rw [hcg h hh, if_pos rfl]
          show without (s.ar.get h).kids k = _
          rw [hk]
          unfold without
          rw [List.filter_append, List.filter_cons]
          simp only [ne_eq, not_true_eq_false, decide_false, Bool.false_eq_true, if_false]
          rw [List.filter_eq_self.2 (fun y hy => by simp; rintro rfl; exact hkd hy), List.filter_eq_self.2 (fun y hy => by simp; rintro rfl; exact n4 hy)]
        have hd0 : s.first = 0 → s.data ++ (s.ar.get k).data = ByteArray.empty := fun z => by
          have : (s.ar.get k).data = ByteArray.empty := Classical.byContradiction fun y => q0 ⟨z, y⟩
          rw [h0 z, this]; rfl
        obtain ⟨r1, r2, r3, r4⟩ := join_fold (h := h) l ⟨s.ar.cut k, s.first, s.data ++ (s.ar.get k).data⟩ dn (Ar.InvX.cut hI hk1) ((Ar.cut_has _ _ _).2 hh) hkids
          (fun z => ⟨(hf z).1, by rw [(hkc _ (hf' z).1).1]; exact (hf' z).2⟩) hd0
        refine ⟨r1, r2.trans (Ar.cut_ns _ _), r3.trans (Ar.cut_inert _ _), fun x hx => ?_⟩
        rw [r4 x ((Ar.cut_has _ _ _).2 hx)]
        dsimp only
        rw [jk_congr s.first (s.data ++ (s.ar.get k).data) (fun y hy => hkc y (hlh y hy)), hcg x hx]
        have hks := jk_sub (B := s.ar) l s.first (s.data ++ (s.ar.get k).data)
        generalize jk s.ar s.first (s.data ++ (s.ar.get k).data) l = J at *
        rw [re_re3]
        refine re3_congr ?_ ?_ rfl
        · by_cases e : x = h
          · rw [if_pos e, if_pos e]
          · first | (simp only [if_neg e]; done) | (simp only [if_neg e]; rfl)
        · by_cases e : x = k
          · subst e
            have c2 : x ∈ x :: l ∧ (s.ar.get x).kind = 5 ∧ x ∉ J.1 := ⟨by simp, q5, fun z => n4 (hks _ z)⟩
            exact (if_neg (fun z => n4 z.1)).trans ((if_pos rfl).trans (if_pos c2).symm)
          · have e2 : (x ∈ k :: l) ↔ x ∈ l := by simp [e]
            have e3 : ((s.ar.get x).re (if x = h then without (s.ar.get x).kids k else (s.ar.get x).kids) (if x = k then 0 else (s.ar.get x).parent)).kind = (s.ar.get x).kind := rfl
            have e4 : ((s.ar.get x).re (if x = h then without (s.ar.get x).kids k else (s.ar.get x).kids) (if x = k then 0 else (s.ar.get x).parent)).parent = (s.ar.get x).parent := by
              show (if x = k then (0 : Int) else _) = _
              rw [if_neg e]
            rw [e3, e4]
            simp only [e2]
    · have e : s.step k = s.flush := by unfold JoinS.step; rw [if_pos q5]
      have ej : jk s.ar s.first s.data (k :: l) = (k :: (jk s.ar 0 ByteArray.empty l).1, (if s.first ≠ 0 then [(s.first, s.data)] else []) ++ (jk s.ar 0 ByteArray.empty l).2) := by
        conv => lhs; unfold jk
        rw [if_pos q5]
      rw [e, ej]
      have hkc : ∀ x, s.ar.has x → (s.flush.ar.get x).kind = (s.ar.get x).kind ∧ (s.flush.ar.get x).kids = (s.ar.get x).kids ∧ (s.flush.ar.get x).parent = (s.ar.get x).parent := fun x hx => by rw [flush_get hf' hx]; exact ⟨rfl, rfl, rfl⟩
      have hfh : ∀ x, s.flush.ar.has x ↔ s.ar.has x := fun x => by unfold Ar.has; rw [(flush_n s).1]
      have hlh : ∀ x ∈ l, s.ar.has x := fun x hx => (kid_up hI hh (by rw [hk]; simp [hx])).1
      have hnl : ∀ x ∈ l, ((if s.first ≠ 0 then [(s.first, s.data)] else []).lookup x) = none := fun x hx => by
        refine lookup_none' (fun p hp => ?_)
        by_cases z : s.first = 0
        · simp [z] at hp
        · simp [z] at hp; subst hp; exact fun e => (hfl z).2 (by have e' : s.first = x := e; rw [e']; exact hx)
      have hkd2 : ∀ x ∈ l, (s.flush.ar.get x).data = (s.ar.get x).data := fun x hx => by
        rw [flush_get hf' (hlh x hx), hnl x hx]; rfl
      obtain ⟨r1, r2, r3, r4⟩ := join_fold (h := h) l s.flush (dn ++ [k]) (flush_inv hI) ((hfh h).2 hh) (by rw [(hkc h hh).2.1, hk]; simp) (fun z => absurd rfl z) (fun _ => rfl)
      refine ⟨r1, r2.trans (flush_n s).2.1, r3.trans (flush_n s).2.2, fun x hx => ?_⟩
      rw [r4 x ((hfh x).2 hx)]
      have ejj : jk s.flush.ar s.flush.first s.flush.data l = jk s.ar 0 ByteArray.empty l := jk_congr 0 ByteArray.empty (fun y hy => ⟨(hkc y (hlh y hy)).1, hkd2 y hy⟩)
      rw [ejj]
      have hkeys := jk_keys (B := s.ar) l 0 ByteArray.empty
      have hks := jk_sub (B := s.ar) l 0 ByteArray.empty
      generalize jk s.ar 0 ByteArray.empty l = J at *
      rw [flush_get hf' hx]
      rw [re3_re3]
      refine re3_congr ?_ ?_ ?_
      · by_cases e : x = h
        · rw [if_pos e, if_pos e]; simp
        · rw [if_neg e, if_neg e]; rfl
      · by_cases e : x = k
        · subst e
          exact (if_neg (fun z => n4 z.1)).trans (Eq.trans rfl (if_neg (fun z => q5 z.2.1)).symm)
        · have e2 : (x ∈ k :: l) ↔ x ∈ l := by simp [e]
          have e5 : (x ∈ k :: J.1) ↔ x ∈ J.1 := by simp [e]
          show (if x ∈ l ∧ (s.ar.get x).kind = 5 ∧ x ∉ J.1 then (0 : Int) else (s.ar.get x).parent) = _
          simp only [e2, e5]
      · rw [getD_lookup_append]
        show (J.2.lookup x).getD (((if s.first ≠ 0 then [(s.first, s.data)] else []).lookup x).getD (s.ar.get x).data) = _
        by_cases e : x ∈ l
        · rw [hnl x e]; rfl
        · have : J.2.lookup x = none := lookup_none' (fun p hp => by
            rcases hkeys p hp with ⟨_, z⟩ | ⟨z, _⟩
            · exact absurd rfl z
            · exact fun y => e (y ▸ z))
          rw [this]; rfl

/-- Joining the texts among the children of a node, node by node. -/
theorem join_get {A : Ar} {h : Int} (hI : A.Inv) (hh : A.has h) :
    (A.join h).Inv ∧ (A.join h).ns.length = A.ns.length ∧ (A.join h).inert = A.inert ∧
    ∀ x, A.has x → (A.join h).get x = (A.get x).re3 (if x = h then (jk A 0 ByteArray.empty (A.get h).kids).1 else (A.get x).kids)
      (if x ∈ (A.get h).kids ∧ (A.get x).kind = 5 ∧ x ∉ (jk A 0 ByteArray.empty (A.get h).kids).1 then 0 else (A.get x).parent) (((jk A 0 ByteArray.empty (A.get h).kids).2.lookup x).getD (A.get x).data) := by
  have := join_fold (h := h) (A.get h).kids ⟨A, 0, ByteArray.empty⟩ [] hI hh rfl (fun z => absurd rfl z) (fun _ => rfl)
  simpa [Ar.join] using this
end Go.Proofs.YtpicinjcmjaogaaGreat
