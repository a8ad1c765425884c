/-
  Parts: DV, DY.
-/
import Derived.Test.YtpicinjcmjaogaaGreatK24
import Derived.Test.YtpicinjcmjaogaaGreatK32

/- Layer 5 as plain data: how long texts may become, operation by operation. No program here. -/
namespace Go.Proofs.YtpicinjcmjaogaaGreat
set_option linter.unusedVariables false

theorem mass_insertCall (A : Ar) (p n c : Int) : (A.insertCall p n c).2.mass ≤ A.mass := by
  unfold Ar.insertCall; split
  · exact Nat.le_refl _
  · exact mass_insertAt _ _ _ _
theorem mass_replaceCall (A : Ar) (p n c : Int) : (A.replaceCall p n c).2.mass ≤ A.mass := by
  unfold Ar.replaceCall
  repeat' split
  all_goals first | exact Nat.le_refl _ | exact Nat.le_trans (mass_insertAt _ _ _ _) (mass_cut _ _)
theorem mass_removeCall (A : Ar) (p c : Int) : (A.removeCall p c).2.mass ≤ A.mass := by
  unfold Ar.removeCall
  repeat' split
  all_goals first | exact Nat.le_refl _ | exact mass_cut _ _
theorem mass_cutCall (A : Ar) (h : Int) : (A.cutCall h).2.mass ≤ A.mass := by
  unfold Ar.cutCall
  split
  all_goals first | exact Nat.le_refl _ | exact mass_cut _ _
theorem mass_replaceAllCall (A : Ar) (p n : Int) : (A.replaceAllCall p n).2.mass ≤ A.mass := by
  unfold Ar.replaceAllCall
  split
  · split
    · exact Nat.le_refl _
    · split
      · exact Nat.le_refl _
      · dsimp only
        split
        · exact Nat.le_trans (mass_insertAt _ _ _ _) (mass_empty _ _)
        · exact mass_empty _ _
  · exact Nat.le_refl _
theorem mass_adoptCall (A : Ar) (n d : Int) : (A.adoptCall n d).2.mass ≤ A.mass := by
  unfold Ar.adoptCall
  repeat' split
  all_goals first | exact Nat.le_refl _ | exact mass_adoptF _ _ _ _
theorem mass_createElement (A : Ar) (d : Int) (name : ByteArray) : (A.createElement d name).2.mass ≤ A.mass := by
  unfold Ar.createElement
  repeat' split
  all_goals first | exact Nat.le_refl _ | exact mass_element _ _ _ _ _
theorem mass_setAttr (A : Ar) (el s : Int) (name val : ByteArray) : (A.setAttr el s name val).2.mass ≤ A.mass := by
  unfold Ar.setAttr
  repeat' split
  all_goals first | exact Nat.le_refl _ | exact mass_setAttrs _ _ _
theorem mass_removeAttr (A : Ar) (el s : Int) (name : ByteArray) : (A.removeAttr el s name).2.mass ≤ A.mass := by
  unfold Ar.removeAttr
  repeat' split
  all_goals first | exact Nat.le_refl _ | exact mass_setAttrs _ _ _
theorem mass_setTextCall (A : Ar) (h : Int) (s : ByteArray) : (A.setText h s).2.mass ≤ A.mass + s.size := by
  unfold Ar.setText
  split
  · exact Nat.le_add_right _ _
  · split
    · exact mass_setData _ _ _
    · split
      · split
        · exact Nat.le_trans (mass_empty _ _) (Nat.le_add_right _ _)
        · dsimp only
          refine Nat.le_trans (mass_put _ _ _ _) (Nat.le_trans (mass_make _ _ _) ?_)
          have h1 := mass_empty A h
          have h2 : tx (textNd s) = s.size := rfl
          omega
      · exact Nat.le_add_right _ _
theorem take_drop_size (s : ByteArray) (n : Nat) : (⟨(s.toList.take n).toArray⟩ : ByteArray).size + (⟨(s.toList.drop n).toArray⟩ : ByteArray).size = s.size := by
  show (s.toList.take n).toArray.size + (s.toList.drop n).toArray.size = _
  rw [List.size_toArray, List.size_toArray, ← List.length_append, List.take_append_drop, Go.ByteArray.toList_eq]
  rfl
theorem mass_split {A : Ar} (h at' : Int) : (A.split h at').2.mass ≤ A.mass := by
  unfold Ar.split
  split
  · exact Nat.le_refl _
  · rename_i hh
    have hh := Classical.not_not.1 hh
    split
    · exact Nat.le_refl _
    · rename_i hk
      have hk := Classical.not_not.1 hk
      split
      · exact Nat.le_refl _
      · dsimp only
        have m1 := mass_make A (A.get h).doc (textNd ⟨((A.get h).data.toList.drop at'.toNat).toArray⟩)
        have e0 : tx (textNd ⟨((A.get h).data.toList.drop at'.toNat).toArray⟩) = (⟨((A.get h).data.toList.drop at'.toNat).toArray⟩ : ByteArray).size := rfl
        rw [e0] at m1
        have e1 := take_drop_size (A.get h).data at'.toNat
        have hold : (A.make (A.get h).doc (textNd ⟨((A.get h).data.toList.drop at'.toNat).toArray⟩)).2.has h ∧ (A.make (A.get h).doc (textNd ⟨((A.get h).data.toList.drop at'.toNat).toArray⟩)).2.get h = A.get h := by
          unfold Ar.make
          split
          · exact ⟨hh, rfl⟩
          · exact ⟨(Ar.add_has _ _ _).2 (.inl hh), Ar.add_old _ hh⟩
        have m2 := mass_setText (A := (A.make (A.get h).doc (textNd ⟨((A.get h).data.toList.drop at'.toNat).toArray⟩)).2) (x := h) ⟨((A.get h).data.toList.take at'.toNat).toArray⟩ hold.1 (by rw [hold.2]; exact hk)
        rw [hold.2] at m2
        split
        · refine Nat.le_trans (mass_put _ _ _ _) ?_
          omega
        · omega
theorem mass_step {A : Ar} {x : OpD} (hx : smallOp x) : (A.step x).2.mass ≤ A.mass + 400 := by
  obtain ⟨s1, s2, s3, -⟩ := hx
  have triv : A.mass ≤ A.mass + 400 := Nat.le_add_right _ _
  refine step_rec (P := fun r => r.2.mass ≤ A.mass + 400) ?_ ?_ ?_ ?_ ?_ ?_ ?_ ?_ ?_ ?_ ?_ ?_ ?_ ?_ <;> intro _
  · exact Nat.le_trans (mass_document _ _) triv
  · exact Nat.le_trans (mass_make _ _ _) triv
  · exact Nat.le_trans (mass_element _ _ _ _ _) triv
  · refine Nat.le_trans (mass_make _ _ _) ?_
    have : tx (textNd x.s) = x.s.size := rfl
    omega
  · exact Nat.le_trans (mass_make _ _ _) triv
  · exact Nat.le_trans (mass_make _ _ _) triv
  · exact Nat.le_trans (mass_inertCall _ _) triv
  · exact Nat.le_trans (mass_put _ _ _ _) triv
  · exact Nat.le_trans (mass_cutCall _ _) triv
  · exact Nat.le_trans (mass_setData _ _ _) (by omega)
  · exact Nat.le_trans (mass_setAttrs _ _ _) triv
  · exact Nat.le_trans (mass_setQuirks _ _ _) triv
  · exact Nat.le_trans (mass_setDoc _ _ _) triv
  · exact triv
/-- The first operation makes no text. -/
theorem no_new_has (x : Int) : ¬ Ar.new.has x := fun h => by have := h.1; have := h.2; unfold Ar.n Ar.new at *; simp at *; omega
theorem new_mass : Ar.new.mass = 0 := rfl
theorem first_step (x : OpD) : (Ar.new.step x).2.mass ≤ 0 := by
  have hd : ∀ d, Ar.new.ofDoc d ≠ 0 := fun d => by unfold Ar.ofDoc; rw [if_pos (no_new_has d)]; decide
  refine step_rec (P := fun r => r.2.mass ≤ 0) ?_ ?_ ?_ ?_ ?_ ?_ ?_ ?_ ?_ ?_ ?_ ?_ ?_ ?_ <;> intro _
  · exact mass_document _ _
  · exact mass_make _ _ _
  · exact mass_element _ _ _ _ _
  · unfold Ar.make; rw [if_pos (hd _)]; exact Nat.le_refl _
  · exact mass_make _ _ _
  · exact mass_make _ _ _
  · exact mass_inertCall _ _
  · exact mass_put _ _ _ _
  · exact mass_cutCall _ _
  · unfold Ar.setData; rw [if_pos (no_new_has _)]; exact Nat.le_refl _
  · exact mass_setAttrs _ _ _
  · exact mass_setQuirks _ _ _
  · exact mass_setDoc _ _ _
  · exact Nat.le_refl _

/-- What an operation does to the bytes of all texts, and to what joining could add. -/
theorem step5_mass {A : Ar} (hI : A.Inv) {x : OpD} (hx : smallOp x) :
    (x.kind = 34 → (A.step5 x).2.mass + (A.step5 x).2.gain ≤ A.mass + A.gain) ∧
    (x.kind = 31 ∨ x.kind = 32 → (A.step5 x).2.mass ≤ 2 * A.mass ∧ (A.step5 x).2.mass + (A.step5 x).2.gain ≤ 2 * (A.mass + A.gain)) ∧
    (x.kind ≠ 34 → ¬ (x.kind = 31 ∨ x.kind = 32) → (A.step5 x).2.mass ≤ A.mass + 400) := by
  have s2 := hx.2.1
  have other : ∀ {B : Ar}, x.kind ≠ 34 → ¬ (x.kind = 31 ∨ x.kind = 32) → B.mass ≤ A.mass + 400 → (x.kind = 34 → B.mass + B.gain ≤ A.mass + A.gain) ∧ (x.kind = 31 ∨ x.kind = 32 → B.mass ≤ 2 * A.mass ∧ B.mass + B.gain ≤ 2 * (A.mass + A.gain)) ∧ (x.kind ≠ 34 → ¬ (x.kind = 31 ∨ x.kind = 32) → B.mass ≤ A.mass + 400) :=
    fun h1 h2 h3 => ⟨fun h => absurd h h1, fun h => absurd h h2, fun _ _ => h3⟩
  have copy : ∀ {B : Ar}, x.kind = 31 ∨ x.kind = 32 → (B.mass ≤ A.mass + A.mass ∧ B.mass + B.gain ≤ (A.mass + A.gain) + (A.mass + A.gain)) → (x.kind = 34 → B.mass + B.gain ≤ A.mass + A.gain) ∧ (x.kind = 31 ∨ x.kind = 32 → B.mass ≤ 2 * A.mass ∧ B.mass + B.gain ≤ 2 * (A.mass + A.gain)) ∧ (x.kind ≠ 34 → ¬ (x.kind = 31 ∨ x.kind = 32) → B.mass ≤ A.mass + 400) :=
    fun h1 h2 => ⟨fun h => by omega, fun _ => by omega, fun _ h => absurd h1 h⟩
  have triv : ∀ {n : Nat}, n ≤ A.mass → n ≤ A.mass + 400 := fun h => Nat.le_trans h (Nat.le_add_right _ _)
  refine step5_rec (P := fun r => (x.kind = 34 → r.2.mass + r.2.gain ≤ A.mass + A.gain) ∧ (x.kind = 31 ∨ x.kind = 32 → r.2.mass ≤ 2 * A.mass ∧ r.2.mass + r.2.gain ≤ 2 * (A.mass + A.gain)) ∧ (x.kind ≠ 34 → ¬ (x.kind = 31 ∨ x.kind = 32) → r.2.mass ≤ A.mass + 400)) ?_ ?_ ?_ ?_ ?_ ?_ ?_ ?_ ?_ ?_ ?_ ?_ ?_ ?_ ?_ ?_ <;> intro e
  · exact other (by omega) (by omega) (triv (mass_insertCall _ _ _ _))
  · exact other (by omega) (by omega) (triv (mass_insertCall _ _ _ _))
  · exact other (by omega) (by omega) (triv (mass_replaceCall _ _ _ _))
  · exact other (by omega) (by omega) (triv (mass_removeCall _ _ _))
  · exact other (by omega) (by omega) (triv (mass_cutCall _ _))
  · exact other (by omega) (by omega) (triv (mass_replaceAllCall _ _ _))
  · exact other (by omega) (by omega) (triv (mass_adoptCall _ _ _))
  · exact other (by omega) (by omega) (triv (mass_createElement _ _ _))
  · exact other (by omega) (by omega) (triv (mass_setAttr _ _ _ _ _))
  · exact other (by omega) (by omega) (triv (mass_removeAttr _ _ _ _))
  · refine copy (.inl e) ?_
    unfold Ar.cloneCall; split
    · rename_i hh
      obtain ⟨d1, d2⟩ := hI.docK x.a hh
      exact dup_mass hI hI d1 d2 hh (walk_len hI x.a)
    · exact ⟨Nat.le_add_right _ _, Nat.le_add_right _ _⟩
  · refine copy (.inr e) ?_
    unfold Ar.importCall; split
    · rename_i hh
      split
      · exact ⟨Nat.le_add_right _ _, Nat.le_add_right _ _⟩
      · rename_i hk
        exact dup_mass hI hI hh.1 (Classical.not_not.1 (fun z => hk (.inl z))) hh.2 (walk_len hI x.b)
    · exact ⟨Nat.le_add_right _ _, Nat.le_add_right _ _⟩
  · exact other (by omega) (by omega) (Nat.le_trans (mass_setTextCall _ _ _) (by omega))
  · exact ⟨fun _ => (normalize_gain hI x.a).2.2.2, fun h => by omega, fun h => absurd e h⟩
  · exact other (by omega) (by omega) (triv (mass_split _ _))
  · exact other (by omega) (by omega) (mass_step hx)
theorem first_mass {x : OpD} (hx : smallOp x) : (Ar.new.step5 x).2.mass = 0 := by
  have z : ∀ {n : Nat}, n ≤ Ar.new.mass → n = 0 := fun h => Nat.le_zero.1 h
  refine step5_rec (P := fun r => r.2.mass = 0) ?_ ?_ ?_ ?_ ?_ ?_ ?_ ?_ ?_ ?_ ?_ ?_ ?_ ?_ ?_ ?_ <;> intro e
  · exact z (mass_insertCall _ _ _ _)
  · exact z (mass_insertCall _ _ _ _)
  · exact z (mass_replaceCall _ _ _ _)
  · exact z (mass_removeCall _ _ _)
  · exact z (mass_cutCall _ _)
  · exact z (mass_replaceAllCall _ _ _)
  · exact z (mass_adoptCall _ _ _)
  · exact z (mass_createElement _ _ _)
  · exact z (mass_setAttr _ _ _ _ _)
  · exact z (mass_removeAttr _ _ _ _)
  · unfold Ar.cloneCall; rw [if_neg (no_new_has _)]; rfl
  · unfold Ar.importCall; rw [if_neg (fun h => no_new_has _ h.1)]; rfl
  · unfold Ar.setText; rw [if_pos (no_new_has _)]; rfl
  · unfold Ar.normalize; rw [if_neg (no_new_has _)]; rfl
  · exact z (mass_split _ _)
  · exact Nat.le_zero.1 (first_step x)

end Go.Proofs.YtpicinjcmjaogaaGreat

/- Layer 5 as plain data: the texts below a node do not grow by joining. No program here. -/
namespace Go.Proofs.YtpicinjcmjaogaaGreat
set_option linter.unusedVariables false

/-- What a text of a joined row will say. -/
def jtx (A : Ar) (J : List (Int × ByteArray)) (k : Int) : Nat := if (A.get k).kind = 5 then ((J.lookup k).getD (A.get k).data).size else 0
theorem lookup_flush {f k : Int} {d : ByteArray} {J : List (Int × ByteArray)} (h : k ≠ f) : ((if f ≠ 0 then [(f, d)] else []) ++ J).lookup k = J.lookup k := by
  by_cases q : f = 0
  · rw [if_neg (fun z => z q)]; rfl
  · rw [if_pos q]
    have : (k == f) = false := by simp [h]
    simp [List.lookup, this]
theorem jk_tx {A : Ar} : ∀ (l : List Int) (f : Int) (d : ByteArray), l.Nodup → (∀ k ∈ l, k ≠ 0 ∧ k ≠ f) →
    ((jk A f d l).1.map (jtx A (jk A f d l).2)).sum + (if f ≠ 0 then (((jk A f d l).2.lookup f).getD (A.get f).data).size else 0) ≤ (if f ≠ 0 then d.size else 0) + (l.map (fun k => tx (A.get k))).sum
  | [], f, d, _, _ => by
    unfold jk
    by_cases q : f = 0
    · simp [q]
    · simp [q]
  | k :: l, f, d, hn, h => by
    rw [List.nodup_cons] at hn
    have hk := h k (by simp)
    have h' : ∀ k' ∈ l, k' ≠ 0 ∧ k' ≠ f := fun k' hk' => h k' (by simp [hk'])
    have h0 : ∀ k' ∈ l, k' ≠ 0 ∧ k' ≠ 0 := fun k' hk' => ⟨(h' k' hk').1, (h' k' hk').1⟩
    have hkk : ∀ k' ∈ l, k' ≠ 0 ∧ k' ≠ k := fun k' hk' => ⟨(h' k' hk').1, fun e => hn.1 (e ▸ hk')⟩
    by_cases h5 : (A.get k).kind = 5
    · have htx : tx (A.get k) = (A.get k).data.size := by unfold tx; rw [if_pos h5]
      by_cases hf : f = 0 ∧ (A.get k).data ≠ ByteArray.empty
      · have e : jk A f d (k :: l) = (k :: (jk A k (A.get k).data l).1, (jk A k (A.get k).data l).2) := by rw [jk, if_neg (fun q => q h5), if_pos hf]
        rw [e]
        have ih := jk_tx (A := A) l k (A.get k).data hn.2 hkk
        rw [if_pos hk.1, if_pos hk.1] at ih
        rw [if_neg (fun q => q hf.1), if_neg (fun q => q hf.1)]
        simp only [List.map_cons, List.sum_cons]
        have e2 : jtx A (jk A k (A.get k).data l).2 k = (((jk A k (A.get k).data l).2.lookup k).getD (A.get k).data).size := by unfold jtx; rw [if_pos h5]
        rw [e2, htx]
        omega
      · have e : jk A f d (k :: l) = jk A f (d ++ (A.get k).data) l := by rw [jk, if_neg (fun q => q h5), if_neg hf]
        rw [e]
        have ih := jk_tx (A := A) l f (d ++ (A.get k).data) hn.2 h'
        rw [ByteArray.size_append] at ih
        simp only [List.map_cons, List.sum_cons]
        rw [htx]
        by_cases q : f = 0
        · rw [if_neg (fun z => z q), if_neg (fun z => z q)] at ih ⊢; omega
        · rw [if_pos q, if_pos q] at ih ⊢; omega
    · have htx : tx (A.get k) = 0 := by unfold tx; rw [if_neg h5]
      have e : jk A f d (k :: l) = (k :: (jk A 0 ByteArray.empty l).1, (if f ≠ 0 then [(f, d)] else []) ++ (jk A 0 ByteArray.empty l).2) := by rw [jk, if_pos h5]
      rw [e]
      have ih := jk_tx (A := A) l 0 ByteArray.empty hn.2 h0
      rw [if_neg (fun q => q rfl), if_neg (fun q => q rfl)] at ih
      simp only [List.map_cons, List.sum_cons]
      have e1 : ∀ J, jtx A J k = 0 := fun J => by unfold jtx; rw [if_neg h5]
      have e2 : (jk A 0 ByteArray.empty l).1.map (jtx A ((if f ≠ 0 then [(f, d)] else []) ++ (jk A 0 ByteArray.empty l).2)) = (jk A 0 ByteArray.empty l).1.map (jtx A (jk A 0 ByteArray.empty l).2) :=
        List.map_congr_left (fun x hx => by unfold jtx; rw [lookup_flush (h' x (jk_sub l 0 ByteArray.empty x hx)).2])
      rw [e1, e2, htx]
      by_cases q : f = 0
      · rw [if_neg (fun z => z q), if_neg (fun z => z q)]; omega
      · rw [if_pos q, if_pos q, if_pos q]
        have : (((f, d) :: (jk A 0 ByteArray.empty l).2).lookup f) = some d := by simp [List.lookup]
        rw [List.singleton_append, this]
        simp only [Option.getD_some]
        omega
theorem join_tx {A : Ar} {h : Int} (hI : A.Inv) (hh : A.has h) {y : Int} (hy : A.has y) : (A.join h).kidsTx y ≤ A.kidsTx y := by
  obtain ⟨r1, r2, r3, r4⟩ := join_get hI hh
  have hks := jk_sub (B := A) (A.get h).kids 0 ByteArray.empty
  have hkeys := jk_keys (B := A) (A.get h).kids 0 ByteArray.empty
  have hjt := jk_tx (A := A) (A.get h).kids 0 ByteArray.empty (hI.wf.nodup h hh) (fun k hk => by have := (kid_up hI hh hk).1.1; exact ⟨by omega, by omega⟩)
  rw [if_neg (fun q => q rfl), if_neg (fun q => q rfl)] at hjt
  generalize jk A 0 ByteArray.empty (A.get h).kids = J at *
  have htx : ∀ k, A.has k → tx ((A.join h).get k) = jtx A J.2 k := fun k hk => by
    unfold tx jtx
    rw [r4 k hk]
    rfl
  unfold Ar.kidsTx
  by_cases e : y = h
  · subst e
    have ek : ((A.join y).get y).kids = J.1 := by
      rw [r4 y hh]
      show (if y = y then _ else _) = _
      rw [if_pos rfl]
    rw [ek, List.map_congr_left (fun k hk => htx k (kid_up hI hh (hks k hk)).1)]
    have h2 : (J.1.map (jtx A J.2)).sum = (J.1.map (fun k => jtx A J.2 k)).sum := rfl
    omega
  · have ek : ((A.join h).get y).kids = (A.get y).kids := by
      rw [r4 y hy]
      show (if y = h then _ else _) = _
      rw [if_neg e]
    rw [ek]
    refine Nat.le_of_eq (congrArg List.sum (List.map_congr_left (fun k hk => ?_)))
    obtain ⟨k1, k2, k3⟩ := kid_up hI hy hk
    rw [htx k k1]
    unfold jtx tx
    have : J.2.lookup k = none := lookup_none' (fun p hp => by
      rcases hkeys p hp with ⟨_, z⟩ | ⟨z, _⟩
      · exact absurd rfl z
      · exact fun q => e (by rw [← k3, ← q]; exact (kid_up hI hh z).2.2))
    rw [this]; rfl
theorem norm_tx {A : Ar} (hI : A.Inv) (h : Int) {y : Int} (hy : A.has y) : (A.normalize h).2.kidsTx y ≤ A.kidsTx y := by
  unfold Ar.normalize
  split
  · rename_i hh
    obtain ⟨q1, q2, q3, -⟩ := join_get hI hh
    have hasj : ∀ {B : Ar}, B.ns.length = A.ns.length → ∀ {x}, A.has x → B.has x := fun e x hx => ⟨hx.1, by have := hx.2; unfold Ar.n at *; omega⟩
    have hh1 := hasj q2 hh
    dsimp only
    refine (foldl_inv (P := fun B : Ar => B.Inv ∧ B.ns.length = A.ns.length ∧ B.kidsTx y ≤ A.kidsTx y) ⟨q1, q2, join_tx hI hh hy⟩ ?_).2.2
    rintro B x hx ⟨p1, p2, p3⟩
    have hxB : B.has x := by
      have := (below_mem q1 h hh1 x hx).1
      exact ⟨this.1, by have := this.2; unfold Ar.n at *; omega⟩
    obtain ⟨s1, s2, s3, -⟩ := join_get p1 hxB
    exact ⟨s1, s2.trans p2, Nat.le_trans (join_tx p1 hxB (hasj p2 hy)) p3⟩
  · exact Nat.le_refl _

/-- The texts below the nodes, all together. -/
def fK (A : Ar) (x : Int) : Nat := A.kidsTx x
theorem fK_mass {A : Ar} (hI : A.Inv) : tot fK A ≤ A.mass := by
  rw [mass_hs]
  unfold tot
  have : (A.hs.map (fK A)).sum = ((A.hs.flatMap (fun x => (A.get x).kids)).map (fun k => tx (A.get k))).sum := (sum_flatMap (f := fun k => tx (A.get k)) (g := fun x => (A.get x).kids)).symm
  rw [this]
  refine sum_sub (kids_nodup hI) (fun x hx => ?_)
  obtain ⟨y, hy, hx⟩ := List.mem_flatMap.1 hx
  exact hs_mem.2 (kid_up hI (hs_mem.1 hy) hx).1
theorem fK_one {A : Ar} {x : Int} (hx : A.has x) : A.kidsTx x ≤ tot fK A := by
  have := sum_sub (f := fK A) (l := [x]) (H := A.hs) (by simp) (fun y hy => by simp at hy; subst hy; exact hs_mem.2 hx)
  simpa [tot, fK] using this
theorem fK_norm {A : Ar} (hI : A.Inv) (h : Int) : tot fK (A.normalize h).2 ≤ tot fK A := by
  have e : (A.normalize h).2.hs = A.hs := by unfold Ar.hs; rw [(normalize_gain hI h).2.1]
  unfold tot
  rw [e]
  exact sum_le (fun x hx => norm_tx hI h (hs_mem.1 hx))
theorem fK_alk {C B : Ar} {x y : Int} (q : AlkP C B x y) : fK C x = fK B y := by
  obtain ⟨q1, q2, q3, q4, q5, q6, q7⟩ := q.inv
  unfold fK Ar.kidsTx
  exact congrArg List.sum (map_eq_of q4 (fun i x y hx hy => tx_alike (q7 i x y hx hy).inv.2.2.1))
theorem fK_nil {B : Ar} {x : Int} (h : (B.get x).kids = []) : fK B x = 0 := by unfold fK Ar.kidsTx; rw [h]; rfl
theorem fK_old {A B : Ar} (hA : A.Inv) (hold : ∀ x, A.has x → B.has x ∧ B.get x = A.get x) : ∀ x, A.has x → fK B x = fK A x := fun x hx => by
  unfold fK Ar.kidsTx
  rw [(hold x hx).2]
  exact congrArg List.sum (List.map_congr_left (fun k hk => by rw [(hold k (kid_up hA hx hk).1).2]))
theorem CopyR.fK {C A B : Ar} {h d c : Int} (q : CopyR C A B h d c) (hA : A.Inv) (hC : C.Inv) : tot fK B ≤ tot fK A + tot fK C := by
  have hh := q.alk.inv.1
  refine Nat.le_trans (tot_split (A := A) (W := B.walk c) (fK_old hA q.old) (fun x h1 h2 => (q.new x h1 h2).imp id (fun z => fK_nil z.1))) ?_
  rw [← walk_sum fK_alk hC q.inv h hh c q.alk]
  exact Nat.add_le_add_left (walk_tot hC hh) _
theorem dup_fK {C A : Ar} (hC : C.Inv) (hA : A.Inv) {h d : Int} {m : Nat} {deep : Bool} (hd : A.has d) (hk : (A.get d).kind = 1) (hh : C.has h) (hw : (C.walk h).length ≤ m) :
    tot fK (dupF C deep m A d h).2 ≤ tot fK A + tot fK C := by
  cases deep with
  | true =>
    by_cases h1 : (C.get h).kind = 1
    · exact (copy_doc (d := d) hC hA hh h1 hw).fK hA hC
    · exact (copy_facts hC m hA hd hk hh h1 hw).fK hA hC
  | false =>
    cases m with
    | zero => have := walk_pos hC hh; omega
    | succ m =>
      have hmid : dupMid C false m (A.alone d (C.get h)) d h = (A.alone d (C.get h)).2 := by unfold dupMid; rw [if_neg (fun q => by simp at q)]
      rw [dupF_eq, hmid, if_neg (by decide)]
      dsimp only
      have key : ∀ (B : Ar), (∀ x, A.has x → B.has x ∧ B.get x = A.get x) → (∀ x, B.has x → ¬ A.has x → (B.get x).kids = []) → tot fK B ≤ tot fK A + tot fK C := fun B k1 k2 => by
        have a1 := tot_split (F := fK) (A := A) (B := B) (W := []) (fK_old hA k1) (fun x h1 h2 => .inr (fK_nil (k2 x h1 h2)))
        simp at a1
        omega
      by_cases h1 : (C.get h).kind = 1
      · have hal : A.alone d (C.get h) = (A.n + 1, A.document (C.get h).quirks) := by unfold Ar.alone; rw [if_pos h1]
        rw [hal]
        have hg : (A.document (C.get h).quirks).get (A.n + 1) = { zeroNd with kind := 1, quirks := (C.get h).quirks, doc := A.n + 1 } := by rw [Ar.document, Ar.add_new]
        refine key _ (fun x hx => ⟨(Ar.add_has _ _ _).2 (.inl hx), Ar.add_old _ hx⟩) (fun x g1 g2 => ?_)
        rcases (Ar.add_has _ _ _).1 g1 with q | q
        · exact absurd q g2
        · rw [q, hg]; rfl
      · obtain ⟨n1, n2, n3⟩ := alone_new hA hC hd hk hh h1
        generalize (A.alone d (C.get h)).2 = B at *
        refine key B n2.old (fun x g1 g2 => ?_)
        rcases n3 with ⟨z1, z2, z3⟩ | ⟨z1, cc, z2, z3, z4, z5, z6, z7, z8, z9⟩
        · rcases z3 x g1 g2 with q | q
          · rw [q]; exact n2.kids
          · exact q.1
        · rcases z9 x g1 g2 with q | q | q
          · rw [q]; exact n2.kids
          · rw [q]; exact z6
          · exact q.1
theorem step5_fK {A : Ar} (hI : A.Inv) (x : OpD) : (x.kind = 34 → tot fK (A.step5 x).2 ≤ tot fK A) ∧ (x.kind = 31 ∨ x.kind = 32 → tot fK (A.step5 x).2 ≤ 2 * tot fK A) := by
  constructor
  · intro e
    have : (A.step5 x).2 = (A.normalize x.a).2 := by
      unfold Ar.step5
      simp [e]
    rw [this]; exact fK_norm hI x.a
  · rintro (e | e)
    · have : (A.step5 x) = A.cloneCall x.a x.flag := by unfold Ar.step5; simp [e]
      rw [this]
      unfold Ar.cloneCall; split
      · rename_i hh
        obtain ⟨d1, d2⟩ := hI.docK x.a hh
        have := dup_fK (deep := x.flag) hI hI d1 d2 hh (walk_len hI x.a)
        dsimp only; omega
      · dsimp only; omega
    · have : (A.step5 x) = A.importCall A x.a x.b := by unfold Ar.step5; simp [e]
      rw [this]
      unfold Ar.importCall; split
      · rename_i hh
        split
        · dsimp only; omega
        · rename_i hk
          have := dup_fK (deep := true) hI hI hh.1 (Classical.not_not.1 (fun z => hk (.inl z))) hh.2 (walk_len hI x.b)
          dsimp only; omega
      · dsimp only; omega

end Go.Proofs.YtpicinjcmjaogaaGreat
