/-
  Parts: DP, DT.
-/
import Derived.Test.YtpicinjcmjaogaaGreatN24

/- Layer 5 as plain data: joining texts, child by child, and how long the joined text may become. No program here. -/
namespace Go.Proofs.YtpicinjcmjaogaaGreat
set_option linter.unusedVariables false

def Ar.kidsTx (A : Ar) (h : Int) : Nat := ((A.get h).kids.map (fun y => tx (A.get y))).sum
theorem kidsTx_le {A : Ar} (hI : A.Inv) {h : Int} (hh : A.has h) : A.kidsTx h ≤ A.mass := by
  rw [mass_hs]
  exact sum_sub (hI.wf.nodup h hh) (fun x hx => hs_mem.2 (kid_up hI hh hx).1)

/-- Joining, up to a child. -/
structure JoinP (A : Ar) (K : List Int) (k : Nat) (s : JoinS) : Prop where
  inv : s.ar.Inv
  n : s.ar.n = A.n
  kind : ∀ y, A.has y → (s.ar.get y).kind = (A.get y).kind
  data : ∀ y ∈ K.drop k, (s.ar.get y).data = (A.get y).data
  size : s.data.size ≤ ((K.take k).map (fun y => tx (A.get y))).sum
  first : s.first ≠ 0 → s.first ∈ K.take k ∧ (A.get s.first).kind = 5
theorem JoinP.has {A : Ar} {K : List Int} {k : Nat} {s : JoinS} (h : JoinP A K k s) {x : Int} (hx : A.has x) : s.ar.has x := by unfold Ar.has; rw [h.n]; exact hx
theorem JoinP.flush {A : Ar} {K : List Int} {k : Nat} {s : JoinS} (h : JoinP A K k s) (hK : ∀ x ∈ K, A.has x) (hn : K.Nodup) : JoinP A K k s.flush := by
  have hf : s.first ≠ 0 → s.ar.has s.first ∧ (s.ar.get s.first).kind = 5 := fun q => by
    have := hK _ (List.mem_of_mem_take (h.first q).1)
    exact ⟨h.has this, (h.kind _ this).trans (h.first q).2⟩
  refine ⟨flush_inv h.inv, (flush_n s).1.trans h.n, fun y hy => ?_, fun y hy => ?_, ?_, fun q => absurd rfl q⟩
  · rw [flush_get hf (h.has hy)]; exact h.kind y hy
  · have hyK := List.mem_of_mem_drop hy
    rw [flush_get hf (h.has (hK y hyK))]
    show (List.lookup y _).getD (s.ar.get y).data = _
    have : (if s.first ≠ 0 then [(s.first, s.data)] else []).lookup y = none := lookup_none' (fun p hp => by
      by_cases z : s.first = 0
      · rw [if_neg (fun q => q z)] at hp; simp at hp
      · rw [if_pos z] at hp
        simp at hp; subst hp
        intro e
        have e' : s.first = y := e
        have h1 := (h.first z).1
        rw [← List.take_append_drop k K] at hn
        exact (List.nodup_append.1 hn).2.2 _ h1 _ hy e')
    rw [this]; exact h.data y hy
  · exact Nat.zero_le _
theorem sum_take {K : List Int} {k : Nat} {x : Int} {f : Int → Nat} (hx : K[k]? = some x) : ((K.take (k + 1)).map f).sum = ((K.take k).map f).sum + f x := by
  rw [List.take_add_one, hx]; simp
theorem JoinP.step {A : Ar} {K : List Int} {k : Nat} {s : JoinS} {x : Int} (h : JoinP A K k s) (hK : ∀ x ∈ K, A.has x) (hn : K.Nodup) (hx : K[k]? = some x) : JoinP A K (k + 1) (s.step x) := by
  have hk := (List.getElem?_eq_some_iff.1 hx).1
  have hxK := List.mem_of_getElem? hx
  have hxh := hK x hxK
  have hdrop : K.drop k = x :: K.drop (k + 1) := by rw [List.drop_eq_getElem_cons hk, (List.getElem?_eq_some_iff.1 hx).2]
  have hxd : (s.ar.get x).data = (A.get x).data := h.data x (by rw [hdrop]; simp)
  have hxk := h.kind x hxh
  have mono : ∀ y, y ∈ K.drop (k + 1) → y ∈ K.drop k := fun y hy => by rw [hdrop]; simp [hy]
  have memt : ∀ y, y ∈ K.take k → y ∈ K.take (k + 1) := fun y hy => by rw [List.take_add_one]; simp [hy]
  unfold JoinS.step
  by_cases h5 : (s.ar.get x).kind = 5
  · rw [if_neg (fun q => q h5)]
    have htx : tx (A.get x) = (A.get x).data.size := by unfold tx; rw [if_pos (hxk.symm.trans h5)]
    by_cases h0 : s.first = 0 ∧ (s.ar.get x).data ≠ ByteArray.empty
    · rw [if_pos h0]
      refine ⟨h.inv, h.n, h.kind, fun y hy => h.data y (mono y hy), ?_, fun _ => ⟨?_, hxk.symm.trans h5⟩⟩
      · dsimp only; rw [sum_take hx, hxd, htx]; omega
      · dsimp only; rw [List.take_add_one, hx]; simp
    · rw [if_neg h0]
      have hxs := h.has hxh
      have hg : ∀ y, A.has y → ((s.ar.cut x).get y).kind = (s.ar.get y).kind ∧ ((s.ar.cut x).get y).data = (s.ar.get y).data := fun y hy => by
        rw [Ar.cut_get h.inv hxs (h.has hy)]; exact ⟨rfl, rfl⟩
      refine ⟨Ar.InvX.cut h.inv hxs, (Ar.cut_n _ _).trans h.n, fun y hy => (hg y hy).1.trans (h.kind y hy), fun y hy => ?_, ?_, fun q => ⟨memt _ (h.first q).1, (h.first q).2⟩⟩
      · exact (hg y (hK y (List.mem_of_mem_drop hy))).2.trans (h.data y (mono y hy))
      · dsimp only
        rw [sum_take hx, hxd, htx, ByteArray.size_append]
        have := h.size; omega
  · rw [if_pos h5]
    have hf := h.flush hK hn
    refine ⟨hf.inv, hf.n, hf.kind, fun y hy => hf.data y (mono y hy), ?_, fun q => absurd rfl q⟩
    show ByteArray.empty.size ≤ _
    exact Nat.zero_le _
theorem join_at {A : Ar} {h : Int} (hI : A.Inv) (hh : A.has h) : ∀ k, k ≤ (A.get h).kids.length → JoinP A (A.get h).kids k (((A.get h).kids.take k).foldl JoinS.step ⟨A, 0, ByteArray.empty⟩)
  | 0, _ => ⟨hI, rfl, fun _ _ => rfl, fun _ _ => rfl, Nat.zero_le _, fun q => absurd rfl q⟩
  | k + 1, hk => by
    obtain ⟨x, hx⟩ : ∃ x, (A.get h).kids[k]? = some x := ⟨_, List.getElem?_eq_getElem (by omega)⟩
    have := (join_at hI hh k (by omega)).step (fun x hx => (kid_up hI hh hx).1) (hI.wf.nodup h hh) hx
    rw [List.take_add_one, hx, List.foldl_append]
    exact this

end Go.Proofs.YtpicinjcmjaogaaGreat

/- Layer 5 as plain data: joining at node after node: what is not yet joined is as it was. No program here. -/
namespace Go.Proofs.YtpicinjcmjaogaaGreat
set_option linter.unusedVariables false

theorem flatMap_sublist {α β : Type} {f g : α → List β} : ∀ {l : List α}, (∀ x ∈ l, (f x).Sublist (g x)) → (l.flatMap f).Sublist (l.flatMap g)
  | [], _ => by simp
  | a :: l, h => by
    rw [List.flatMap_cons, List.flatMap_cons]
    exact (h a (by simp)).append (flatMap_sublist (fun x hx => h x (by simp [hx])))
theorem below_sub {A : Ar} (hI : A.Inv) : ∀ h, A.has h → (h :: A.below h).Sublist (A.walk h) := by
  refine walk_ind hI (fun h hh _ hk => ?_)
  rw [below_eq hI hh, walk_eq hI hh]
  exact ((flatMap_sublist hk).trans (List.sublist_append_right _ _)).cons_cons _
theorem below_nodup {A : Ar} (hI : A.Inv) {h : Int} (hh : A.has h) : (h :: A.below h).Nodup := (below_sub hI h hh).nodup (walk_nodup hI h hh)

/-- Joining, at some of the nodes. -/
structure NormP (A : Ar) (dn : List Int) (B : Ar) : Prop where
  inv : B.Inv
  len : B.ns.length = A.ns.length
  kids : ∀ y, A.has y → y ∉ dn → (B.get y).kids = (A.get y).kids ∧ ∀ k ∈ (A.get y).kids, tx (B.get k) = tx (A.get k)
theorem NormP.has {A B : Ar} {dn : List Int} (h : NormP A dn B) {x : Int} (hx : A.has x) : B.has x := by have := h.len; unfold Ar.has Ar.n at *; omega
theorem NormP.has' {A B : Ar} {dn : List Int} (h : NormP A dn B) {x : Int} (hx : B.has x) : A.has x := by have := h.len; unfold Ar.has Ar.n at *; omega
theorem NormP.start {A : Ar} (hI : A.Inv) : NormP A [] A := ⟨hI, rfl, fun _ _ _ => ⟨rfl, fun _ _ => rfl⟩⟩
theorem NormP.tx {A B : Ar} {dn : List Int} (h : NormP A dn B) (hI : A.Inv) {x : Int} (hx : A.has x) (hn : x ∉ dn) : B.kidsTx x = A.kidsTx x := by
  obtain ⟨h1, h2⟩ := h.kids x hx hn
  unfold Ar.kidsTx
  rw [h1]
  exact congrArg List.sum (List.map_congr_left h2)
theorem NormP.step {A B : Ar} {dn : List Int} (h : NormP A dn B) (hI : A.Inv) {x : Int} (hx : A.has x) : NormP A (dn ++ [x]) (B.join x) := by
  have hxB := h.has hx
  obtain ⟨r1, r2, r3, r4⟩ := join_get h.inv hxB
  have hkeys := jk_keys (B := B) (B.get x).kids 0 ByteArray.empty
  generalize jk B 0 ByteArray.empty (B.get x).kids = J at *
  refine ⟨r1, r2.trans h.len, fun y hy hn => ?_⟩
  rw [List.mem_append, not_or] at hn
  obtain ⟨h1, h2⟩ := h.kids y hy hn.1
  have hyx : y ≠ x := fun e => hn.2 (by simp [e])
  have hyB := h.has hy
  refine ⟨?_, fun k hk => ?_⟩
  · rw [r4 y hyB]
    show (if y = x then _ else _) = _
    rw [if_neg hyx]; exact h1
  · obtain ⟨k1, k2, k3⟩ := kid_up hI hy hk
    have hkB : k ∈ (B.get y).kids := by rw [h1]; exact hk
    obtain ⟨b1, b2, b3⟩ := kid_up h.inv hyB hkB
    rw [← h2 k hk, r4 k b1]
    have : J.2.lookup k = none := lookup_none' (fun p hp => by
      rcases hkeys p hp with ⟨_, z⟩ | ⟨z, _⟩
      · exact absurd rfl z
      · intro e
        have := (kid_up h.inv hxB z).2.2
        rw [show p.1 = k from e, b3] at this
        exact hyx this)
    unfold Go.Proofs.YtpicinjcmjaogaaGreat.tx
    show (if (B.get k).kind = 5 then ((J.2.lookup k).getD (B.get k).data).size else 0) = _
    rw [this]; rfl

/-- Where a Normalize stands, and what it joins next. -/
theorem norm_at {A : Ar} {h : Int} (hI : A.Inv) (hh : A.has h) : ∀ k, k ≤ ((A.join h).below h).length → NormP A (h :: ((A.join h).below h).take k) ((((A.join h).below h).take k).foldl Ar.join (A.join h))
  | 0, _ => (NormP.start hI).step hI hh
  | k + 1, hk => by
    obtain ⟨x, hx⟩ : ∃ x, ((A.join h).below h)[k]? = some x := ⟨_, List.getElem?_eq_getElem (by omega)⟩
    have h0 : NormP A [h] (A.join h) := (NormP.start hI).step hI hh
    have hxA := h0.has' (below_mem h0.inv h (h0.has hh) x (List.mem_of_getElem? hx)).1
    have := (norm_at hI hh k (by omega)).step hI hxA
    rw [List.take_add_one, hx, List.foldl_append]
    exact this
theorem norm_x {A : Ar} {h : Int} (hI : A.Inv) (hh : A.has h) {k : Nat} {x : Int} (hx : ((A.join h).below h)[k]? = some x) : A.has x ∧ x ∉ h :: ((A.join h).below h).take k := by
  have h0 : NormP A [h] (A.join h) := (NormP.start hI).step hI hh
  refine ⟨h0.has' (below_mem h0.inv h (h0.has hh) x (List.mem_of_getElem? hx)).1, fun hm => ?_⟩
  have hn := below_nodup h0.inv (h0.has hh)
  rw [List.nodup_cons] at hn
  rcases List.mem_cons.1 hm with rfl | hm
  · exact hn.1 (List.mem_of_getElem? hx)
  · have hk := (List.getElem?_eq_some_iff.1 hx).1
    have h2 := hn.2
    rw [← List.take_append_drop k ((A.join h).below h), List.nodup_append] at h2
    refine h2.2.2 x hm x ?_ rfl
    rw [List.drop_eq_getElem_cons hk, (List.getElem?_eq_some_iff.1 hx).2]; simp

end Go.Proofs.YtpicinjcmjaogaaGreat
