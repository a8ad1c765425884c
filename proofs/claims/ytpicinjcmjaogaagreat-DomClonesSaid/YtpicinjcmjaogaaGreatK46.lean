/-
  Parts: DZ.
-/
import Derived.Test.YtpicinjcmjaogaaGreatK38
import Derived.Test.YtpicinjcmjaogaaGreatK45

/- Layer 5 as plain data: what Split leaves; how long texts are behind 60 operations. No program here. -/
namespace Go.Proofs.YtpicinjcmjaogaaGreat
set_option linter.unusedVariables false

/-- The nodes below y are the same in B, where the kids in its tree are. -/
theorem below_keep {A B : Ar} (hI : A.Inv) (hB : B.Inv) : ∀ y, A.has y → (∀ z ∈ A.walk y, B.has z ∧ (B.get z).kids = (A.get z).kids) → B.below y = A.below y := by
  refine walk_ind hI (fun y hy hc hk h => ?_)
  obtain ⟨h1, h2⟩ := h y (walk_self hI hy)
  rw [below_eq hB h1, below_eq hI hy, h2]
  exact flatMap_congr' (fun k hkk => by rw [hk k hkk (fun z hz => h z (walk_sub hI hy (walk_kid hI hy hkk) hz))])
theorem toList_mk (l : List UInt8) : (⟨l.toArray⟩ : ByteArray).toList = l := by rw [Go.ByteArray.toList_eq]
theorem textOf_sing (A : Ar) (x : Int) : A.textOf [x] = if (A.get x).kind = 5 then (A.get x).data.toList else [] := by unfold Ar.textOf; simp
theorem textOf_len (A : Ar) : ∀ l : List Int, (A.textOf l).length = (l.map (fun x => tx (A.get x))).sum
  | [] => rfl
  | x :: l => by
    have e : A.textOf (x :: l) = (if (A.get x).kind = 5 then (A.get x).data.toList else []) ++ A.textOf l := rfl
    rw [e, List.length_append, textOf_len A l, List.map_cons, List.sum_cons]
    unfold tx
    split
    · rw [Go.ByteArray.toList_eq]; rfl
    · rfl
theorem textOf_mass {A : Ar} (hI : A.Inv) (h : Int) (hh : A.has h) : (A.textOf (A.below h)).length ≤ A.mass := by
  rw [textOf_len, mass_hs]
  exact sum_sub (List.nodup_cons.1 (below_nodup hI hh)).2 (fun x hx => hs_mem.2 (below_mem hI h hh x hx).1)
theorem uv_59 : ∀ c : Nat, c < 9 → 2 ^ c * (uv (59 - c)).1 ≤ 140737488355328 := by decide +kernel
/-- Behind at most 60 operations. -/
theorem run60_mass {l : List OpD} {m : Int} (h : small5 l m) (hm : m ≤ 60) : (runL5 l).mass ≤ 140737488355328 := by
  obtain ⟨-, hx, hc⟩ := small5_get h (by omega)
  have hl : l.length ≤ 60 := by have := h.1.1; omega
  cases l with
  | nil => exact Nat.le_trans (Nat.le_of_eq new_mass) (by omega)
  | cons x l =>
    have h1 := first_mass (hx x (by simp))
    obtain ⟨f1, f2⟩ := step5_facts inv_new (thin_new 900) x (hx x (by simp)).2.2.2.1
    have g := gain_le f1
    have gk := fK_mass f1
    have f3 := thin_step5 (thin_new 20) x (hx x (by simp)).2.2.2.1
    obtain ⟨-, -, -, q4, -, -⟩ := fold5 l (A := (Ar.new.step5 x).2) (t := 21) (c := 0) (n := 0) f1 f3 (by omega) (by simp at hl; omega) (fun y hy => hx y (by simp [hy])) (by omega) (by omega) (by omega)
    have e := cp_nc l
    rw [cpN_cons] at hc
    have hcl : cpN l < 9 := by split at hc <;> omega
    refine Nat.le_trans q4 (Nat.le_trans ?_ (uv_59 (cpN l) hcl))
    rw [Nat.zero_add, Nat.zero_add]
    exact Nat.mul_le_mul_left _ (uv_mono (by simp at hl; omega))

theorem run60_len {l : List OpD} {m : Int} (h : small5 l m) (hm : m ≤ 60) : (runL5 l).ns.length ≤ 40200 := by
  obtain ⟨-, hx, hc⟩ := small5_get h (by omega)
  have hl : l.length ≤ 60 := by have := h.1.1; omega
  obtain ⟨-, -, q3, -, -, -⟩ := fold5 l (A := Ar.new) (t := 20) (c := 0) (n := 0) inv_new (thin_new _) (by omega) (by omega) hx (Nat.le_refl _) (Nat.le_refl _) (Nat.le_refl _)
  have e := cp_nc l
  have q3' : (runL5 l).ns.length + 1 ≤ 2 ^ cpN l * (0 + 1 + 3 * ncN l) := q3
  have h1 : 2 ^ cpN l * (0 + 1 + 3 * ncN l) ≤ 2 ^ cpN l * (181 - 3 * cpN l) := Nat.mul_le_mul_left _ (by omega)
  have h2 : ∀ c : Nat, c < 9 → 2 ^ c * (181 - 3 * c) ≤ 40200 := by decide +kernel
  have h3 := h2 (cpN l) (by omega)
  omega

theorem sameDepth {A : Ar} (hI : A.Inv) {p x y : Int} (hp : A.has p) (hx : x ∈ (A.get p).kids) (hy : y ∈ (A.get p).kids) (h : x ∈ A.walk y) : x = y := by
  obtain ⟨x1, x2, -⟩ := kid_up hI hp hx
  obtain ⟨y1, y2, -⟩ := kid_up hI hp hy
  obtain ⟨-, h2⟩ := (walk_mem hI y y1 x).1 h
  exact way_depth hI x1 (way_self hI x1) h2 (by rw [depth_link hI x1 hp x2, depth_link hI y1 hp y2])
theorem notAbove {A : Ar} (hI : A.Inv) {p x : Int} (hp : A.has p) (hx : x ∈ (A.get p).kids) : p ∉ A.walk x := fun h => by
  obtain ⟨x1, x2, -⟩ := kid_up hI hp hx
  obtain ⟨-, h2⟩ := (walk_mem hI x x1 p).1 h
  obtain ⟨l1, e⟩ := way_trans hI hp h2
  have := depth_link hI x1 hp x2
  unfold Ar.depth at this
  rw [e] at this
  simp at this
  omega

/-- **Split.** -/
theorem split_law {A : Ar} (hI : A.Inv) {h at' : Int} (he : (A.split h at').1.2 = 0) :
    A.has h ∧ (A.get h).kind = 5 ∧ 0 ≤ at' ∧ at' ≤ ((A.get h).data.size : Int) ∧ (A.split h at').1.1 = A.n + 1 ∧ (A.split h at').2.Inv ∧ (A.split h at').2.ns.length = A.ns.length + 1 ∧
      (A.split h at').2.has h ∧ (A.split h at').2.has (A.n + 1) ∧ ((A.split h at').2.get h).data = ⟨((A.get h).data.toList.take at'.toNat).toArray⟩ ∧ ((A.split h at').2.get (A.n + 1)).data = ⟨((A.get h).data.toList.drop at'.toNat).toArray⟩ ∧
      ((A.split h at').2.get (A.n + 1)).doc = (A.get h).doc ∧ ((A.split h at').2.get (A.n + 1)).parent = (A.get h).parent ∧
      (A.split h at').2.textContent (A.get h).parent = A.textContent (A.get h).parent ∧ ((A.get h).parent ≠ 0 → (A.split h at').2.index (A.n + 1) = (A.split h at').2.index h + 1) ∧ ((A.split h at').2.get h).parent = (A.get h).parent := by
  unfold Ar.split at he ⊢
  by_cases hh : A.has h
  case neg => rw [if_pos hh] at he; exact absurd he (by show ¬ ((3 : Int) = 0); decide)
  rw [if_neg (fun q => q hh)] at he ⊢
  by_cases hk : (A.get h).kind = 5
  case neg => rw [if_pos hk] at he; exact absurd he (by show ¬ ((9 : Int) = 0); decide)
  rw [if_neg (fun q => q hk)] at he ⊢
  by_cases ha : at' < 0 ∨ ((A.get h).data.size : Int) < at'
  · rw [if_pos ha] at he; exact absurd he (by show ¬ ((2 : Int) = 0); decide)
  rw [if_neg ha] at he ⊢
  clear he
  obtain ⟨d1, d2⟩ := hI.docK h hh
  have hmk := make_zero (A := A) (d := (A.get h).doc) (textNd ⟨((A.get h).data.toList.drop at'.toNat).toArray⟩) (ofDoc_zero d1 d2)
  have hiM : (A.make (A.get h).doc (textNd ⟨((A.get h).data.toList.drop at'.toNat).toArray⟩)).2.Inv := Ar.Inv.make hI rfl rfl rfl rfl (local_text _) (by show (5 : Int) ≠ 1; decide) (by show (5 : Int) ≠ 4; decide)
  rw [hmk] at hiM
  rw [hmk]
  dsimp only at hiM ⊢
  generalize hnd : ({ textNd ⟨((A.get h).data.toList.drop at'.toNat).toArray⟩ with doc := (A.get h).doc } : Nd) = nd at *
  have n1 : nd.kind = 5 := by rw [← hnd]; rfl
  have n2 : nd.data = ⟨((A.get h).data.toList.drop at'.toNat).toArray⟩ := by rw [← hnd]; rfl
  have n3 : nd.doc = (A.get h).doc := by rw [← hnd]
  have n4 : nd.parent = 0 := by rw [← hnd]; rfl
  have n5 : nd.kids = [] := by rw [← hnd]; rfl
  clear hnd hmk
  have hhM : (A.add nd).has h := (Ar.add_has _ _ _).2 (.inl hh)
  have htM : (A.add nd).has (A.n + 1) := (Ar.add_has _ _ _).2 (.inr rfl)
  have hne : A.n + 1 ≠ h := fun e => Ar.new_no A (e ▸ hh)
  have hg := fun x (hx : (A.add nd).has x) => setData_get (d := ⟨((A.get h).data.toList.take at'.toNat).toArray⟩) hhM (by rw [Ar.add_old nd hh]; exact hk) hx
  have hi1 := Ar.Inv.setData hiM h ⟨((A.get h).data.toList.take at'.toNat).toArray⟩
  have hs1 := setData_has (A.add nd) h ⟨((A.get h).data.toList.take at'.toNat).toArray⟩
  have hs2 := (setData_n (A.add nd) h ⟨((A.get h).data.toList.take at'.toNat).toArray⟩).2.1
  generalize hB1 : ((A.add nd).setData h ⟨((A.get h).data.toList.take at'.toNat).toArray⟩).2 = B1 at *
  have hold : ∀ x, A.has x → B1.has x ∧ B1.get x = (A.get x).re3 (A.get x).kids (A.get x).parent (if x = h then ⟨((A.get h).data.toList.take at'.toNat).toArray⟩ else (A.get x).data) := fun x hx => by
    have hxM : (A.add nd).has x := (Ar.add_has _ _ _).2 (.inl hx)
    refine ⟨(hs1 x).2 hxM, ?_⟩
    rw [hg x hxM, Ar.add_old nd hx]
  have hnew : B1.get (A.n + 1) = nd := by
    rw [hg _ htM, Ar.add_new, if_neg hne, re3_self]
  have hBh := hold h hh
  have hlenB1 : B1.ns.length = A.ns.length + 1 := by rw [hs2]; simp [Ar.add]
  by_cases hp0 : (A.get h).parent = 0
  · rw [if_neg (fun q => q hp0)]
    refine ⟨hh, hk, by omega, by omega, rfl, hi1, hlenB1, hBh.1, (hs1 _).2 htM, ?_, by rw [hnew, n2], by rw [hnew, n3], by rw [hnew, n4, hp0], ?_, fun q => absurd hp0 q, by rw [hBh.2]; rfl⟩
    · rw [hBh.2]; show (if h = h then _ else _) = _; rw [if_pos rfl]
    · rw [hp0]
      unfold Ar.textContent
      rw [if_pos (has_zero _), if_pos (has_zero _)]
  · rw [if_pos hp0]
    obtain ⟨hp, hpk, -⟩ := hI.wf.link h hh hp0
    generalize hpp : (A.get h).parent = p at *
    obtain ⟨hBp, gBp⟩ := hold p hp
    have hup : A.up h = p := by unfold Ar.up; rw [hpp, if_pos hp0]
    have hhp : p ≠ h := fun e => self_not_parent hI hh (hpp.trans e)
    -- the parent's children
    have hkB1 : (B1.get p).kids = (A.get p).kids := by rw [gBp]; rfl
    have hpB1 : (B1.get h).parent = p := by rw [hBh.2]; rfl
    obtain ⟨K1, K2, k1, k2⟩ := next_split hi1 hBh.1 (by rw [hpB1]; exact hp0)
    rw [hpB1, hkB1] at k1
    have hkk : (B1.get p).kind = 1 ∨ (B1.get p).kind = 2 ∨ (B1.get p).kind = 4 := by
      rw [show (B1.get p).kind = (A.get p).kind by rw [gBp]; rfl]
      exact hI.kidk p hp (by rw [k1]; simp)
    have htB1 : B1.has (A.n + 1) := (hs1 _).2 htM
    have hct : B1.contains (A.n + 1) p = false := by
      rw [walk_contains hi1, walk_eq hi1 htB1, hnew, n5]
      have : nd.contents = 0 := Classical.not_not.1 (fun q => by
        have := (contents_up hi1 htB1 (by rw [hnew]; exact q)).2.1
        have hz := hi1.nocont (A.n + 1) htB1 (.inr (by rw [hnew]; unfold isTemplate; rw [n1]; intro z; exact absurd z.1 (by decide)))
        rw [hnew] at hz; exact q hz)
      rw [this]
      simp
      exact fun e => Ar.new_no A (e ▸ hp)
    have hnc : B1.next h ≠ 0 → B1.has (B1.next h) ∧ B1.next h ≠ A.n + 1 ∧ (B1.get (B1.next h)).parent = p := fun h0 => by
      cases K2 with
      | nil => exact absurd k2 h0
      | cons z K3 =>
        have ez : B1.next h = z := k2
        rw [ez]
        have hz : z ∈ (A.get p).kids := by rw [k1]; simp
        obtain ⟨z1, -, z3⟩ := kid_up hI hp hz
        exact ⟨(hold z z1).1, fun e => Ar.new_no A (e ▸ z1), by rw [(hold z z1).2]; exact z3⟩
    have hal : B1.allowed p (A.n + 1) (B1.next h) (B1.contains (A.n + 1) p) = 0 := by
      unfold Ar.allowed
      rw [if_neg (fun q => q.elim (fun q => q hBp) (fun q => q.elim (fun q => q htB1) (fun q => q.2 (hnc q.1).1))), if_neg (fun q => q hkk),
        if_neg (fun q => q.elim (by rw [hnew, n1]; decide) (fun q => q.elim (by rw [hnew, n1]; decide) (fun q => by rw [hct] at q; exact absurd q (by decide)))),
        if_neg (fun q => q.2.elim (hnc q.1).2.1 (fun z => z (hnc q.1).2.2))]
    have eput : (B1.put p (A.n + 1) (B1.next h)).2 = B1.place p (A.n + 1) (B1.next h) := by unfold Ar.put; rw [if_neg (fun q => q hal)]
    have hiP := Ar.Inv.put hi1 p (A.n + 1) (B1.next h)
    have hlP := put_len B1 p (A.n + 1) (B1.next h)
    have hnp : p ≠ A.n + 1 := fun e => Ar.new_no A (e ▸ hp)
    have hroot : B1.cut (A.n + 1) = B1 := cut_root (by rw [hnew]; exact n4)
    have hndp := hI.wf.nodup p hp
    have hputin : putIn (A.get p).kids (A.n + 1) (B1.next h) = K1 ++ h :: (A.n + 1) :: K2 := by
      have hz0 : (0 : Int) ∉ (A.get p).kids := fun q => has_zero A (kid_up hI hp q).1
      have := putIn_split (K1 := K1 ++ [h]) (K2 := K2) (x := A.n + 1) (c := B1.next h) (by rw [k1] at hz0; simpa using hz0) (by rw [k1] at hndp; simpa using hndp) (by
        cases K2 with
        | nil => exact .inl ⟨k2, rfl⟩
        | cons z K3 =>
          have ez : B1.next h = z := k2
          have hz : z ∈ (A.get p).kids := by rw [k1]; simp
          exact .inr ⟨K3, by rw [ez], by rw [ez]; exact hasNe (kid_up hI hp hz).1⟩)
      rw [k1]
      simpa using this
    have hgP : ∀ x, B1.has x → (B1.place p (A.n + 1) (B1.next h)).has x ∧ (B1.place p (A.n + 1) (B1.next h)).get x = (B1.get x).re (if x = p then K1 ++ h :: (A.n + 1) :: K2 else (B1.get x).kids) (if x = A.n + 1 then p else (B1.get x).parent) := fun x hx => by
      refine ⟨by unfold Ar.has; rw [Ar.place_n]; exact hx, ?_⟩
      rw [Ar.place_get hBp htB1 hx hnp, hroot]
      by_cases q : x = p
      · rw [if_pos q, if_pos q, q, hkB1, hputin]
      · rw [if_neg q, if_neg q]
    rw [eput] at hiP hlP
    rw [eput]
    generalize B1.place p (A.n + 1) (B1.next h) = B at *
    have hBold : ∀ x, A.has x → B.has x ∧ B.get x = (A.get x).re3 (if x = p then K1 ++ h :: (A.n + 1) :: K2 else (A.get x).kids) (A.get x).parent (if x = h then ⟨((A.get h).data.toList.take at'.toNat).toArray⟩ else (A.get x).data) := fun x hx => by
      obtain ⟨a1, a2⟩ := hold x hx
      obtain ⟨b1, b2⟩ := hgP x a1
      refine ⟨b1, ?_⟩
      rw [b2, if_neg (show ¬ x = A.n + 1 from fun e => Ar.new_no A (by rw [← e]; exact hx)), a2]
      by_cases q : x = p
      · rw [if_pos q, if_pos q]; rfl
      · rw [if_neg q, if_neg q]
    obtain ⟨hBt, gBt⟩ := hgP (A.n + 1) htB1
    rw [if_neg (Ne.symm hnp), if_pos rfl, hnew, n5] at gBt
    obtain ⟨hBhh, gBhh⟩ := hBold h hh
    obtain ⟨hBpp, gBpp⟩ := hBold p hp
    have kBp : (B.get p).kids = K1 ++ h :: (A.n + 1) :: K2 := by rw [gBpp]; show (if p = p then _ else _) = _; rw [if_pos rfl]
    have hndB := hiP.wf.nodup p hBpp
    refine ⟨hh, hk, by omega, by omega, rfl, hiP, by rw [hlP, hlenB1], hBhh, hBt, ?_, by rw [gBt]; exact n2, by rw [gBt]; exact n3, by rw [gBt], ?_, fun _ => ?_, by rw [gBhh]; exact hpp⟩
    · rw [gBhh]; show (if h = h then _ else _) = _; rw [if_pos rfl]
    · -- the text of the parent
      have hkp : (B.get p).kind = (A.get p).kind := by rw [gBpp]; rfl
      have hdp : ∀ x, A.has x → x ≠ h → (B.get x).data = (A.get x).data ∧ (B.get x).kind = (A.get x).kind := fun x hx hxh => by
        rw [(hBold x hx).2]
        refine ⟨?_, rfl⟩
        show (if x = h then _ else _) = _
        rw [if_neg hxh]
      unfold Ar.textContent
      rw [if_neg (show ¬ ¬ B.has p from fun q => q hBpp), if_neg (show ¬ ¬ A.has p from fun q => q hp), hkp]
      have hdpp := (hdp p hp hhp).1
      rw [hdpp]
      by_cases q5 : (A.get p).kind = 5 ∨ (A.get p).kind = 6
      · rw [if_pos q5, if_pos q5]
      rw [if_neg q5, if_neg q5]
      by_cases q1 : (A.get p).kind = 1 ∨ (A.get p).kind = 3
      · rw [if_pos q1, if_pos q1]
      rw [if_neg q1, if_neg q1]
      -- below the others nothing changes
      have hbk : ∀ k ∈ (A.get p).kids, k ≠ h → B.textOf (k :: B.below k) = A.textOf (k :: A.below k) := fun k hkk hkh => by
        obtain ⟨kh1, -, -⟩ := kid_up hI hp hkk
        have hkw : ∀ z ∈ A.walk k, A.has z ∧ z ≠ p ∧ z ≠ h := fun z hz => ⟨((walk_mem hI k kh1 z).1 hz).1, fun e => notAbove hI hp hkk (by rw [← e]; exact hz), fun e => hkh (sameDepth hI hp hpk hkk (by rw [← e]; exact hz)).symm⟩
        rw [below_keep hI hiP k kh1 (fun z hz => by
          obtain ⟨w1, w2, w3⟩ := hkw z hz
          refine ⟨(hBold z w1).1, ?_⟩
          rw [(hBold z w1).2]
          show (if z = p then _ else _) = _
          rw [if_neg w2])]
        unfold Ar.textOf
        refine flatMap_congr' (fun z hz => ?_)
        have hzw : z ∈ A.walk k := by
          rcases List.mem_cons.1 hz with rfl | hz
          · exact walk_self hI kh1
          · exact (below_mem hI k kh1 z hz).2.1
        obtain ⟨w1, w2, w3⟩ := hkw z hzw
        obtain ⟨e1, e2⟩ := hdp z w1 w3
        rw [e1, e2]
      have hno : ∀ k ∈ K1 ++ K2, k ∈ (A.get p).kids ∧ k ≠ h := fun k hkk => by
        refine ⟨by rw [k1]; rcases List.mem_append.1 hkk with q | q <;> simp [q], fun e => ?_⟩
        subst e
        rw [k1] at hndp
        have := List.nodup_append.1 hndp
        rcases List.mem_append.1 hkk with q | q
        · exact this.2.2 k q k (by simp) rfl
        · exact (List.nodup_cons.1 this.2.1).1 q
      have hfl : ∀ (C : Ar) (K : List Int), C.textOf (K.flatMap (fun k => k :: C.below k)) = K.flatMap (fun k => C.textOf (k :: C.below k)) := fun C K => by
        unfold Ar.textOf
        rw [List.flatMap_assoc]
      have hBbh : B.below h = [] := by
        rw [below_eq hiP hBhh, gBhh]
        show (if h = p then _ else (A.get h).kids).flatMap _ = []
        rw [if_neg (Ne.symm hhp)]
        have : (A.get h).kids = [] := Classical.not_not.1 (fun q => by have := hI.kidk h hh q; rw [hk] at this; omega)
        rw [this]; rfl
      have hAbh : A.below h = [] := by
        rw [below_eq hI hh]
        have : (A.get h).kids = [] := Classical.not_not.1 (fun q => by have := hI.kidk h hh q; rw [hk] at this; omega)
        rw [this]; rfl
      have hBbt : B.below (A.n + 1) = [] := by rw [below_eq hiP hBt, gBt]; rfl
      have hmain : B.textOf (B.below p) = A.textOf (A.below p) := by
        rw [below_eq hiP hBpp, below_eq hI hp, kBp, hfl, hfl, k1]
        simp only [List.flatMap_append, List.flatMap_cons]
        rw [flatMap_congr' (l := K1) (fun k hkk => hbk k (hno k (by simp [hkk])).1 (hno k (by simp [hkk])).2), flatMap_congr' (l := K2) (fun k hkk => hbk k (hno k (by simp [hkk])).1 (hno k (by simp [hkk])).2), hBbh, hBbt, hAbh, textOf_sing, textOf_sing, textOf_sing, gBhh, gBt]
        show _ ++ ((if (A.get h).kind = 5 then (if h = h then (⟨((A.get h).data.toList.take at'.toNat).toArray⟩ : ByteArray) else (A.get h).data).toList else []) ++ ((if nd.kind = 5 then nd.data.toList else []) ++ _)) = _
        rw [if_pos hk, if_pos rfl, if_pos n1, if_pos hk, n2]
        congr 1
        rw [← List.append_assoc]
        congr 1
        rw [toList_mk (List.take _ _), toList_mk (List.drop _ _), List.take_append_drop]
      rw [hmain]
    · have hpB : (B.get h).parent = p := by rw [gBhh]; exact hpp
      have hpT : (B.get (A.n + 1)).parent = p := by rw [gBt]
      unfold Ar.index
      rw [if_pos ⟨hBt, by rw [hpT]; exact hp0⟩, if_pos ⟨hBhh, by rw [hpB]; exact hp0⟩, hpB, hpT]
      have e1 : findI (fun y => decide (y = h)) (B.get p).kids = (K1.length : Nat) := findI_nodup hndB (by rw [kBp]; simp)
      have e2 : findI (fun y => decide (y = A.n + 1)) (B.get p).kids = ((K1.length + 1 : Nat) : Int) := findI_nodup hndB (by rw [kBp]; rw [List.getElem?_append_right (by omega)]; simp)
      rw [e1, e2]
      omega

end Go.Proofs.YtpicinjcmjaogaaGreat
