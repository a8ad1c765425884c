/-
  Parts: DO.
-/
import Derived.Test.YtpicinjcmjaogaaGreatK44

/- Layer 5 as plain data: what an insertion leaves alone. No program here. -/
namespace Go.Proofs.YtpicinjcmjaogaaGreat
set_option linter.unusedVariables false

theorem walk_sub {A : Ar} (hI : A.Inv) {h x y : Int} (hh : A.has h) (hx : x ∈ A.walk h) (hy : y ∈ A.walk x) : y ∈ A.walk h := by
  obtain ⟨x1, x2⟩ := (walk_mem hI h hh x).1 hx
  obtain ⟨y1, y2⟩ := (walk_mem hI x x1 y).1 hy
  obtain ⟨l1, e⟩ := way_trans hI y1 y2
  exact (walk_mem hI h hh y).2 ⟨y1, by rw [e]; simp [x2]⟩
theorem walk_self {A : Ar} (hI : A.Inv) {h : Int} (hh : A.has h) : h ∈ A.walk h := by rw [walk_eq hI hh]; simp
theorem walk_kid {A : Ar} (hI : A.Inv) {h k : Int} (hh : A.has h) (hk : k ∈ (A.get h).kids) : k ∈ A.walk h := by
  rw [walk_eq hI hh]
  exact List.mem_cons.2 (.inr (List.mem_append.2 (.inr (List.mem_flatMap.2 ⟨k, hk, walk_self hI (kid_up hI hh hk).1⟩))))
theorem walk_contents {A : Ar} (hI : A.Inv) {h : Int} (hh : A.has h) (hc : (A.get h).contents ≠ 0) : (A.get h).contents ∈ A.walk h := by
  rw [walk_eq hI hh, if_pos hc]
  simp [walk_self hI (contents_up hI hh hc).1]
theorem setDoc_other {A : Ar} {h d y : Int} (hy : A.has y) (hne : y ≠ h) : (A.setDoc h d).2.get y = A.get y := by
  unfold Ar.setDoc
  split
  · rfl
  · rename_i q
    split
    · rfl
    · show (A.mod h _).get y = _
      rw [Ar.mod_get _ (Classical.not_not.1 (fun e => q (.inl e))) hy, if_neg hne]

/-- Adoption changes no node outside the tree of the node. -/
theorem adoptF_out : ∀ (n : Nat) {A : Ar} {h d : Int}, A.Inv → A.has h → A.has d → (A.get d).kind = 1 → ∀ y, A.has y → y ∉ A.walk h → (adoptF n A h d).get y = (A.cut h).get y
  | 0, A, h, d, hI, hh, hd, hk, y, hy, hn => rfl
  | n + 1, A, h, d, hI, hh, hd, hk, y, hy, hn => by
    have hC : (A.cut h).Inv := Ar.InvX.cut hI hh
    have hdC : (A.cut h).has d := (Ar.cut_has _ _ _).2 hd
    have hkC : ((A.cut h).get d).kind = 1 := by rw [Ar.cut_get hI hh hd]; exact hk
    have hhC : (A.cut h).has h := (Ar.cut_has _ _ _).2 hh
    have hyC : (A.cut h).has y := (Ar.cut_has _ _ _).2 hy
    have hnC : y ∉ (A.cut h).walk h := by rw [cut_walk hI hh]; exact hn
    unfold adoptF
    split
    · rfl
    · have := foldl_inv (f := ownStep (adoptF n) d) (l := h :: (A.cut h).below h) (b := A.cut h) (P := fun B : Ar => (B.Inv ∧ (A.cut h).Tree B) ∧ B.get y = (A.cut h).get y) ⟨⟨hC, Ar.Tree.refl _⟩, rfl⟩ ?_
      · exact this.2
      rintro B x hx ⟨⟨hB, hT⟩, e⟩
      have hxw : (A.cut h).has x ∧ x ∈ (A.cut h).walk h := by
        rcases List.mem_cons.1 hx with rfl | hx
        · exact ⟨hhC, walk_self hC hhC⟩
        · exact ⟨(below_mem hC h hhC x hx).1, (below_mem hC h hhC x hx).2.1⟩
      refine ⟨ownStep_facts hB hT hdC hkC hxw.1 (fun B' c i hB' hc hp hi hik => by have := adoptF_facts n hB' hc hi hik; rw [cut_root hp] at this; exact this), ?_⟩
      have hxy : y ≠ x := fun q => hnC (q ▸ hxw.2)
      have h1 := Ar.Inv.setDoc hB x d
      have t1 := hT.trans (Ar.tree_setDoc B x d)
      have e1 := setDoc_other (h := x) (d := d) (hT.has hyC) hxy
      unfold ownStep
      split
      · rw [e1, e]
      · rename_i hc
        obtain ⟨c1, c2, c3⟩ := contents_up h1 (t1.has hxw.1) hc
        have hd1 := t1.has hdC
        have h2 := Ar.InvX.inertOf h1 hd1
        obtain ⟨v1, v2⟩ := Ar.InvX.inertVal h1 hd1
        have t2 := Ar.tree_inertOf (B.setDoc x d).2 d
        have tt := t1.trans t2
        have ec : ((B.setDoc x d).2.get x).contents = ((A.cut h).get x).contents := t1.contents hxw.1
        have hcC : ((A.cut h).get x).contents ≠ 0 := by rw [← ec]; exact hc
        obtain ⟨k1, -, -⟩ := contents_up hC hxw.1 hcC
        have hyo : y ∉ ((B.setDoc x d).2.inertOf d).2.walk ((B.setDoc x d).2.get x).contents := by
          rw [ec, tt.walk hC h2 _ k1]
          exact fun q => hnC (walk_sub hC hhC (walk_sub hC hhC hxw.2 (walk_contents hC hxw.1 hcC)) q)
        rw [adoptF_out n h2 (t2.has c1) v1 v2 y (tt.has hyC) hyo, cut_root (by rw [t2.parent c1]; exact c3), (Ar.inertOf_get (t1.has hyC)).1, e1, e]
theorem adopt_out {A : Ar} {h d y : Int} (hI : A.Inv) (hh : A.has h) (hd : A.has d) (hk : (A.get d).kind = 1) (hy : A.has y) (hn : y ∉ A.walk h) : (A.adopt h d).get y = (A.cut h).get y := adoptF_out _ hI hh hd hk y hy hn

theorem putStep_out {B : Ar} {d p c x y : Int} (hI : B.Inv) (hx : B.has x) (hd : B.has d) (hk : (B.get d).kind = 1) (hy : B.has y) (hn : y ∉ B.walk x) : ((putStep d p c B x).get y).doc = (B.get y).doc := by
  obtain ⟨i1, t, -⟩ := adopt_facts hI hx hd hk
  unfold putStep
  rw [(put_get i1 p x c (t.has ((Ar.cut_has _ _ _).2 hy))).2.2, adopt_out hI hx hd hk hy hn, Ar.cut_get hI hx hy]

/-- Where children are taken away from all nodes but one, the trees that are free of it shrink. -/
theorem walk_shrink {B B1 : Ar} {p : Int} (hI : B.Inv) (h1 : B1.Inv) (s : ∀ u, B.has u → u ≠ p → B1.has u ∧ (∀ k ∈ (B1.get u).kids, k ∈ (B.get u).kids) ∧ (B1.get u).contents = (B.get u).contents) :
    ∀ u, B.has u → p ∉ B.walk u → ∀ v, v ∈ B1.walk u → v ∈ B.walk u := by
  refine walk_ind hI (fun u hu hcu hku hpu v hv => ?_)
  have hwu := walk_eq hI hu
  have hup : u ≠ p := fun q => hpu (by rw [hwu, q]; simp)
  obtain ⟨u1, ek, ec⟩ := s u hu hup
  rw [walk_eq h1 u1, ec] at hv
  rw [hwu]
  rcases List.mem_cons.1 hv with rfl | hv
  · simp
  · refine List.mem_cons.2 (.inr (List.mem_append.2 ?_))
    rcases List.mem_append.1 hv with hv | hv
    · left
      by_cases q : (B.get u).contents = 0
      · rw [if_neg (fun e => e q)] at hv; simp at hv
      · rw [if_pos q] at hv ⊢
        exact hcu q (fun r => hpu (by rw [hwu, if_pos q]; simp [r])) v hv
    · right
      obtain ⟨k, k1, k2⟩ := List.mem_flatMap.1 hv
      refine List.mem_flatMap.2 ⟨k, ek k k1, hku k (ek k k1) (fun r => hpu ?_) v k2⟩
      rw [hwu]; exact List.mem_cons.2 (.inr (List.mem_append.2 (.inr (List.mem_flatMap.2 ⟨k, ek k k1, r⟩))))

/-- Node documents change in the trees of the inserted nodes only. -/
theorem puts_docs {d p c : Int} : ∀ (l : List Int) {B : Ar}, B.Inv → B.has p → B.has d → (B.get d).kind = 1 → ((B.get p).kind = 1 ∨ (B.get p).kind = 2 ∨ (B.get p).kind = 4) →
    (∀ x ∈ l, B.has x ∧ (B.get x).kind ≠ 1 ∧ (B.get x).kind ≠ 2 ∧ p ∉ B.walk x) → l.Nodup → (c ≠ 0 → B.has c ∧ c ∉ l ∧ (B.get c).parent = p) →
    ∀ y, B.has y → (∀ x ∈ l, y ∉ B.walk x) → ((l.foldl (putStep d p c) B).get y).doc = (B.get y).doc
  | [], B, hI, hp, hd, hk, hkp, hl, hn, hc, y, hy, ho => rfl
  | x :: l, B, hI, hp, hd, hk, hkp, hl, hn, hc, y, hy, ho => by
    obtain ⟨x1, x2, x3, x4⟩ := hl x (by simp)
    obtain ⟨n1, n2⟩ := List.nodup_cons.1 hn
    have hcm : c ≠ 0 → B.has c ∧ c ≠ x ∧ (B.get c).parent = p := fun h0 => ⟨(hc h0).1, fun e => (hc h0).2.1 (by simp [e]), (hc h0).2.2⟩
    obtain ⟨s1, s2, s3⟩ := putStep_get hI x1 hp hd hk hkp ⟨x2, x3⟩ x4 hcm
    have o1 := putStep_out (p := p) (c := c) hI x1 hd hk hy (ho x (by simp))
    generalize hB1 : putStep d p c B x = B1 at *
    rw [List.foldl_cons, hB1, ← o1]
    have kk : ∀ y, B.has y → (B1.get y).kind = (B.get y).kind := fun y hy => by obtain ⟨e, he⟩ := (s3 y hy).2; rw [he] <;> rfl
    have hsh := walk_shrink (p := p) hI s1 (fun u hu hup => by
      obtain ⟨u1, e, he⟩ := s3 u hu
      refine ⟨u1, fun k hkk => ?_, by rw [he] <;> rfl⟩
      rw [he] at hkk
      have hkk' : k ∈ (if u = p then putIn (without (B.get u).kids x) x c else without (B.get u).kids x) := hkk
      rw [if_neg hup] at hkk'
      exact (without_mem.1 hkk').1)
    refine puts_docs l s1 (s3 p hp).1 (s3 d hd).1 ((kk d hd).trans hk) (by rw [kk p hp]; exact hkp)
      (fun z hz => by
        obtain ⟨z1, z2, z3, z4⟩ := hl z (by simp [hz])
        exact ⟨(s3 z z1).1, by rw [kk z z1]; exact z2, by rw [kk z z1]; exact z3, fun q => z4 (hsh z z1 z4 p q)⟩) n2
      (fun h0 => ?_) y (s3 y hy).1 (fun z hz q => ?_)
    · obtain ⟨c1, c2, c3⟩ := hc h0
      obtain ⟨d1, e, he⟩ := s3 c c1
      refine ⟨d1, fun e => c2 (by simp [e]), ?_⟩
      rw [he]
      show (if c = x then p else (B.get c).parent) = p
      rw [if_neg (fun e => c2 (by simp [e])), c3]
    · obtain ⟨z1, -, -, z4⟩ := hl z (by simp [hz])
      exact ho z (by simp [hz]) (hsh z z1 z4 y q)

/-- **An insertion that is not refused.** -/
theorem insert_law {A : Ar} (hI : A.Inv) {p n c : Int} (h : (A.insertCall p n c).1 = 0) :
    A.has p ∧ A.has n ∧ (A.insertCall p n c).2.Inv ∧ A.ns.length ≤ (A.insertCall p n c).2.ns.length ∧
      (∀ y, A.has y → (A.insertCall p n c).2.has y ∧ (y ≠ p → y ≠ n → y ≠ (A.get n).parent → (A.insertCall p n c).2.contains p y = false → (A.insertCall p n c).2.get y = A.get y)) ∧
      ((A.get n).kind = 2 → ((A.insertCall p n c).2.get n).kids = []) ∧ ((A.get n).kind ≠ 2 → ((A.insertCall p n c).2.get n).parent = p) := by
  have hv : A.validate p n c = 0 := by
    unfold Ar.insertCall at h
    by_cases q : A.validate p n c ≠ 0
    · rw [if_pos q] at h; exact h
    · exact Classical.not_not.1 q
  have hB : (A.insertCall p n c).2 = A.insertAt p n (if c = n then A.next n else c) := by
    unfold Ar.insertCall
    rw [if_neg (fun q => q hv)]
  rw [hB]
  clear h hB
  have hh : A.has p ∧ A.has n ∧ (c ≠ 0 → A.has c) := by
    unfold Ar.validate at hv
    by_cases q : A.has p ∧ A.has n ∧ (c ≠ 0 → A.has c)
    · exact q
    · rw [if_neg q] at hv; exact absurd hv (by decide)
  have hr : A.refused p n c false = 0 := by unfold Ar.validate at hv; rw [if_pos hh] at hv; exact hv
  obtain ⟨hp, hn, hc⟩ := hh
  obtain ⟨r1, r2, r3, r4⟩ := refused_zero hr
  obtain ⟨nf, nnd⟩ := nodesOf_facts hI hp hn r4 r2
  have hpn : p ≠ n := fun e => by
    have : p ∉ A.walk n := by rw [walk_contains hI] at r2; exact of_decide_eq_false r2
    exact this (by rw [walk_eq hI hn, e]; simp)
  have hnd := hI.wf.nodup p hp
  have hin : ∀ k ∈ (A.get p).kids, (k ∈ A.nodesOf n ↔ k = n) := fun k hkk => by
    obtain ⟨q1, q2, q3⟩ := kid_up hI hp hkk
    refine ⟨fun q => ?_, fun q => ?_⟩
    · rcases (nf k q).2.2.2.2 with z | z
      · exact z
      · exact absurd (q3.symm.trans z) hpn
    · subst q
      have := (hI.par k q1 (by rw [q3]; exact hasNe hp)).2
      unfold Ar.nodesOf
      rw [if_neg this]; simp
  obtain ⟨d1, d2⟩ := hI.docK p hp
  -- where the node goes
  have hsplit : ∃ M1 M2 : List Int, (A.get p).kids = M1 ++ [] ++ M2 ∧ (((if c = n then A.next n else c) = 0 ∧ M2 = []) ∨ ∃ t, M2 = (if c = n then A.next n else c) :: t ∧ (if c = n then A.next n else c) ≠ 0 ∧ (if c = n then A.next n else c) ∉ A.nodesOf n) := by
    by_cases e : c = n
    · rw [if_pos e]
      subst e
      have hcp := r3 (hasNe hn)
      obtain ⟨K1, K2, k1, k2⟩ := next_split hI hn (by rw [hcp]; exact hasNe hp)
      rw [hcp] at k1
      refine ⟨K1 ++ [c], K2, by rw [k1]; simp, ?_⟩
      cases K2 with
      | nil => exact .inl ⟨k2, rfl⟩
      | cons z K3 =>
        have ez : A.next c = z := k2
        have hz : z ∈ (A.get p).kids := by rw [k1]; simp
        refine .inr ⟨K3, by rw [ez], by rw [ez]; exact hasNe (kid_up hI hp hz).1, fun q => ?_⟩
        rw [ez] at q
        have := (hin z hz).1 q
        subst this
        rw [k1] at hnd
        have h2 := (List.nodup_cons.1 (List.nodup_append.1 hnd).2.1).1
        simp at h2
    · rw [if_neg e]
      by_cases h0 : c = 0
      · exact ⟨(A.get p).kids, [], by simp, .inl ⟨h0, rfl⟩⟩
      · have hcp := r3 h0
        obtain ⟨K1, K2, k1, k2⟩ := next_split hI (hc h0) (by rw [hcp]; exact hasNe hp)
        rw [hcp] at k1
        exact ⟨K1, c :: K2, by rw [k1]; simp, .inr ⟨K2, rfl, h0, fun q => e ((hin c (by rw [k1]; simp)).1 q)⟩⟩
  generalize (if c = n then A.next n else c) = c' at *
  obtain ⟨M1, M2, m1, m2⟩ := hsplit
  have hl : ∀ x ∈ A.nodesOf n, A.has x ∧ (A.get x).kind ≠ 1 ∧ (A.get x).kind ≠ 2 ∧ p ∉ A.walk x := fun x hx => ⟨(nf x hx).1, (nf x hx).2.1, (nf x hx).2.2.1, (nf x hx).2.2.2.1⟩
  obtain ⟨R1, R2, R3⟩ := puts_fold (d := (A.get p).doc) (p := p) (c := c') (A.nodesOf n) hI hp d1 d2 r1 hl nnd m1 (fun x _ q => by simp at q) m2
  have hD := puts_docs (d := (A.get p).doc) (p := p) (c := c') (A.nodesOf n) hI hp d1 d2 r1 hl nnd (fun h0 => by
    rcases m2 with ⟨q, -⟩ | ⟨t, q, -, q3⟩
    · exact absurd q h0
    · obtain ⟨a, -, b⟩ := kid_up hI hp (k := c') (by rw [m1, q]; simp)
      exact ⟨a, q3, b⟩)
  have hBd : A.insertAt p n c' = (A.nodesOf n).foldl (putStep (A.get p).doc p c') A := rfl
  rw [hBd]
  generalize (A.nodesOf n).foldl (putStep (A.get p).doc p c') A = B at *
  -- the parent's children
  obtain ⟨hpB, ep, gp⟩ := R3 p hp
  have hkB : ∀ x ∈ A.nodesOf n, x ∈ (B.get p).kids := fun x hx => by
    rw [gp]
    show x ∈ (if p = p then _ else _)
    rw [if_pos rfl]
    simp [hx]
  -- the trees of the inserted nodes
  have hw : ∀ x ∈ A.nodesOf n, B.walk x = A.walk x := fun x hx => by
    obtain ⟨x1, x2, x3, x4, x5⟩ := nf x hx
    refine walk_keep hI R1 x x1 (fun z hz => ?_)
    have z1 := ((walk_mem hI x x1 z).1 hz).1
    obtain ⟨zB, e, he⟩ := R3 z z1
    refine ⟨zB, ?_, by rw [he] <;> rfl⟩
    have hzp : z ≠ p := fun e => x4 (e ▸ hz)
    rw [he]
    show (if z = p then _ else (A.get z).kids.filter (fun y => y ∉ A.nodesOf n)) = _
    rw [if_neg hzp]
    refine List.filter_eq_self.2 (fun k hk => ?_)
    simp
    intro q
    obtain ⟨k1, k2, k3⟩ := kid_up hI z1 hk
    -- the node's parent is outside the trees
    have hdk := depth_link hI k1 z1 k2
    have hdz : A.depth x ≤ A.depth z := by
      obtain ⟨l1, e⟩ := way_trans hI z1 ((walk_mem hI x x1 z).1 hz).2
      unfold Ar.depth; rw [e]; simp
    rcases (nf k q).2.2.2.2 with w | w
    · -- the node itself is inserted: it is the only one
      have hn2 : (A.get n).kind ≠ 2 := by rw [← w]; exact (nf k q).2.2.1
      have hx' : x = n := by
        unfold Ar.nodesOf at hx
        rw [if_neg hn2] at hx
        simpa using hx
      rw [w, ← hx'] at hdk
      omega
    · -- a fragment's child: its parent is the fragment
      have hzn : z = n := k3.symm.trans w
      rcases x5 with v | v
      · rw [hzn] at hz
        have : (A.get n).kind ≠ 2 := by rw [← v]; exact x3
        have hk2 : k = n := by
          unfold Ar.nodesOf at q
          rw [if_neg this] at q
          simpa using q
        rw [hk2] at w
        exact self_not_parent hI hn w
      · have hup : A.up x = n := by unfold Ar.up; rw [if_pos (by rw [v]; exact hasNe hn), v]
        have := depth_link hI x1 hn hup
        rw [hzn] at hdz
        omega
  refine ⟨hp, hn, R1, R2, fun y hy => ⟨(R3 y hy).1, fun y1 y2 y3 y4 => ?_⟩, fun h2 => ?_, fun h2 => ?_⟩
  · have hyw : y ∉ B.walk p := by rw [walk_contains R1] at y4; exact of_decide_eq_false y4
    obtain ⟨yB, e, he⟩ := R3 y hy
    have hyl : y ∉ A.nodesOf n := fun q => hyw (walk_kid R1 hpB (hkB y q))
    have hdoc := hD y hy (fun x hx q => hyw (walk_sub R1 hpB (walk_kid R1 hpB (hkB x hx)) (by rw [hw x hx]; exact q)))
    have ekids : (A.get y).kids.filter (fun z => z ∉ A.nodesOf n) = (A.get y).kids := List.filter_eq_self.2 (fun k hk => by
      simp
      intro q
      have k3 := (kid_up hI hy hk).2.2
      rcases (nf k q).2.2.2.2 with w | w
      · exact y3 (by rw [← w, k3])
      · exact y2 (k3.symm.trans w))
    rw [if_neg y1, if_neg hyl, ekids] at he
    have ee : e = (A.get y).doc := by rw [he] at hdoc; exact hdoc
    rw [he, ee]
  · obtain ⟨-, e, he⟩ := R3 n hn
    rw [he]
    show (if n = p then _ else (A.get n).kids.filter (fun y => y ∉ A.nodesOf n)) = _
    rw [if_neg (Ne.symm hpn)]
    refine List.filter_eq_nil_iff.2 (fun k hk => ?_)
    unfold Ar.nodesOf
    rw [if_pos h2]
    simp [hk]
  · obtain ⟨-, e, he⟩ := R3 n hn
    rw [he]
    show (if n ∈ A.nodesOf n then p else _) = p
    rw [if_pos (by unfold Ar.nodesOf; rw [if_neg h2]; simp)]

end Go.Proofs.YtpicinjcmjaogaaGreat
