/-
  Parts: DI, DR.
-/
import Derived.Test.YtpicinjcmjaogaaGreatK12
import Derived.Test.YtpicinjcmjaogaaGreatK23

/- Layer 5 as plain data: what an insertion does, node by node. No program here. -/
namespace Go.Proofs.YtpicinjcmjaogaaGreat
set_option linter.unusedVariables false

theorem self_not_parent {A : Ar} (hI : A.Inv) {h : Int} (hh : A.has h) : (A.get h).parent ≠ h := fun h5 => by
  obtain ⟨p, hp⟩ := hI.wf.way h hh
  cases p with
  | nil => exact has_zero A (by have e0 : h = 0 := hp; rw [← e0]; exact hh)
  | cons y p =>
    have hp2 := hp.2.2
    have hup : upStep A true h = h := by
      simp only [upStep, Ar.up, if_true]
      rw [if_pos (by rw [h5]; have := hh.1; omega), h5]
    rw [hup] at hp2
    have := congrArg List.length (way_unique hp2 hp)
    simp at this
theorem without_of {l : List Int} {k : Int} (h : k ∉ l) : without l k = l := List.filter_eq_self.2 (fun y hy => by simp; rintro rfl; exact h hy)
theorem without_app (a b : List Int) (k : Int) : without (a ++ b) k = without a k ++ without b k := List.filter_append ..
theorem without_mem {l : List Int} {k x : Int} : x ∈ without l k ↔ x ∈ l ∧ x ≠ k := by unfold without; rw [List.mem_filter]; simp
/-- The cut node, in the kids of every node. -/
theorem cut_re {A : Ar} (hI : A.Inv) {x y : Int} (hx : A.has x) (hy : A.has y) : (A.cut x).get y = (A.get y).re (without (A.get y).kids x) (if y = x then 0 else (A.get y).parent) := by
  rw [Ar.cut_get hI hx hy]
  congr 1
  by_cases e : y = (A.get x).parent
  · rw [if_pos e]
  · rw [if_neg e, without_of (fun q => e (kid_up hI hy q).2.2.symm)]

/-- A root's way, when the parent's kids change, keeps the tree below the node. -/
theorem cut_walk {A : Ar} (hI : A.Inv) {x : Int} (hx : A.has x) : (A.cut x).walk x = A.walk x := by
  refine walk_keep hI (Ar.InvX.cut hI hx) x hx (fun z hz => ?_)
  obtain ⟨z1, z2⟩ := (walk_mem hI x hx z).1 hz
  rw [cut_re hI hx z1]
  refine ⟨(Ar.cut_has _ _ _).2 z1, ?_, rfl⟩
  show without (A.get z).kids x = _
  refine without_of (fun q => ?_)
  obtain ⟨q1, q2, q3⟩ := kid_up hI z1 q
  have hd := depth_link hI q1 z1 q2
  obtain ⟨l1, e⟩ := way_trans hI z1 z2
  have : A.depth x ≤ A.depth z := by unfold Ar.depth; rw [e]; simp
  omega

theorem re_doc_congr {n : Nd} {k k' : List Int} {p p' e : Int} (h1 : k = k') (h2 : p = p') : ({ n.re k p with doc := e } : Nd) = { n.re k' p' with doc := e } := by rw [h1, h2]
/-- One node is adopted and put. -/
theorem putStep_get {B : Ar} {d p c x : Int} (hI : B.Inv) (hx : B.has x) (hp : B.has p) (hd : B.has d) (hk : (B.get d).kind = 1) (hkp : (B.get p).kind = 1 ∨ (B.get p).kind = 2 ∨ (B.get p).kind = 4)
    (hkx : (B.get x).kind ≠ 1 ∧ (B.get x).kind ≠ 2) (hno : p ∉ B.walk x) (hc : c ≠ 0 → B.has c ∧ c ≠ x ∧ (B.get c).parent = p) :
    (putStep d p c B x).Inv ∧ B.ns.length ≤ (putStep d p c B x).ns.length ∧ ∀ y, B.has y → (putStep d p c B x).has y ∧ ∃ e, (putStep d p c B x).get y = { (B.get y).re (if y = p then putIn (without (B.get y).kids x) x c else without (B.get y).kids x) (if y = x then p else (B.get y).parent) with doc := e } := by
  obtain ⟨i1, t, i3⟩ := adopt_facts hI hx hd hk
  have hle : B.ns.length ≤ (B.adopt x d).ns.length := by have := t.le; rw [Ar.cut_ns] at this; exact this
  have hC : (B.cut x).Inv := Ar.InvX.cut hI hx
  have hasC : ∀ y, B.has y → (B.cut x).has y := fun y hy => (Ar.cut_has _ _ _).2 hy
  have hget : ∀ y, B.has y → (B.adopt x d).has y ∧ ∃ e, (B.adopt x d).get y = { (B.get y).re (without (B.get y).kids x) (if y = x then 0 else (B.get y).parent) with doc := e } := fun y hy => by
    refine ⟨t.has (hasC y hy), ?_⟩
    obtain ⟨e, he⟩ := t.get y (hasC y hy)
    exact ⟨e, by rw [he, cut_re hI hx hy]⟩
  have hwx : (B.adopt x d).walk x = B.walk x := by rw [t.walk hC i1 x (hasC x hx), cut_walk hI hx]
  generalize hA1 : B.adopt x d = A1 at *
  have hst : putStep d p c B x = (A1.put p x c).2 := by unfold putStep; rw [hA1]
  rw [hst]
  obtain ⟨hx1, ex, gx⟩ := hget x hx
  obtain ⟨hp1, ep, gp⟩ := hget p hp
  have hne : p ≠ x := fun e => hno (by rw [walk_eq hI hx, e]; simp)
  have hct : A1.contains x p = false := by rw [walk_contains i1, hwx]; exact decide_eq_false hno
  have kp1 : (A1.get p).kind = (B.get p).kind := by rw [gp] <;> rfl
  have kx1 : (A1.get x).kind = (B.get x).kind := by rw [gx] <;> rfl
  have px1 : (A1.get x).parent = 0 := by rw [gx]; show (if x = x then (0 : Int) else _) = 0; rw [if_pos rfl]
  have hc1 : c ≠ 0 → A1.has c ∧ (A1.get c).parent = p := fun h0 => by
    obtain ⟨a, b, e⟩ := hc h0
    obtain ⟨h1, ec, gc⟩ := hget c a
    refine ⟨h1, ?_⟩
    rw [gc]
    show (if c = x then (0 : Int) else _) = p
    rw [if_neg b, e]
  have hal : A1.allowed p x c (A1.contains x p) = 0 := by
    unfold Ar.allowed
    rw [if_neg (fun q => q.elim (fun q => q hp1) (fun q => q.elim (fun q => q hx1) (fun q => q.2 (hc1 q.1).1))), if_neg (fun q => q (by rw [kp1]; exact hkp)),
      if_neg (fun q => q.elim (by rw [kx1]; exact hkx.1) (fun q => q.elim (by rw [kx1]; exact hkx.2) (fun q => by rw [hct] at q; exact absurd q (by decide)))),
      if_neg (fun q => q.2.elim (hc q.1).2.1 (fun z => z (hc1 q.1).2))]
  have e : (A1.put p x c).2 = A1.place p x c := by unfold Ar.put; rw [if_neg (fun q => q hal)]
  refine ⟨Ar.Inv.put i1 p x c, by rw [(put_keeps A1 p x c).2]; exact hle, fun y hy => ?_⟩
  obtain ⟨hy1, ey, gy⟩ := hget y hy
  rw [e]
  refine ⟨by unfold Ar.has; rw [Ar.place_n]; exact hy1, ey, ?_⟩
  rw [Ar.place_get hp1 hx1 hy1 hne, cut_root px1, gy]
  refine Eq.trans (show _ = ({ (B.get y).re (if y = p then putIn (without (B.get y).kids x) x c else without (B.get y).kids x) (if y = x then p else (if y = x then 0 else (B.get y).parent)) with doc := ey } : Nd) from rfl) (re_doc_congr rfl ?_)
  by_cases q : y = x
  · rw [if_pos q, if_pos q]
  · rw [if_neg q, if_neg q, if_neg q]

theorem putIn_split {K1 K2 : List Int} {x c : Int} (hz : (0 : Int) ∉ K1 ++ K2) (hn : (K1 ++ K2).Nodup) (hc : (c = 0 ∧ K2 = []) ∨ ∃ t, K2 = c :: t ∧ c ≠ 0) : putIn (K1 ++ K2) x c = K1 ++ x :: K2 := by
  rcases hc with ⟨rfl, rfl⟩ | ⟨t, rfl, h0⟩
  · rw [putIn_zero hz]; simp
  · rw [putIn_at (i := K1.length) h0 hn (by simp)]
    simp

/-- The kids of a parent where the nodes of l are put before c. -/
structure PutsR (B B' : Ar) (l : List Int) (p : Int) (K1 K2 : List Int) : Prop where
  inv : B'.Inv
  le : B.ns.length ≤ B'.ns.length
  get : ∀ y, B.has y → B'.has y ∧ ∃ e, B'.get y = { (B.get y).re (if y = p then K1.filter (fun z => z ∉ l) ++ l ++ K2.filter (fun z => z ∉ l) else (B.get y).kids.filter (fun z => z ∉ l)) (if y ∈ l then p else (B.get y).parent) with doc := e }

theorem filter_cons_not {K l : List Int} {x : Int} : K.filter (fun z => z ∉ x :: l) = (without K x).filter (fun z => z ∉ l) := by
  unfold without
  rw [List.filter_filter]
  congr 1
  funext z
  by_cases h1 : z = x <;> by_cases h2 : z ∈ l <;> simp [h1, h2]

theorem puts_fold {d p c : Int} : ∀ (l : List Int) {B : Ar} {K1 pre K2 : List Int}, B.Inv → B.has p → B.has d → (B.get d).kind = 1 → ((B.get p).kind = 1 ∨ (B.get p).kind = 2 ∨ (B.get p).kind = 4) →
    (∀ x ∈ l, B.has x ∧ (B.get x).kind ≠ 1 ∧ (B.get x).kind ≠ 2 ∧ p ∉ B.walk x) → l.Nodup → (B.get p).kids = K1 ++ pre ++ K2 → (∀ x ∈ l, x ∉ pre) → ((c = 0 ∧ K2 = []) ∨ ∃ t, K2 = c :: t ∧ c ≠ 0 ∧ c ∉ l) →
    (l.foldl (putStep d p c) B).Inv ∧ B.ns.length ≤ (l.foldl (putStep d p c) B).ns.length ∧ ∀ y, B.has y → (l.foldl (putStep d p c) B).has y ∧
      ∃ e, (l.foldl (putStep d p c) B).get y = { (B.get y).re (if y = p then K1.filter (fun z => z ∉ l) ++ pre ++ l ++ K2.filter (fun z => z ∉ l) else (B.get y).kids.filter (fun z => z ∉ l)) (if y ∈ l then p else (B.get y).parent) with doc := e }
  | [], B, K1, pre, K2, hI, hp, hd, hk, hkp, hl, hn, hkids, hpre, hc => by
    refine ⟨hI, Nat.le_refl _, fun y hy => ⟨hy, (B.get y).doc, ?_⟩⟩
    show B.get y = _
    have e1 : ∀ K : List Int, K.filter (fun z => z ∉ ([] : List Int)) = K := fun K => List.filter_eq_self.2 (fun z hz => by simp)
    have e2 : (if y ∈ ([] : List Int) then p else (B.get y).parent) = (B.get y).parent := if_neg List.not_mem_nil
    rw [e1, e1, e1, e2]
    by_cases q : y = p
    · rw [if_pos q, List.append_nil, ← hkids, q] <;> rfl
    · rw [if_neg q] <;> rfl
  | x :: l, B, K1, pre, K2, hI, hp, hd, hk, hkp, hl, hn, hkids, hpre, hc => by
    obtain ⟨x1, x2, x3, x4⟩ := hl x (by simp)
    obtain ⟨n1, n2⟩ := List.nodup_cons.1 hn
    have hnk := hI.wf.nodup p hp
    have hzk : (0 : Int) ∉ (B.get p).kids := fun z => has_zero B (kid_up hI hp z).1
    have hcm : c ≠ 0 → B.has c ∧ c ≠ x ∧ (B.get c).parent = p := fun h0 => by
      rcases hc with ⟨q, -⟩ | ⟨t, rfl, -, q⟩
      · exact absurd q h0
      · obtain ⟨a, -, b⟩ := kid_up hI hp (k := c) (by rw [hkids]; simp)
        exact ⟨a, fun e => q (by rw [e]; simp), b⟩
    obtain ⟨s1, s2, s3⟩ := putStep_get hI x1 hp hd hk hkp ⟨x2, x3⟩ x4 hcm
    have hpx : p ≠ x := fun e => x4 (by rw [walk_eq hI x1, e]; simp)
    have hxpre : x ∉ pre := hpre x (by simp)
    -- the parent's kids
    have hkw : without (B.get p).kids x = without K1 x ++ pre ++ without K2 x := by rw [hkids, without_app, without_app, without_of hxpre]
    have hput : putIn (without (B.get p).kids x) x c = without K1 x ++ (pre ++ [x]) ++ without K2 x := by
      rw [hkw, putIn_split]
      · simp
      · rw [← hkw]; exact fun q => hzk (without_mem.1 q).1
      · rw [← hkw]; exact hnk.filter _
      · rcases hc with ⟨q, rfl⟩ | ⟨t, rfl, h0, q⟩
        · exact .inl ⟨q, rfl⟩
        · refine .inr ⟨without t x, ?_, h0⟩
          have : c ≠ x := fun e => q (by rw [e]; simp)
          unfold without
          rw [List.filter_cons, if_pos (by simp [this])]
    have hle := s2
    generalize hB1 : putStep d p c B x = B1 at *
    rw [List.foldl_cons, hB1]
    have kk : ∀ y, B.has y → (B1.get y).kind = (B.get y).kind := fun y hy => by obtain ⟨e, he⟩ := (s3 y hy).2; rw [he] <;> rfl
    have hkids1 : (B1.get p).kids = without K1 x ++ (pre ++ [x]) ++ without K2 x := by
      obtain ⟨e, he⟩ := (s3 p hp).2
      rw [he]
      show (if p = p then _ else _) = _
      rw [if_pos rfl, hput]
    -- the trees of the others
    have hw : ∀ z ∈ l, p ∉ B1.walk z := fun z hz => by
      obtain ⟨z1, z2, z3, z4⟩ := hl z (by simp [hz])
      have : ∀ u, B.has u → p ∉ B.walk u → ∀ v, v ∈ B1.walk u → v ∈ B.walk u := by
        refine walk_ind hI (fun u hu hcu hku hpu v hv => ?_)
        have hwu := walk_eq hI hu
        obtain ⟨u1, e, he⟩ := s3 u hu
        have hup : u ≠ p := fun q => hpu (by rw [hwu, q]; simp)
        have ek : (B1.get u).kids = without (B.get u).kids x := by
          rw [he]; show (if u = p then _ else _) = _; rw [if_neg hup]
        have ec : (B1.get u).contents = (B.get u).contents := by rw [he] <;> rfl
        rw [walk_eq s1 u1, ek, ec] at hv
        rw [hwu]
        rcases List.mem_cons.1 hv with rfl | hv
        · simp
        · refine List.mem_cons.2 (.inr (List.mem_append.2 ?_))
          rcases List.mem_append.1 hv with hv | hv
          · left
            by_cases q : (B.get u).contents = 0
            · rw [if_neg (fun e => e q)] at hv; simp at hv
            · rw [if_pos q] at hv ⊢
              exact hcu q (fun r => hpu (by rw [hwu, if_pos q]; simp [r])) v hv
          · right
            obtain ⟨k, k1, k2⟩ := List.mem_flatMap.1 hv
            have k3 := (without_mem.1 k1).1
            refine List.mem_flatMap.2 ⟨k, k3, hku k k3 (fun r => hpu ?_) v k2⟩
            rw [hwu]; exact List.mem_cons.2 (.inr (List.mem_append.2 (.inr (List.mem_flatMap.2 ⟨k, k3, r⟩))))
      exact fun q => z4 (this z z1 z4 p q)
    obtain ⟨r1, r2, r3⟩ := puts_fold (d := d) (p := p) (c := c) l (B := B1) (K1 := without K1 x) (pre := pre ++ [x]) (K2 := without K2 x) s1 (s3 p hp).1 (s3 d hd).1 ((kk d hd).trans hk) (by rw [kk p hp]; exact hkp)
      (fun z hz => by
        obtain ⟨z1, z2, z3, z4⟩ := hl z (by simp [hz])
        exact ⟨(s3 z z1).1, by rw [kk z z1]; exact z2, by rw [kk z z1]; exact z3, hw z hz⟩) n2 hkids1
      (fun z hz q => by
        rcases List.mem_append.1 q with q | q
        · exact hpre z (by simp [hz]) q
        · simp at q; subst q; exact n1 hz)
      (by
        rcases hc with ⟨q, rfl⟩ | ⟨t, rfl, h0, q⟩
        · exact .inl ⟨q, rfl⟩
        · refine .inr ⟨without t x, ?_, h0, fun e => q (by simp [e])⟩
          have : c ≠ x := fun e => q (by rw [e]; simp)
          unfold without
          rw [List.filter_cons, if_pos (by simp [this])])
    refine ⟨r1, Nat.le_trans hle r2, fun y hy => ?_⟩
    obtain ⟨y1, ey, gy⟩ := s3 y hy
    obtain ⟨y2, ey2, gy2⟩ := r3 y y1
    refine ⟨y2, ey2, ?_⟩
    rw [gy2, gy]
    refine Eq.trans (show _ = ({ (B.get y).re (if y = p then (without K1 x).filter (fun z => z ∉ l) ++ (pre ++ [x]) ++ l ++ (without K2 x).filter (fun z => z ∉ l) else (if y = p then putIn (without (B.get y).kids x) x c else without (B.get y).kids x).filter (fun z => z ∉ l)) (if y ∈ l then p else (if y = x then p else (B.get y).parent)) with doc := ey2 } : Nd) from rfl) (re_doc_congr ?_ ?_)
    · by_cases q : y = p
      · rw [if_pos q, if_pos q, filter_cons_not, filter_cons_not]; simp
      · rw [if_neg q, if_neg q, if_neg q, filter_cons_not]
    · by_cases q1 : y ∈ l
      · rw [if_pos q1, if_pos (by simp [q1])]
      · by_cases q2 : y = x
        · rw [if_neg q1, if_pos q2, if_pos (by simp [q2])]
        · rw [if_neg q1, if_neg q2, if_neg (by simp [q1, q2])]

end Go.Proofs.YtpicinjcmjaogaaGreat

/- Layer 5 as plain data: what a replacement leaves below its parent. No program here. -/
namespace Go.Proofs.YtpicinjcmjaogaaGreat
set_option linter.unusedVariables false

theorem ruleFrom_zero {A : Ar} {p n c : Int} {r : Bool} : ∀ (m i : Nat), i + m = 6 → A.ruleFrom p n c r i m = 0 → ∀ j, i ≤ j → j < 6 → ¬ A.rule p n c r j
  | 0, i, hi, h, j, h1, h2 => by omega
  | m + 1, i, hi, h, j, h1, h2 => by
    unfold Ar.ruleFrom at h
    split at h
    · exact absurd h (by unfold ruleCode; repeat' split
                         all_goals first | decide | omega)
    · rename_i hr
      rcases Nat.lt_or_ge i j with q | q
      · exact ruleFrom_zero m (i + 1) (by omega) h j (by omega) h2
      · rw [show j = i by omega]; exact hr
theorem refused_zero {A : Ar} {p n c : Int} {r : Bool} (h : A.refused p n c r = 0) :
    ((A.get p).kind = 1 ∨ (A.get p).kind = 2 ∨ (A.get p).kind = 4) ∧ A.contains n p = false ∧ (c ≠ 0 → (A.get c).parent = p) ∧ (A.get n).kind ≠ 1 := by
  have k := ruleFrom_zero 6 0 rfl h
  have k0 : ¬ ¬ _ := k 0 (by omega) (by omega)
  have k1 : ¬ (A.contains n p = true) := k 1 (by omega) (by omega)
  have k2 : ¬ (c ≠ 0 ∧ (A.get c).parent ≠ p) := k 2 (by omega) (by omega)
  have k3 : ¬ ((A.get n).kind = 1) := k 3 (by omega) (by omega)
  exact ⟨Classical.not_not.1 k0, by simpa using k1, fun q => Classical.not_not.1 (fun z => k2 ⟨q, z⟩), k3⟩

/-- The walk of the arena without a link is part of the old walk. -/
theorem cut_walk_sub {A : Ar} (hI : A.Inv) {c : Int} (hc : A.has c) : ∀ h, (A.cut c).has h → ∀ y ∈ (A.cut c).walk h, y ∈ A.walk h := by
  have hC := Ar.InvX.cut hI hc
  refine walk_ind hC (fun h hh hcc hk y hy => ?_)
  have hhA : A.has h := (Ar.cut_has _ _ _).1 hh
  have e := cut_re hI hc hhA
  rw [walk_eq hC hh] at hy
  rw [walk_eq hI hhA]
  have e1 : ((A.cut c).get h).contents = (A.get h).contents := by rw [e]
  have e2 : ((A.cut c).get h).kids = without (A.get h).kids c := by rw [e]
  rw [e1] at hcc hy
  rw [e2] at hk hy
  rcases List.mem_cons.1 hy with q | q
  · exact List.mem_cons.2 (.inl q)
  · refine List.mem_cons.2 (.inr (List.mem_append.2 ?_))
    rcases List.mem_append.1 q with q | q
    · by_cases z : (A.get h).contents = 0
      · rw [if_neg (fun w => w z)] at q; simp at q
      · rw [if_pos z] at q ⊢; exact .inl (hcc z y q)
    · obtain ⟨k, hkk, hyk⟩ := List.mem_flatMap.1 q
      exact .inr (List.mem_flatMap.2 ⟨k, (without_mem.1 hkk).1, hk k hkk y hyk⟩)

/-- A child, those before it and those behind it; what follows it. -/
theorem next_split {A : Ar} (hI : A.Inv) {c : Int} (hc : A.has c) (hp : (A.get c).parent ≠ 0) : ∃ K1 K2, (A.get (A.get c).parent).kids = K1 ++ c :: K2 ∧ A.next c = K2.head?.getD 0 := by
  obtain ⟨i, h1, h2, h3⟩ := index_nat hI hc hp
  have hk := (List.getElem?_eq_some_iff.1 h3).2
  refine ⟨(A.get (A.get c).parent).kids.take i, (A.get (A.get c).parent).kids.drop (i + 1), ?_, ?_⟩
  · have e := List.drop_eq_getElem_cons h2
    rw [hk] at e
    rw [← e, List.take_append_drop]
  · unfold Ar.next
    rw [h1]
    have e : ((A.get (A.get c).parent).kids.drop (i + 1)).head? = (A.get (A.get c).parent).kids[i + 1]? := by rw [List.head?_drop]
    rw [e]
    by_cases q : i + 1 < (A.get (A.get c).parent).kids.length
    · rw [if_pos ⟨by omega, by omega⟩, show ((i : Int) + 1).toNat = i + 1 by omega]
    · rw [if_neg (fun z => q (by omega)), List.getElem?_eq_none (by omega)]; rfl

theorem nodesOf_facts {A : Ar} (hI : A.Inv) {p n : Int} (hp : A.has p) (hn : A.has n) (h1 : (A.get n).kind ≠ 1) (hct : A.contains n p = false) :
    (∀ x ∈ A.nodesOf n, A.has x ∧ (A.get x).kind ≠ 1 ∧ (A.get x).kind ≠ 2 ∧ p ∉ A.walk x ∧ (x = n ∨ (A.get x).parent = n)) ∧ (A.nodesOf n).Nodup := by
  have hpw : p ∉ A.walk n := by rw [walk_contains hI] at hct; exact of_decide_eq_false hct
  unfold Ar.nodesOf
  by_cases h2 : (A.get n).kind = 2
  · rw [if_pos h2]
    refine ⟨fun x hx => ?_, hI.wf.nodup n hn⟩
    obtain ⟨q1, q2, q3⟩ := kid_up hI hn hx
    have := hI.par x q1 (by rw [q3]; have := hn.1; omega)
    refine ⟨q1, this.1, this.2, fun z => hpw ?_, .inr q3⟩
    rw [walk_eq hI hn]
    exact List.mem_cons.2 (.inr (List.mem_append.2 (.inr (List.mem_flatMap.2 ⟨x, hx, z⟩))))
  · rw [if_neg h2]
    refine ⟨fun x hx => ?_, by simp⟩
    simp at hx
    rw [hx]
    exact ⟨hn, h1, h2, hpw, .inl rfl⟩

theorem filt_flat {l K : List Int} {n c : Int} {L : List Int} (h : ∀ k ∈ K, k ≠ c ∧ (k ∈ l ↔ k = n)) : K.filter (fun z => z ∉ l) = K.flatMap (fun k => if k = c then L else if k = n then [] else [k]) := by
  induction K with
  | nil => rfl
  | cons k K ih =>
    obtain ⟨h1, h2⟩ := h k (by simp)
    have ih' := ih (fun x hx => h x (by simp [hx]))
    rw [List.flatMap_cons, ← ih', if_neg h1, List.filter_cons]
    by_cases q : k = n
    · rw [if_pos q, if_neg (by simp [h2.2 q])]; rfl
    · rw [if_neg q, if_pos (by simp [mt h2.1 q])]; rfl
theorem split_unique {c : Int} : ∀ {K1 K2 L1 L2 : List Int}, (K1 ++ c :: K2).Nodup → K1 ++ c :: K2 = L1 ++ c :: L2 → K1 = L1 ∧ K2 = L2
  | [], K2, [], L2, _, h => by simp at h; exact ⟨rfl, h⟩
  | [], K2, y :: L1, L2, hn, h => by
    simp at h
    obtain ⟨rfl, h⟩ := h
    simp [h] at hn
  | x :: K1, K2, [], L2, hn, h => by
    simp at h
    obtain ⟨rfl, h⟩ := h
    simp at hn
  | x :: K1, K2, y :: L1, L2, hn, h => by
    simp only [List.cons_append, List.cons.injEq] at h
    obtain ⟨rfl, h⟩ := h
    obtain ⟨a, b⟩ := split_unique (List.nodup_cons.1 hn).2 h
    exact ⟨by rw [a], b⟩
theorem hasNe {A : Ar} {x : Int} (h : A.has x) : x ≠ 0 := by have := h.1; omega

/-- **What Replace leaves below its parent.** -/
theorem replace_kids {A : Ar} (hI : A.Inv) {p n c : Int} (h : (A.replaceCall p n c).1 = 0) :
    A.has p ∧ A.has n ∧ A.has c ∧ (A.replaceCall p n c).2.Inv ∧ (A.replaceCall p n c).2.has p ∧ (A.replaceCall p n c).2.has c ∧
      ((A.replaceCall p n c).2.get p).kids = (A.get p).kids.flatMap (fun k => if k = c then A.nodesOf n else if k = n then [] else [k]) ∧ (n = c ∨ ((A.replaceCall p n c).2.get c).parent = 0) := by
  unfold Ar.replaceCall at h ⊢
  by_cases hh : A.has p ∧ A.has n ∧ A.has c
  case neg => rw [if_neg hh] at h; exact absurd h (by show ¬ ((3 : Int) = 0); decide)
  rw [if_pos hh] at h ⊢
  obtain ⟨hp, hn, hc⟩ := hh
  by_cases hr : A.refused p n c true ≠ 0
  · rw [if_pos hr] at h; exact absurd h hr
  rw [if_neg hr]
  clear h
  obtain ⟨r1, r2, r3, r4⟩ := refused_zero (Classical.not_not.1 hr)
  have hcp := r3 (hasNe hc)
  have hcp0 : (A.get c).parent ≠ 0 := by rw [hcp]; exact hasNe hp
  obtain ⟨K1, K2, hk, hnx⟩ := next_split hI hc hcp0
  rw [hcp] at hk
  have hnd := hI.wf.nodup p hp
  obtain ⟨nf, nnd⟩ := nodesOf_facts hI hp hn r4 r2
  have hpn : p ≠ n := fun e => by
    have : p ∉ A.walk n := by rw [walk_contains hI] at r2; exact of_decide_eq_false r2
    exact this (by rw [walk_eq hI hn, e]; simp)
  have hC : (A.cut c).Inv := Ar.InvX.cut hI hc
  have hasC : ∀ y, A.has y → (A.cut c).has y := fun y hy => (Ar.cut_has _ _ _).2 hy
  -- a child of the parent is inserted just if it is the node
  have hin : ∀ k ∈ (A.get p).kids, (k ∈ A.nodesOf n ↔ k = n) := fun k hkk => by
    obtain ⟨q1, q2, q3⟩ := kid_up hI hp hkk
    refine ⟨fun q => ?_, fun q => ?_⟩
    · rcases (nf k q).2.2.2.2 with z | z
      · exact z
      · exact absurd (q3.symm.trans z) hpn
    · subst q
      have := (hI.par k q1 (by rw [q3]; exact hasNe hp)).2
      unfold Ar.nodesOf
      rw [if_neg this]; simp
  have hck : c ∈ (A.get p).kids := by rw [hk]; simp
  have hno : ∀ k ∈ K1 ++ K2, k ≠ c := fun k q e => by
    subst e
    rw [hk] at hnd
    have := List.nodup_append.1 hnd
    rcases List.mem_append.1 q with q | q
    · exact this.2.2 k q k (by simp) rfl
    · exact (List.nodup_cons.1 this.2.1).1 q
  have hsub : ∀ k ∈ K1 ++ K2, k ∈ (A.get p).kids := fun k q => by rw [hk]; rcases List.mem_append.1 q with q | q <;> simp [q]
  -- the arena without the child
  have hnc : c ∉ (A.get n).kids := fun q => hpn ((kid_up hI hn q).2.2.symm.trans hcp).symm
  have hnodes : (A.cut c).nodesOf n = A.nodesOf n := by
    unfold Ar.nodesOf
    rw [cut_re hI hc hn]
    show (if (A.get n).kind = 2 then without (A.get n).kids c else [n]) = _
    rw [without_of hnc]
  have hkC : ((A.cut c).get p).kids = K1 ++ K2 := by
    rw [cut_re hI hc hp]
    show without (A.get p).kids c = _
    rw [hk, without_app]
    unfold without
    rw [List.filter_cons, if_neg (by simp)]
    rw [List.filter_eq_self.2 (fun y hy => by simp; exact hno y (by simp [hy])), List.filter_eq_self.2 (fun y hy => by simp; exact hno y (by simp [hy]))]
  have kC : ∀ y, A.has y → ((A.cut c).get y).kind = (A.get y).kind := fun y hy => by rw [cut_re hI hc hy]
  have hl : ∀ x ∈ A.nodesOf n, (A.cut c).has x ∧ ((A.cut c).get x).kind ≠ 1 ∧ ((A.cut c).get x).kind ≠ 2 ∧ p ∉ (A.cut c).walk x := fun x hx => by
    obtain ⟨a1, a2, a3, a4, -⟩ := nf x hx
    exact ⟨hasC x a1, by rw [kC x a1]; exact a2, by rw [kC x a1]; exact a3, fun q => a4 (cut_walk_sub hI hc x (hasC x a1) p q)⟩
  obtain ⟨hd1, hd2⟩ := hC.docK p (hasC p hp)
  -- where the node goes
  have hsplit : ∃ M1 M2 : List Int, ((A.cut c).get p).kids = M1 ++ [] ++ M2 ∧ M1.filter (fun z => z ∉ A.nodesOf n) = K1.filter (fun z => z ∉ A.nodesOf n) ∧ M2.filter (fun z => z ∉ A.nodesOf n) = K2.filter (fun z => z ∉ A.nodesOf n) ∧
      (((if A.next c = n then A.next n else A.next c) = 0 ∧ M2 = []) ∨ ∃ t, M2 = (if A.next c = n then A.next n else A.next c) :: t ∧ (if A.next c = n then A.next n else A.next c) ≠ 0 ∧ (if A.next c = n then A.next n else A.next c) ∉ A.nodesOf n) := by
    cases K2 with
    | nil =>
      have : A.next c = 0 := hnx
      have h0 : ¬ A.next c = n := by rw [this]; exact fun e => hasNe hn e.symm
      rw [if_neg h0]
      exact ⟨K1, [], by rw [hkC]; simp, rfl, rfl, .inl ⟨this, rfl⟩⟩
    | cons y K3 =>
      have hy : A.next c = y := hnx
      have hyk : y ∈ (A.get p).kids := hsub y (by simp)
      by_cases e : A.next c = n
      · rw [if_pos e]
        have eyn : y = n := hy.symm.trans e
        subst eyn
        have hyp := (kid_up hI hp hyk).2.2
        obtain ⟨L1, L2, e1, e2⟩ := next_split hI hn (by rw [hyp]; exact hasNe hp)
        rw [hyp, hk] at e1
        have e1' : (K1 ++ [c]) ++ y :: K3 = L1 ++ y :: L2 := by rw [← e1]; simp
        obtain ⟨-, rfl⟩ := split_unique (by rw [hk] at hnd; simpa using hnd) e1'
        have hyl : y ∈ A.nodesOf y := (hin y hyk).2 rfl
        refine ⟨K1 ++ [y], K3, by rw [hkC]; simp, by rw [List.filter_append]; simp [hyl], by rw [List.filter_cons, if_neg (by simp [hyl])], ?_⟩
        cases K3 with
        | nil => exact .inl ⟨e2, rfl⟩
        | cons z K4 =>
          have ez : A.next y = z := e2
          have hzk : z ∈ (A.get p).kids := hsub z (by simp)
          refine .inr ⟨K4, by rw [ez], by rw [ez]; exact hasNe (kid_up hI hp hzk).1, fun q => ?_⟩
          rw [ez] at q
          have := (hin z hzk).1 q
          subst this
          rw [hk] at hnd
          have h2 := (List.nodup_cons.1 (List.nodup_append.1 hnd).2.1).2
          simp at h2
      · rw [if_neg e]
        refine ⟨K1, y :: K3, by rw [hkC]; simp, rfl, rfl, .inr ⟨K3, by rw [hy], by rw [hy]; exact hasNe (kid_up hI hp hyk).1, fun q => ?_⟩⟩
        rw [hy] at q
        exact e (hy.trans ((hin y hyk).1 q))
  obtain ⟨M1, M2, m1, m2, m3, m4⟩ := hsplit
  obtain ⟨R1, R2, R3⟩ := puts_fold (d := ((A.cut c).get p).doc) (p := p) (c := if A.next c = n then A.next n else A.next c) (A.nodesOf n) hC (hasC p hp) hd1 hd2 (by rw [kC p hp]; exact r1) hl nnd m1 (fun x _ q => by simp at q) m4
  have hB : (A.cut c).insertAt p n (if A.next c = n then A.next n else A.next c) = (A.nodesOf n).foldl (putStep ((A.cut c).get p).doc p (if A.next c = n then A.next n else A.next c)) (A.cut c) := by unfold Ar.insertAt; rw [hnodes]
  refine ⟨hp, hn, hc, by rw [hB]; exact R1, by rw [hB]; exact (R3 p (hasC p hp)).1, by rw [hB]; exact (R3 c (hasC c hc)).1, ?_, ?_⟩
  · show (((A.cut c).insertAt p n _).get p).kids = _
    rw [hB]
    obtain ⟨-, e, he⟩ := R3 p (hasC p hp)
    rw [he]
    show (if p = p then _ else _) = _
    rw [if_pos rfl, m2, m3, hk, List.flatMap_append, List.flatMap_cons, if_pos rfl, ← filt_flat (l := A.nodesOf n) (fun k q => ⟨hno k (by simp [q]), hin k (hsub k (by simp [q]))⟩), ← filt_flat (l := A.nodesOf n) (fun k q => ⟨hno k (by simp [q]), hin k (hsub k (by simp [q]))⟩)]
    simp
  · by_cases e : n = c
    · exact .inl e
    · right
      show (((A.cut c).insertAt p n _).get c).parent = _
      rw [hB]
      obtain ⟨-, d, he⟩ := R3 c (hasC c hc)
      rw [he]
      show (if c ∈ A.nodesOf n then p else ((A.cut c).get c).parent) = 0
      rw [if_neg (fun q => e ((hin c hck).1 q).symm), cut_re hI hc hc]
      show (if c = c then (0 : Int) else _) = 0
      rw [if_pos rfl]

end Go.Proofs.YtpicinjcmjaogaaGreat
