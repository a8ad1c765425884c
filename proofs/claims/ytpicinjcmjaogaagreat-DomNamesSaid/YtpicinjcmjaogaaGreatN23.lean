/-
  Parts: DJ.
-/
import Derived.Test.YtpicinjcmjaogaaGreatN22

/- Layer 5 as plain data: what joining texts does, node by node. No program here. -/
namespace Go.Proofs.YtpicinjcmjaogaaGreat
set_option linter.unusedVariables false

/-- The children that stay, and what texts will say, behind a first text f (or 0) that will say d. -/
def jk (B : Ar) : Int → ByteArray → List Int → List Int × List (Int × ByteArray)
  | f, d, [] => ([], if f ≠ 0 then [(f, d)] else [])
  | f, d, k :: l =>
    if (B.get k).kind ≠ 5 then (k :: (jk B 0 ByteArray.empty l).1, (if f ≠ 0 then [(f, d)] else []) ++ (jk B 0 ByteArray.empty l).2)
    else if f = 0 ∧ (B.get k).data ≠ ByteArray.empty then (k :: (jk B k (B.get k).data l).1, (jk B k (B.get k).data l).2)
    else jk B f (d ++ (B.get k).data) l
theorem jk_congr {B B' : Ar} : ∀ {l : List Int} (f : Int) (d : ByteArray), (∀ k ∈ l, (B'.get k).kind = (B.get k).kind ∧ (B'.get k).data = (B.get k).data) → jk B' f d l = jk B f d l
  | [], _, _, _ => rfl
  | k :: l, f, d, h => by
    obtain ⟨h1, h2⟩ := h k (by simp)
    have h' : ∀ k' ∈ l, (B'.get k').kind = (B.get k').kind ∧ (B'.get k').data = (B.get k').data := fun k' hk => h k' (by simp [hk])
    unfold jk
    rw [h1, h2, jk_congr 0 ByteArray.empty h', jk_congr k (B.get k).data h', jk_congr f (d ++ (B.get k).data) h']
theorem jk_sub {B : Ar} : ∀ (l : List Int) (f : Int) (d : ByteArray), ∀ x ∈ (jk B f d l).1, x ∈ l
  | [], f, d, x, hx => by simp [jk] at hx
  | k :: l, f, d, x, hx => by
    unfold jk at hx
    split at hx
    · rcases List.mem_cons.1 hx with rfl | hx
      · simp
      · simp [jk_sub l _ _ x hx]
    · split at hx
      · rcases List.mem_cons.1 hx with rfl | hx
        · simp
        · simp [jk_sub l _ _ x hx]
      · simp [jk_sub l _ _ x hx]
theorem jk_keys {B : Ar} : ∀ (l : List Int) (f : Int) (d : ByteArray), ∀ p ∈ (jk B f d l).2, (p.1 = f ∧ f ≠ 0) ∨ (p.1 ∈ l ∧ (B.get p.1).kind = 5)
  | [], f, d, p, hp => by
    unfold jk at hp
    by_cases q : f = 0
    · simp [q] at hp
    · simp [q] at hp; subst hp; exact .inl ⟨rfl, q⟩
  | k :: l, f, d, p, hp => by
    unfold jk at hp
    by_cases q : (B.get k).kind = 5
    · rw [if_neg (fun e => e q)] at hp
      by_cases q2 : f = 0 ∧ (B.get k).data ≠ ByteArray.empty
      · rw [if_pos q2] at hp
        rcases jk_keys l _ _ p hp with ⟨e, _⟩ | ⟨e, e'⟩
        · exact .inr ⟨by rw [e]; simp, by rw [e]; exact q⟩
        · exact .inr ⟨by simp [e], e'⟩
      · rw [if_neg q2] at hp
        rcases jk_keys l _ _ p hp with e | ⟨e, e'⟩
        · exact .inl e
        · exact .inr ⟨by simp [e], e'⟩
    · rw [if_pos q] at hp
      rcases List.mem_append.1 hp with hp | hp
      · by_cases q2 : f = 0
        · simp [q2] at hp
        · simp [q2] at hp; subst hp; exact .inl ⟨rfl, q2⟩
      · rcases jk_keys l _ _ p hp with ⟨e, e'⟩ | ⟨e, e'⟩
        · exact absurd rfl e'
        · exact .inr ⟨by simp [e], e'⟩
theorem lookup_none' {x : Int} : ∀ {l : List (Int × ByteArray)}, (∀ p ∈ l, p.1 ≠ x) → l.lookup x = none
  | [], _ => rfl
  | p :: l, h => by
    rw [List.lookup_cons]
    have : (x == p.1) = false := by simp; exact fun e => h p (by simp) e.symm
    rw [this]
    exact lookup_none' (fun q hq => h q (by simp [hq]))

def Nd.re3 (n : Nd) (kids : List Int) (parent : Int) (data : ByteArray) : Nd := { n with kids := kids, parent := parent, data := data }
theorem re_re3 (n : Nd) (k k' : List Int) (p p' : Int) (d' : ByteArray) : (n.re k p).re3 k' p' d' = n.re3 k' p' d' := rfl
theorem re3_re3 (n : Nd) (k k' : List Int) (p p' : Int) (d d' : ByteArray) : (n.re3 k p d).re3 k' p' d' = n.re3 k' p' d' := rfl
theorem re3_congr {n : Nd} {k k' : List Int} {p p' : Int} {d d' : ByteArray} (h1 : k = k') (h2 : p = p') (h3 : d = d') : n.re3 k p d = n.re3 k' p' d' := by rw [h1, h2, h3]
theorem setData_get {A : Ar} {f : Int} {d : ByteArray} (hf : A.has f) (hk : (A.get f).kind = 5) {x : Int} (hx : A.has x) :
    (A.setData f d).2.get x = (A.get x).re3 (A.get x).kids (A.get x).parent (if x = f then d else (A.get x).data) := by
  unfold Ar.setData
  rw [if_neg (fun e => e hf), if_neg (fun e => e (.inl hk))]
  show (A.mod f _).get x = _
  rw [Ar.mod_get _ hf hx]
  by_cases e : x = f
  · subst e; rw [if_pos rfl, if_pos rfl]; rfl
  · rw [if_neg e, if_neg e]; rfl
theorem setData_n (A : Ar) (f : Int) (d : ByteArray) : (A.setData f d).2.n = A.n ∧ (A.setData f d).2.ns.length = A.ns.length ∧ (A.setData f d).2.inert = A.inert := by
  unfold Ar.setData
  split
  · exact ⟨rfl, rfl, rfl⟩
  · split
    · exact ⟨rfl, rfl, rfl⟩
    · exact ⟨Ar.mod_n _ _ _, by simp [Ar.mod], rfl⟩
theorem setData_has (A : Ar) (f : Int) (d : ByteArray) (x : Int) : (A.setData f d).2.has x ↔ A.has x := by unfold Ar.has; rw [(setData_n A f d).1]

/-- The arena of a state whose first text is written. -/
theorem flush_get {s : JoinS} (hf : s.first ≠ 0 → s.ar.has s.first ∧ (s.ar.get s.first).kind = 5) {x : Int} (hx : s.ar.has x) :
    s.flush.ar.get x = (s.ar.get x).re3 (s.ar.get x).kids (s.ar.get x).parent (((if s.first ≠ 0 then [(s.first, s.data)] else []).lookup x).getD (s.ar.get x).data) := by
  unfold JoinS.flush
  by_cases q : s.first = 0
  · rw [if_neg (fun e => e q), if_neg (fun e => e q)]; rfl
  · rw [if_pos q, if_pos q]
    rw [setData_get (hf q).1 (hf q).2 hx]
    by_cases e : x = s.first
    · subst e; simp
    · have : (x == s.first) = false := by simp [e]
      rw [if_neg e, List.lookup_cons, this]; rfl
theorem flush_n (s : JoinS) : s.flush.ar.n = s.ar.n ∧ s.flush.ar.ns.length = s.ar.ns.length ∧ s.flush.ar.inert = s.ar.inert := by
  unfold JoinS.flush
  dsimp only
  split
  · exact setData_n _ _ _
  · exact ⟨rfl, rfl, rfl⟩
theorem flush_inv {s : JoinS} (hI : s.ar.Inv) : s.flush.ar.Inv := by
  unfold JoinS.flush
  dsimp only
  split
  · exact hI.setData _ _
  · exact hI
theorem getD_lookup_append {x : Int} (a b : List (Int × ByteArray)) (d : ByteArray) : ((a ++ b).lookup x).getD d = (a.lookup x).getD ((b.lookup x).getD d) := by
  induction a with
  | nil => rfl
  | cons p a ih =>
    obtain ⟨p1, p2⟩ := p
    simp only [List.cons_append, List.lookup_cons]
    cases (x == p1)
    · exact ih
    · rfl

theorem join_fold {h : Int} : ∀ (l : List Int) (s : JoinS) (dn : List Int), s.ar.Inv → s.ar.has h → (s.ar.get h).kids = dn ++ l → (s.first ≠ 0 → s.first ∈ dn ∧ (s.ar.get s.first).kind = 5) → (s.first = 0 → s.data = ByteArray.empty) →
    (l.foldl JoinS.step s).flush.ar.Inv ∧ (l.foldl JoinS.step s).flush.ar.ns.length = s.ar.ns.length ∧ (l.foldl JoinS.step s).flush.ar.inert = s.ar.inert ∧
    ∀ x, s.ar.has x → (l.foldl JoinS.step s).flush.ar.get x = (s.ar.get x).re3 (if x = h then dn ++ (jk s.ar s.first s.data l).1 else (s.ar.get x).kids)
      (if x ∈ l ∧ (s.ar.get x).kind = 5 ∧ x ∉ (jk s.ar s.first s.data l).1 then 0 else (s.ar.get x).parent) (((jk s.ar s.first s.data l).2.lookup x).getD (s.ar.get x).data)
  | [], s, dn, hI, hh, hk, hf, h0 => by
    have hf' : s.first ≠ 0 → s.ar.has s.first ∧ (s.ar.get s.first).kind = 5 := fun q => ⟨(kid_up hI hh (by rw [hk]; simp [(hf q).1])).1, (hf q).2⟩
    refine ⟨flush_inv hI, (flush_n s).2.1, (flush_n s).2.2, fun x hx => ?_⟩
    show s.flush.ar.get x = _
    have e0 : (if x ∈ ([] : List Int) ∧ (s.ar.get x).kind = 5 ∧ x ∉ (jk s.ar s.first s.data []).1 then (0 : Int) else (s.ar.get x).parent) = (s.ar.get x).parent := if_neg (fun q => absurd q.1 List.not_mem_nil)
    rw [flush_get hf' hx, e0]
    simp only [jk, List.append_nil] at hk ⊢
    by_cases e : x = h
    · subst e; rw [if_pos rfl, hk]
    · rw [if_neg e]
  | k :: l, s, dn, hI, hh, hk, hf, h0 => by
    have hnd := hI.wf.nodup h hh
    rw [hk] at hnd
    obtain ⟨n1, n2, n3⟩ := List.nodup_append.1 hnd
    obtain ⟨n4, n5⟩ := List.nodup_cons.1 n2
    have hkd : k ∉ dn := fun q => n3 k q k (by simp) rfl
    obtain ⟨hk1, hk2, hk3⟩ := kid_up hI hh (k := k) (by rw [hk]; simp)
    have hkh : k ≠ h := fun e => by
      have h5 : (s.ar.get h).parent = h := by rw [e] at hk3; exact hk3
      obtain ⟨p, hp⟩ := hI.wf.way h hh
      cases p with
      | nil => exact has_zero s.ar (by have e0 : h = 0 := hp; rw [← e0]; exact hh)
      | cons y p =>
        have hp2 := hp.2.2
        have hup : upStep s.ar true h = h := by
          simp only [upStep, Ar.up, if_true]
          rw [if_pos (by rw [h5]; have := hh.1; omega), h5]
        rw [hup] at hp2
        have := congrArg List.length (way_unique hp2 hp)
        simp at this
    have hf' : s.first ≠ 0 → s.ar.has s.first ∧ (s.ar.get s.first).kind = 5 := fun q => ⟨(kid_up hI hh (by rw [hk]; simp [(hf q).1])).1, (hf q).2⟩
    have hfl : s.first ≠ 0 → s.first ≠ k ∧ s.first ∉ l := fun q => ⟨fun e => hkd (e ▸ (hf q).1), fun e => n3 _ (hf q).1 _ (by simp [e]) rfl⟩
    rw [List.foldl_cons]
    by_cases q5 : (s.ar.get k).kind = 5
    · by_cases q0 : s.first = 0 ∧ (s.ar.get k).data ≠ ByteArray.empty
      · have e : s.step k = ⟨s.ar, k, (s.ar.get k).data⟩ := by unfold JoinS.step; rw [if_neg (fun e => e q5), if_pos q0]
        have ej : jk s.ar s.first s.data (k :: l) = (k :: (jk s.ar k (s.ar.get k).data l).1, (jk s.ar k (s.ar.get k).data l).2) := by
          conv => lhs; unfold jk
          rw [if_neg (fun e => e q5), if_pos q0]
        rw [e, ej]
        have hk0 : k ≠ 0 := by have := hk1.1; omega
        obtain ⟨r1, r2, r3, r4⟩ := join_fold (h := h) l ⟨s.ar, k, (s.ar.get k).data⟩ (dn ++ [k]) hI hh (by rw [hk]; simp) (fun _ => ⟨by simp, q5⟩) (fun z => absurd z hk0)
        refine ⟨r1, r2, r3, fun x hx => ?_⟩
        rw [r4 x hx]
        dsimp only
        congr 1
        · by_cases e : x = h
          · rw [if_pos e, if_pos e]; simp
          · rw [if_neg e, if_neg e]
        · by_cases e : x = k
          · subst e; rw [if_neg (fun z => n4 z.1), if_neg (fun z => z.2.2 (by simp))]
          · simp only [List.mem_cons, e, false_or]
      · have e : s.step k = ⟨s.ar.cut k, s.first, s.data ++ (s.ar.get k).data⟩ := by unfold JoinS.step; rw [if_neg (fun e => e q5), if_neg q0]
        have ej : jk s.ar s.first s.data (k :: l) = jk s.ar s.first (s.data ++ (s.ar.get k).data) l := by
          conv => lhs; unfold jk
          rw [if_neg (fun e => e q5), if_neg q0]
        rw [e, ej]
        have hcg : ∀ x, s.ar.has x → (s.ar.cut k).get x = (s.ar.get x).re (if x = h then without (s.ar.get x).kids k else (s.ar.get x).kids) (if x = k then 0 else (s.ar.get x).parent) := fun x hx => by
          rw [Ar.cut_get hI hk1 hx, hk3]
        have hkc : ∀ x, s.ar.has x → ((s.ar.cut k).get x).kind = (s.ar.get x).kind ∧ ((s.ar.cut k).get x).data = (s.ar.get x).data := fun x hx => by rw [hcg x hx]; exact ⟨rfl, rfl⟩
        have hlh : ∀ x ∈ l, s.ar.has x := fun x hx => (kid_up hI hh (by rw [hk]; simp [hx])).1
        have hkids : ((s.ar.cut k).get h).kids = dn ++ l := by
          rw [hcg h hh, if_pos rfl]
          show without (s.ar.get h).kids k = _
          rw [hk]
          unfold without
          rw [List.filter_append, List.filter_cons]
          simp only [ne_eq, not_true_eq_false, decide_false, Bool.false_eq_true, if_false]
          rw [List.filter_eq_self.2 (fun y hy => by simp; rintro rfl; exact hkd hy), List.filter_eq_self.2 (fun y hy => by simp; rintro rfl; exact n4 hy)]
        have hd0 : s.first = 0 → s.data ++ (s.ar.get k).data = ByteArray.empty := fun z => by
          have : (s.ar.get k).data = ByteArray.empty := Classical.byContradiction fun y => q0 ⟨z, y⟩
          rw [h0 z, this]; rfl
        obtain ⟨r1, r2, r3, r4⟩ := join_fold (h := h) l ⟨s.ar.cut k, s.first, s.data ++ (s.ar.get k).data⟩ dn (Ar.InvX.cut hI hk1) ((Ar.cut_has _ _ _).2 hh) hkids
          (fun z => ⟨(hf z).1, by rw [(hkc _ (hf' z).1).1]; exact (hf' z).2⟩) hd0
        refine ⟨r1, r2.trans (Ar.cut_ns _ _), r3.trans (Ar.cut_inert _ _), fun x hx => ?_⟩
        rw [r4 x ((Ar.cut_has _ _ _).2 hx)]
        dsimp only
        rw [jk_congr s.first (s.data ++ (s.ar.get k).data) (fun y hy => hkc y (hlh y hy)), hcg x hx]
        have hks := jk_sub (B := s.ar) l s.first (s.data ++ (s.ar.get k).data)
        generalize jk s.ar s.first (s.data ++ (s.ar.get k).data) l = J at *
        rw [re_re3]
        refine re3_congr ?_ ?_ rfl
        · by_cases e : x = h
          · rw [if_pos e, if_pos e]
          · first | (simp only [if_neg e]; done) | (simp only [if_neg e]; rfl)
        · by_cases e : x = k
          · subst e
            have c2 : x ∈ x :: l ∧ (s.ar.get x).kind = 5 ∧ x ∉ J.1 := ⟨by simp, q5, fun z => n4 (hks _ z)⟩
            exact (if_neg (fun z => n4 z.1)).trans ((if_pos rfl).trans (if_pos c2).symm)
          · have e2 : (x ∈ k :: l) ↔ x ∈ l := by simp [e]
            have e3 : ((s.ar.get x).re (if x = h then without (s.ar.get x).kids k else (s.ar.get x).kids) (if x = k then 0 else (s.ar.get x).parent)).kind = (s.ar.get x).kind := rfl
            have e4 : ((s.ar.get x).re (if x = h then without (s.ar.get x).kids k else (s.ar.get x).kids) (if x = k then 0 else (s.ar.get x).parent)).parent = (s.ar.get x).parent := by
              show (if x = k then (0 : Int) else _) = _
              rw [if_neg e]
            rw [e3, e4]
            simp only [e2]
    · have e : s.step k = s.flush := by unfold JoinS.step; rw [if_pos q5]
      have ej : jk s.ar s.first s.data (k :: l) = (k :: (jk s.ar 0 ByteArray.empty l).1, (if s.first ≠ 0 then [(s.first, s.data)] else []) ++ (jk s.ar 0 ByteArray.empty l).2) := by
        conv => lhs; unfold jk
        rw [if_pos q5]
      rw [e, ej]
      have hkc : ∀ x, s.ar.has x → (s.flush.ar.get x).kind = (s.ar.get x).kind ∧ (s.flush.ar.get x).kids = (s.ar.get x).kids ∧ (s.flush.ar.get x).parent = (s.ar.get x).parent := fun x hx => by rw [flush_get hf' hx]; exact ⟨rfl, rfl, rfl⟩
      have hfh : ∀ x, s.flush.ar.has x ↔ s.ar.has x := fun x => by unfold Ar.has; rw [(flush_n s).1]
      have hlh : ∀ x ∈ l, s.ar.has x := fun x hx => (kid_up hI hh (by rw [hk]; simp [hx])).1
      have hnl : ∀ x ∈ l, ((if s.first ≠ 0 then [(s.first, s.data)] else []).lookup x) = none := fun x hx => by
        refine lookup_none' (fun p hp => ?_)
        by_cases z : s.first = 0
        · simp [z] at hp
        · simp [z] at hp; subst hp; exact fun e => (hfl z).2 (by have e' : s.first = x := e; rw [e']; exact hx)
      have hkd2 : ∀ x ∈ l, (s.flush.ar.get x).data = (s.ar.get x).data := fun x hx => by
        rw [flush_get hf' (hlh x hx), hnl x hx]; rfl
      obtain ⟨r1, r2, r3, r4⟩ := join_fold (h := h) l s.flush (dn ++ [k]) (flush_inv hI) ((hfh h).2 hh) (by rw [(hkc h hh).2.1, hk]; simp) (fun z => absurd rfl z) (fun _ => rfl)
      refine ⟨r1, r2.trans (flush_n s).2.1, r3.trans (flush_n s).2.2, fun x hx => ?_⟩
      rw [r4 x ((hfh x).2 hx)]
      have ejj : jk s.flush.ar s.flush.first s.flush.data l = jk s.ar 0 ByteArray.empty l := jk_congr 0 ByteArray.empty (fun y hy => ⟨(hkc y (hlh y hy)).1, hkd2 y hy⟩)
      rw [ejj]
      have hkeys := jk_keys (B := s.ar) l 0 ByteArray.empty
      have hks := jk_sub (B := s.ar) l 0 ByteArray.empty
      generalize jk s.ar 0 ByteArray.empty l = J at *
      rw [flush_get hf' hx]
      rw [re3_re3]
      refine re3_congr ?_ ?_ ?_
      · by_cases e : x = h
        · rw [if_pos e, if_pos e]; simp
        · rw [if_neg e, if_neg e]; rfl
      · by_cases e : x = k
        · subst e
          exact (if_neg (fun z => n4 z.1)).trans (Eq.trans rfl (if_neg (fun z => q5 z.2.1)).symm)
        · have e2 : (x ∈ k :: l) ↔ x ∈ l := by simp [e]
          have e5 : (x ∈ k :: J.1) ↔ x ∈ J.1 := by simp [e]
          show (if x ∈ l ∧ (s.ar.get x).kind = 5 ∧ x ∉ J.1 then (0 : Int) else (s.ar.get x).parent) = _
          simp only [e2, e5]
      · rw [getD_lookup_append]
        show (J.2.lookup x).getD (((if s.first ≠ 0 then [(s.first, s.data)] else []).lookup x).getD (s.ar.get x).data) = _
        by_cases e : x ∈ l
        · rw [hnl x e]; rfl
        · have : J.2.lookup x = none := lookup_none' (fun p hp => by
            rcases hkeys p hp with ⟨_, z⟩ | ⟨z, _⟩
            · exact absurd rfl z
            · exact fun y => e (y ▸ z))
          rw [this]; rfl

/-- Joining the texts among the children of a node, node by node. -/
theorem join_get {A : Ar} {h : Int} (hI : A.Inv) (hh : A.has h) :
    (A.join h).Inv ∧ (A.join h).ns.length = A.ns.length ∧ (A.join h).inert = A.inert ∧
    ∀ x, A.has x → (A.join h).get x = (A.get x).re3 (if x = h then (jk A 0 ByteArray.empty (A.get h).kids).1 else (A.get x).kids)
      (if x ∈ (A.get h).kids ∧ (A.get x).kind = 5 ∧ x ∉ (jk A 0 ByteArray.empty (A.get h).kids).1 then 0 else (A.get x).parent) (((jk A 0 ByteArray.empty (A.get h).kids).2.lookup x).getD (A.get x).data) := by
  have := join_fold (h := h) (A.get h).kids ⟨A, 0, ByteArray.empty⟩ [] hI hh rfl (fun z => absurd rfl z) (fun _ => rfl)
  simpa [Ar.join] using this
end Go.Proofs.YtpicinjcmjaogaaGreat
