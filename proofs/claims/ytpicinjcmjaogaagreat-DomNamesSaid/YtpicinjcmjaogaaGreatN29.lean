/-
  Parts: DS.
-/
import Derived.Test.YtpicinjcmjaogaaGreatN22
import Derived.Test.YtpicinjcmjaogaaGreatN28

/- Layer 5 as plain data: a deep copy is a tree of new nodes, numbered in preorder, that is alike. No program here. -/
namespace Go.Proofs.YtpicinjcmjaogaaGreat
set_option linter.unusedVariables false

/-- A node made by the way that has no part in a tree. -/
def Blank (n : Nd) : Prop := n.kids = [] ∧ n.contents = 0 ∧ n.kind = 1

structure Fresh1 (A B : Ar) (s : Nd) (d c : Int) : Prop where
  old : ∀ x, A.has x → B.has x ∧ B.get x = A.get x
  has : B.has c
  like : alikeP s (B.get c)
  kids : (B.get c).kids = []
  parent : (B.get c).parent = 0
  host : (B.get c).host = 0
  doc : (B.get c).doc = d

theorem get_inertOf_new {A : Ar} (hA : A.inert.length = A.ns.length + 1) {d x : Int} (hx : (A.inertOf d).2.has x) (hn : ¬ A.has x) : Blank ((A.inertOf d).2.get x) := by
  unfold Ar.inertOf at hx ⊢
  split at hx
  · exact absurd hx hn
  · rename_i q
    rw [if_neg q]
    have h1 : (A.document false).has x := hx
    rcases (Ar.add_has _ _ _).1 h1 with h | h
    · exact absurd h hn
    · show Blank ((A.document false).get x)
      rw [h, Ar.document, Ar.add_new]
      exact ⟨rfl, rfl, rfl⟩

theorem alone_new {A C : Ar} {d h : Int} (hA : A.Inv) (hC : C.Inv) (hd : A.has d) (hk : (A.get d).kind = 1) (hh : C.has h) (h1 : (C.get h).kind ≠ 1) :
    (A.alone d (C.get h)).1 = A.n + 1 ∧ Fresh1 A (A.alone d (C.get h)).2 (C.get h) d (A.n + 1) ∧
    (((C.get h).contents = 0 ∧ ((A.alone d (C.get h)).2.get (A.n + 1)).contents = 0 ∧ ∀ x, (A.alone d (C.get h)).2.has x → ¬ A.has x → x = A.n + 1 ∨ Blank ((A.alone d (C.get h)).2.get x)) ∨
     ((C.get h).contents ≠ 0 ∧ ∃ cc, ((A.alone d (C.get h)).2.get (A.n + 1)).contents = cc ∧ A.n + 1 < cc ∧ (A.alone d (C.get h)).2.has cc ∧ alikeP (C.get (C.get h).contents) ((A.alone d (C.get h)).2.get cc) ∧
        ((A.alone d (C.get h)).2.get cc).kids = [] ∧ ((A.alone d (C.get h)).2.get cc).contents = 0 ∧ ((A.alone d (C.get h)).2.get cc).kind = 2 ∧
        ∀ x, (A.alone d (C.get h)).2.has x → ¬ A.has x → x = A.n + 1 ∨ x = cc ∨ Blank ((A.alone d (C.get h)).2.get x))) := by
  have he := ofDoc_zero hd hk
  have hl := hC.loc h hh
  have mk : ∀ n : Nd, alikeP (C.get h) n → n.kids = [] → n.parent = 0 → n.host = 0 → n.contents = 0 → (C.get h).contents = 0 →
      (A.make d n).1.1 = A.n + 1 ∧ Fresh1 A (A.make d n).2 (C.get h) d (A.n + 1) ∧ ((C.get h).contents = 0 ∧ ((A.make d n).2.get (A.n + 1)).contents = 0 ∧ ∀ x, (A.make d n).2.has x → ¬ A.has x → x = A.n + 1 ∨ Blank ((A.make d n).2.get x)) := by
    intro n h1 h2 h3 h4 h5 h6
    rw [make_zero n he]
    have e : (A.add { n with doc := d }).get (A.n + 1) = { n with doc := d } := Ar.add_new _ _
    refine ⟨rfl, ⟨fun x hx => ⟨(Ar.add_has _ _ _).2 (.inl hx), Ar.add_old _ hx⟩, (Ar.add_has _ _ _).2 (.inr rfl), ?_, ?_, ?_, ?_, ?_⟩, h6, ?_, fun x hx hn => ?_⟩
    · rw [e]; exact h1
    · rw [e]; exact h2
    · rw [e]; exact h3
    · rw [e]; exact h4
    · rw [e]
    · rw [e]; exact h5
    · rcases (Ar.add_has _ _ _).1 hx with q | q
      · exact absurd q hn
      · exact .inl q
  by_cases h4 : (C.get h).kind = 4
  · have e : A.alone d (C.get h) = ((A.element d (C.get h).space (C.get h).name (C.get h).attrs).1.1, (A.element d (C.get h).space (C.get h).name (C.get h).attrs).2) := by
      unfold Ar.alone
      rw [if_neg h1, if_neg (by omega), if_neg (by omega), if_pos h4]
    have hps := hl.ps (by omega)
    have hda := hl.da (by omega) (by omega)
    have hqu := hl.qu h1
    have hal : alikeP (C.get h) (elemNd d (C.get h).space (C.get h).name (C.get h).attrs) := ⟨h4, rfl, rfl, hl.at2.symm, hda, hps.1, hps.2, hqu⟩
    have hiff : isTemplate (elemNd d (C.get h).space (C.get h).name (C.get h).attrs) ↔ isTemplate (C.get h) := ⟨fun q => ⟨h4, q.2⟩, fun q => ⟨rfl, q.2⟩⟩
    rw [e]
    generalize hnd : elemNd d (C.get h).space (C.get h).name (C.get h).attrs = nd at *
    have hnk : nd.kids = [] ∧ nd.parent = 0 ∧ nd.host = 0 ∧ nd.doc = d ∧ nd.contents = 0 := by subst hnd; exact ⟨rfl, rfl, rfl, rfl, rfl⟩
    have eg : (A.add nd).get (A.n + 1) = nd := Ar.add_new _ _
    by_cases ht : isTemplate (C.get h)
    · have hc : (C.get h).contents ≠ 0 := by
        have := (hC.cont h hh (by have := hh.1; omega) ht).1.1
        omega
      obtain ⟨c1, c2, c3⟩ := hC.cont h hh (by have := hh.1; omega) ht
      have hel := elem_templ (A := A) he ⟨hl.sp, hl.at1⟩ (by rw [hnd]; exact hiff.2 ht)
      rw [hnd] at hel
      rw [hel]
      have hwi : (A.add nd).inert.length = (A.add nd).ns.length + 1 := by simp [Ar.add, hA.wf.inert]
      have hnew : (A.add nd).has (A.n + 1) := (Ar.add_has _ _ _).2 (.inr rfl)
      have hi1 := Ar.inertOf_get (d := d) hnew
      have hin := fun x (hx : ((A.add nd).inertOf d).2.has x) (hn : ¬ (A.add nd).has x) => get_inertOf_new hwi (d := d) hx hn
      have hlen := (Ar.inertOf_len (A.add nd) d).1
      have hold := fun x (hx : (A.add nd).has x) => Ar.inertOf_get (d := d) hx
      generalize ((A.add nd).inertOf d).2 = A2 at *
      generalize ((A.add nd).inertOf d).1 = i2 at *
      have hnA2 : A.n + 1 ≤ A2.n := hi1.2.2
      have hnew2 : (A2.add (contNd (A.n + 1) i2)).has (A.n + 1) := (Ar.add_has _ _ _).2 (.inl hi1.2)
      have hg : ∀ x, (A2.add (contNd (A.n + 1) i2)).has x → ((A2.add (contNd (A.n + 1) i2)).mod (A.n + 1) (fun x => { x with contents := A2.n + 1 })).get x = if x = A.n + 1 then { nd with contents := A2.n + 1 } else (A2.add (contNd (A.n + 1) i2)).get x := fun x hx => by
        rw [Ar.mod_get _ hnew2 hx]
        by_cases q : x = A.n + 1
        · rw [if_pos q, if_pos q, Ar.add_old _ hi1.2, hi1.1, eg]
        · rw [if_neg q, if_neg q]
      have ec : ((A2.add (contNd (A.n + 1) i2)).mod (A.n + 1) (fun x => { x with contents := A2.n + 1 })).get (A.n + 1) = { nd with contents := A2.n + 1 } := by rw [hg _ hnew2, if_pos rfl]
      have hcc2 : (A2.add (contNd (A.n + 1) i2)).has (A2.n + 1) := (Ar.add_has _ _ _).2 (.inr rfl)
      have ecc : ((A2.add (contNd (A.n + 1) i2)).mod (A.n + 1) (fun x => { x with contents := A2.n + 1 })).get (A2.n + 1) = contNd (A.n + 1) i2 := by
        rw [hg _ hcc2, if_neg (by omega), Ar.add_new]
      have hlc := hC.loc _ c1
      refine ⟨rfl, ⟨fun x hx => ?_, (Ar.mod_has _ _ _ _).2 hnew2, ?_, ?_, ?_, ?_, ?_⟩, .inr ⟨hc, A2.n + 1, ?_, by omega, (Ar.mod_has _ _ _ _).2 hcc2, ?_, ?_, ?_, ?_, fun x hx hn => ?_⟩⟩
      · have a1 : (A.add nd).has x := (Ar.add_has _ _ _).2 (.inl hx)
        have a2 := hold x a1
        refine ⟨(Ar.mod_has _ _ _ _).2 ((Ar.add_has _ _ _).2 (.inl a2.2)), ?_⟩
        rw [hg x ((Ar.add_has _ _ _).2 (.inl a2.2)), if_neg (fun q => Ar.new_no A (by have q' : x = A.n + 1 := q; rw [← q']; exact hx)), Ar.add_old _ a2.2, a2.1, Ar.add_old _ hx]
      · rw [ec]; exact hal
      · rw [ec]; exact hnk.1
      · rw [ec]; exact hnk.2.1
      · rw [ec]; exact hnk.2.2.1
      · rw [ec]; exact hnk.2.2.2.1
      · rw [ec]
      · rw [ecc]
        exact ⟨c2, (hlc.el (by omega)).1, hlc.nm (by omega) (by omega), (hlc.el (by omega)).2, hlc.da (by omega) (by omega), (hlc.ps (by omega)).1, (hlc.ps (by omega)).2, hlc.qu (by omega)⟩
      · rw [ecc]; rfl
      · rw [ecc]; rfl
      · rw [ecc]; rfl
      · have hx2 : (A2.add (contNd (A.n + 1) i2)).has x := (Ar.mod_has _ _ _ _).1 hx
        by_cases q : x = A.n + 1
        · exact .inl q
        · right
          rw [hg x hx2, if_neg q]
          rcases (Ar.add_has _ _ _).1 hx2 with a | a
          · right
            rw [Ar.add_old _ a]
            refine hin x a (fun z => ?_)
            rcases (Ar.add_has _ _ _).1 z with z | z
            · exact hn z
            · exact q z
          · exact .inl a
    · have hc : (C.get h).contents = 0 := hC.nocont h hh (.inr ht)
      have hel := elem_plain (A := A) he ⟨hl.sp, hl.at1⟩ (by rw [hnd]; exact fun q => ht (hiff.1 q))
      rw [hnd] at hel
      rw [hel]
      refine ⟨rfl, ⟨fun x hx => ⟨(Ar.add_has _ _ _).2 (.inl hx), Ar.add_old _ hx⟩, (Ar.add_has _ _ _).2 (.inr rfl), ?_, ?_, ?_, ?_, ?_⟩, .inl ⟨hc, ?_, fun x hx hn => ?_⟩⟩
      · rw [eg]; exact hal
      · rw [eg]; exact hnk.1
      · rw [eg]; exact hnk.2.1
      · rw [eg]; exact hnk.2.2.1
      · rw [eg]; exact hnk.2.2.2.1
      · rw [eg]; exact hnk.2.2.2.2
      · rcases (Ar.add_has _ _ _).1 hx with q | q
        · exact absurd q hn
        · exact .inl q
  · have ht : ¬ isTemplate (C.get h) := fun q => h4 q.1
    have hc : (C.get h).contents = 0 := hC.nocont h hh (.inr ht)
    have hel := hl.el h4
    have hqu := hl.qu h1
    have : ∃ n : Nd, A.alone d (C.get h) = ((A.make d n).1.1, (A.make d n).2) ∧ alikeP (C.get h) n ∧ n.kids = [] ∧ n.parent = 0 ∧ n.host = 0 ∧ n.contents = 0 := by
      have k1 := hl.k1
      have k6 := hl.k6
      unfold Ar.alone
      rw [if_neg h1]
      by_cases a2 : (C.get h).kind = 2
      · rw [if_pos a2]
        exact ⟨_, rfl, ⟨a2, hel.1, hl.nm h4 (by omega), hel.2, hl.da (by omega) (by omega), (hl.ps (by omega)).1, (hl.ps (by omega)).2, hqu⟩, rfl, rfl, rfl, rfl⟩
      rw [if_neg a2]
      by_cases a3 : (C.get h).kind = 3
      · rw [if_pos a3]
        exact ⟨_, rfl, ⟨a3, hel.1, rfl, hel.2, hl.da (by omega) (by omega), rfl, rfl, hqu⟩, rfl, rfl, rfl, rfl⟩
      rw [if_neg a3, if_neg h4]
      by_cases a5 : (C.get h).kind = 5
      · rw [if_pos a5]
        exact ⟨_, rfl, ⟨a5, hel.1, hl.nm h4 (by omega), hel.2, rfl, (hl.ps (by omega)).1, (hl.ps (by omega)).2, hqu⟩, rfl, rfl, rfl, rfl⟩
      rw [if_neg a5, if_pos (by omega)]
      exact ⟨_, rfl, ⟨by show (C.get h).kind = 6; omega, hel.1, hl.nm h4 (by omega), hel.2, rfl, (hl.ps (by omega)).1, (hl.ps (by omega)).2, hqu⟩, rfl, rfl, rfl, rfl⟩
    obtain ⟨n, e, q1, q2, q3, q4, q5⟩ := this
    obtain ⟨r1, r2, r3⟩ := mk n q1 q2 q3 q4 q5 hc
    rw [e]
    exact ⟨r1, r2, .inl r3⟩

/-- The tree below y is the same in B'. -/
theorem walk_keep {B B' : Ar} (hB : B.Inv) (hB' : B'.Inv) : ∀ y, B.has y → (∀ z ∈ B.walk y, B'.has z ∧ (B'.get z).kids = (B.get z).kids ∧ (B'.get z).contents = (B.get z).contents) → B'.walk y = B.walk y := by
  refine walk_ind hB (fun y hy hc hk h => ?_)
  have hw := walk_eq hB hy
  obtain ⟨h1, h2, h3⟩ := h y (by rw [hw]; simp)
  rw [walk_eq hB' h1, hw, h2, h3]
  congr 1
  congr 1
  · by_cases q : (B.get y).contents = 0
    · rw [if_neg (fun e => e q), if_neg (fun e => e q)]
    · rw [if_pos q, if_pos q]
      exact hc q (fun z hz => h z (by rw [hw, if_pos q]; simp [hz]))
  · exact flatMap_congr' (fun k hkk => hk k hkk (fun z hz => h z (by rw [hw]; exact List.mem_cons.2 (.inr (List.mem_append.2 (.inr (List.mem_flatMap.2 ⟨k, hkk, hz⟩))))))
    )
theorem alk_keep {C B B' : Ar} (hB : B.Inv) {x y : Int} (q : AlkP C B x y) : (∀ z ∈ B.walk y, B'.has z ∧ (B'.get z).kids = (B.get z).kids ∧ (B'.get z).contents = (B.get z).contents ∧ (∀ n, alikeP n (B.get z) → alikeP n (B'.get z))) → AlkP C B' x y := by
  induction q with
  | @mk h k ha hb h1 h2 h3 h4 h5 ih4 ih5 =>
    intro hz
    have hw := walk_eq hB hb
    obtain ⟨z1, z2, z3, z4⟩ := hz k (by rw [hw]; simp)
    refine .mk ha z1 (z4 _ h1) (by rw [z2]; exact h2) (by rw [z3]; exact h3) (fun hc => ?_) (fun i x y hx hy => ?_)
    · rw [z3]
      have hc' : (B.get k).contents ≠ 0 := fun e => hc (h3.2 e)
      exact ih4 hc (fun z hzz => hz z (by rw [hw, if_pos hc']; simp [hzz]))
    · rw [z2] at hy
      exact ih5 i x y hx hy (fun z hzz => hz z (by rw [hw]; exact List.mem_cons.2 (.inr (List.mem_append.2 (.inr (List.mem_flatMap.2 ⟨y, List.mem_of_getElem? hy, hzz⟩))))))

/-- Putting a new root last. -/
theorem put_fresh {B : Ar} (hB : B.Inv) {c y : Int} (hc : B.has c) (hy : B.has y) (hk : (B.get c).kind = 1 ∨ (B.get c).kind = 2 ∨ (B.get c).kind = 4) (hy1 : (B.get y).kind ≠ 1 ∧ (B.get y).kind ≠ 2) (hyp : (B.get y).parent = 0) (hcy : c ∉ B.walk y) :
    (B.put c y 0).2.Inv ∧ ∀ x, B.has x → (B.put c y 0).2.has x ∧ (B.put c y 0).2.get x = (B.get x).re (if x = c then (B.get c).kids ++ [y] else (B.get x).kids) (if x = y then c else (B.get x).parent) := by
  have hct : B.contains y c = false := by rw [walk_contains hB]; exact decide_eq_false hcy
  have hne : c ≠ y := fun e => hcy (by rw [walk_eq hB hy, e]; simp)
  have hal : B.allowed c y 0 (B.contains y c) = 0 := by
    unfold Ar.allowed
    rw [if_neg (fun q => q.elim (fun q => q hc) (fun q => q.elim (fun q => q hy) (fun q => q.1 rfl))), if_neg (fun q => q hk), if_neg (fun q => q.elim hy1.1 (fun q => q.elim hy1.2 (fun q => by rw [hct] at q; exact absurd q (by decide)))), if_neg (fun q => q.1 rfl)]
  have e : (B.put c y 0).2 = B.place c y 0 := by unfold Ar.put; rw [if_neg (fun q => q hal)]
  refine ⟨Ar.Inv.put hB c y 0, fun x hx => ?_⟩
  rw [e]
  refine ⟨by unfold Ar.has; rw [Ar.place_n]; exact hx, ?_⟩
  rw [Ar.place_get hc hy hx hne, cut_root hyp]
  congr 1
  by_cases q : x = c
  · subst q
    rw [if_pos rfl, if_pos rfl]
    exact putIn_zero (fun z => has_zero B (kid_up hB hx z).1)
  · rw [if_neg q, if_neg q]

/-- What a copy is. -/
structure CopyR (C A B : Ar) (h d c : Int) : Prop where
  inv : B.Inv
  more : A.More B
  old : ∀ x, A.has x → B.has x ∧ B.get x = A.get x
  first : c = A.n + 1
  has : B.has c
  parent : (B.get c).parent = 0
  host : (B.get c).host = 0
  doc : (B.get c).doc = d
  alk : AlkP C B h c
  new : ∀ x, B.has x → ¬ A.has x → x ∈ B.walk c ∨ Blank (B.get x)
  inc : (B.walk c).Pairwise (· < ·)
  ge : ∀ x ∈ B.walk c, A.n < x

/-- What the copies of some nodes are, put below c. -/
structure CopiesR (C B B' : Ar) (ks : List Int) (c : Int) (K2 : List Int) : Prop where
  more : B.More B'
  old : ∀ x, B.has x → B'.has x ∧ B'.get x = (B.get x).re (if x = c then (B.get c).kids ++ K2 else (B.get x).kids) (B.get x).parent
  len : K2.length = ks.length
  alk : ∀ (i : Nat) (x y : Int), ks[i]? = some x → K2[i]? = some y → AlkP C B' x y
  new : ∀ x, B'.has x → ¬ B.has x → (∃ y ∈ K2, x ∈ B'.walk y) ∨ Blank (B'.get x)
  inc : (K2.flatMap B'.walk).Pairwise (· < ·)
  ge : ∀ x ∈ K2.flatMap B'.walk, B.n < x

theorem alikeP_re {n m : Nd} {k : List Int} {p : Int} (h : alikeP n m) : alikeP n (m.re k p) := h

theorem copies_fold {C : Ar} (hC : C.Inv) {rec : Ar → Int → Int × Ar} {d c : Int} : ∀ (ks : List Int) {B : Ar},
    (∀ (B : Ar) k, k ∈ ks → B.Inv → B.has d → (B.get d).kind = 1 → CopyR C B (rec B k).2 k d (rec B k).1) → (∀ k ∈ ks, (C.get k).kind ≠ 1 ∧ (C.get k).kind ≠ 2) →
    B.Inv → B.has d → (B.get d).kind = 1 → B.has c → (ks ≠ [] → (B.get c).kind = 1 ∨ (B.get c).kind = 2 ∨ (B.get c).kind = 4) → ∃ K2, CopiesR C B (ks.foldl (dupStep rec c) B) ks c K2
  | [], B, _, _, hB, _, _, hc, _ => ⟨[], Ar.More.refl hB, fun x hx => ⟨hx, by
      by_cases q : x = c
      · rw [if_pos q, List.append_nil, q]; rfl
      · rw [if_neg q]; rfl⟩, rfl, fun i x y hx => by simp at hx, fun x h1 h2 => absurd h1 h2, by simp, by simp⟩
  | k :: ks, B, hrec, hks, hB, hd, hk, hc, hck => by
    have R := hrec B k (by simp) hB hd hk
    rw [List.foldl_cons]
    have hckB := hck (by simp)
    generalize hB1 : (rec B k).2 = B1 at R
    generalize hy : (rec B k).1 = y at R
    have hst : dupStep rec c B k = (B1.put c y 0).2 := by unfold dupStep; rw [hB1, hy]
    have hkk : (B1.get y).kind = (C.get k).kind := by
      obtain ⟨_, _, a, _⟩ := R.alk.inv
      exact a.1.symm
    have hcy : c ∉ B1.walk y := fun q => by have := R.ge c q; have := hc.2; omega
    obtain ⟨p1, p2⟩ := put_fresh R.inv (c := c) (y := y) (R.old c hc).1 R.has (by rw [(R.old c hc).2]; exact hckB) (by rw [hkk]; exact hks k (by simp)) R.parent hcy
    have hm2 : B1.More (B1.put c y 0).2 := more_put R.inv c y 0
    have hn2 : (B1.put c y 0).2.n = B1.n := by unfold Ar.n; rw [(put_keeps B1 c y 0).2]
    rw [hst]
    generalize hB2 : (B1.put c y 0).2 = B2 at *
    have hcB2 : B2.has c := (p2 c (R.old c hc).1).1
    have m02 : B.More B2 := R.more.trans hm2
    have hkc2 : (B2.get c).kind = (B.get c).kind := m02.kind c hc
    obtain ⟨K2, S⟩ := copies_fold hC (rec := rec) (d := d) (c := c) ks (B := B2) (fun B' k' hk' => hrec B' k' (by simp [hk'])) (fun k' hk' => hks k' (by simp [hk'])) p1 (m02.has d hd) ((m02.kind d hd).trans hk) hcB2 (fun _ => by rw [hkc2]; exact hckB)
    generalize hB' : List.foldl (dupStep rec c) B2 ks = B' at S ⊢
    have hyB : ¬ B.has y := fun q => by have := R.first; have := q.2; omega
    have hyc : y ≠ c := fun e => hyB (e ▸ hc)
    -- the tree of y, in B1, in B2 and at the end
    have hz : ∀ z ∈ B1.walk y, B'.has z ∧ (B'.get z).kids = (B1.get z).kids ∧ (B'.get z).contents = (B1.get z).contents ∧ ∀ n, alikeP n (B1.get z) → alikeP n (B'.get z) := fun z hzz => by
      have hz1 : B1.has z := (walk_mem R.inv y R.has z).1 hzz |>.1
      have hzc : z ≠ c := fun e => hcy (e ▸ hzz)
      obtain ⟨a1, a2⟩ := p2 z hz1
      obtain ⟨b1, b2⟩ := S.old z a1
      rw [if_neg hzc] at a2 b2
      refine ⟨b1, ?_, ?_, fun n hn => ?_⟩
      · rw [b2]; show (B2.get z).kids = _; rw [a2]
      · rw [b2]; show (B2.get z).contents = _; rw [a2]
      · rw [b2]; apply alikeP_re; rw [a2]; exact alikeP_re hn
    have hwy : B'.walk y = B1.walk y := walk_keep R.inv S.more.inv y R.has (fun z hzz => ⟨(hz z hzz).1, (hz z hzz).2.1, (hz z hzz).2.2.1⟩)
    refine ⟨y :: K2, m02.trans S.more, fun x hx => ?_, by simp [S.len], fun i a b ha hb => ?_, fun x hx hn => ?_, ?_, ?_⟩
    · obtain ⟨a1, a2⟩ := R.old x hx
      obtain ⟨b1, b2⟩ := p2 x a1
      obtain ⟨c1, c2⟩ := S.old x b1
      refine ⟨c1, ?_⟩
      have hxy : x ≠ y := fun e => hyB (e ▸ hx)
      rw [c2]
      by_cases q : x = c
      · subst q
        rw [if_pos rfl, if_pos rfl]
        rw [b2, if_pos rfl, if_neg hxy, a2]
        have e9 : ∀ (n : Nd) (k k' : List Int), ((n.re (n.kids ++ k) n.parent).re ((n.re (n.kids ++ k) n.parent).kids ++ k') (n.re (n.kids ++ k) n.parent).parent) = n.re ((n.kids ++ k) ++ k') n.parent := fun _ _ _ => rfl
        rw [e9, List.append_assoc]; rfl
      · rw [if_neg q, if_neg q]
        rw [b2, if_neg q, if_neg hxy, a2]
    · cases i with
      | zero =>
        simp at ha hb
        subst ha hb
        exact alk_keep R.inv R.alk hz
      | succ i => exact S.alk i a b (by simpa using ha) (by simpa using hb)
    · by_cases q : B2.has x
      · have q1 : B1.has x := by unfold Ar.has at q ⊢; rw [hn2] at q; exact q
        rcases R.new x q1 hn with r | r
        · exact .inl ⟨y, by simp, by rw [hwy]; exact r⟩
        · have hxc : x ≠ c := fun e => hn (e ▸ hc)
          obtain ⟨b1, b2⟩ := p2 x q1
          obtain ⟨c1, c2⟩ := S.old x q
          right
          rw [c2, if_neg hxc]
          show (B2.get x).kids = [] ∧ (B2.get x).contents = 0 ∧ (B2.get x).kind = 1
          rw [b2, if_neg hxc]
          exact r
      · rcases S.new x hx q with ⟨z, z1, z2⟩ | r
        · exact .inl ⟨z, by simp [z1], z2⟩
        · exact .inr r
    · rw [List.flatMap_cons, hwy]
      refine List.pairwise_append.2 ⟨R.inc, S.inc, fun a ha b hb => ?_⟩
      have h1 := ((walk_mem R.inv y R.has a).1 ha).1.2
      have h2 := S.ge b hb
      omega
    · intro x hx
      rw [List.flatMap_cons, hwy] at hx
      rcases List.mem_append.1 hx with q | q
      · exact R.ge x q
      · have h2 := S.ge x q
        have h3 := R.first
        have h4 := R.has.2
        omega

/-- A deep copy of a node that is no document. -/
theorem copy_facts {C : Ar} (hC : C.Inv) : ∀ (m : Nat) {A : Ar} {d h : Int}, A.Inv → A.has d → (A.get d).kind = 1 → C.has h → (C.get h).kind ≠ 1 → (C.walk h).length ≤ m →
    CopyR C A (dupF C true m A d h).2 h d (dupF C true m A d h).1
  | 0, A, d, h, hA, hd, hk, hh, h1, hw => by have := walk_pos hC hh; omega
  | m + 1, A, d, h, hA, hd, hk, hh, h1, hw => by
    have hmore := (dupF_facts hC (m + 1) true hA hd hk hh h1 hw).1
    rw [dupF_eq, if_neg h1, if_pos rfl] at hmore ⊢
    obtain ⟨a1, -, a3⟩ := alone_facts hA hC hd hk hh h1
    obtain ⟨n1, n2, n3⟩ := alone_new hA hC hd hk hh h1
    have hwe := walk_eq hC hh
    have hkid : ∀ k ∈ (C.get h).kids, C.has k ∧ (C.get k).kind ≠ 1 ∧ (C.get k).kind ≠ 2 ∧ (C.walk k).length ≤ ((C.get h).kids.flatMap C.walk).length := fun k hkk => by
      obtain ⟨q1, q2, q3⟩ := kid_up hC hh hkk
      have := hC.par k q1 (by rw [q3]; have := hh.1; omega)
      refine ⟨q1, this.1, this.2, ?_⟩
      obtain ⟨s, t, e⟩ := List.append_of_mem hkk
      rw [e]; simp; omega
    have hwl : (C.walk h).length = 1 + ((if (C.get h).contents ≠ 0 then C.walk (C.get h).contents else []).length + ((C.get h).kids.flatMap C.walk).length) := by rw [hwe]; simp only [List.length_cons, List.length_append]; omega
    generalize hr : A.alone d (C.get h) = r at *
    have hdr := a1.has d hd
    have hkr := (a1.kind d hd).trans hk
    have hc1 : r.2.has (A.n + 1) := n2.has
    have hkc : (r.2.get (A.n + 1)).kind = (C.get h).kind := n2.like.1.symm
    have hkk : (C.get h).kids ≠ [] → (r.2.get (A.n + 1)).kind = 1 ∨ (r.2.get (A.n + 1)).kind = 2 ∨ (r.2.get (A.n + 1)).kind = 4 := fun q => by rw [hkc]; exact hC.kidk h hh q
    -- the contents, in A2
    have hmid : r.2.More (dupMid C true m r d h) ∧ (∀ x, r.2.has x → (∀ cc, cc ≠ 0 → cc = (r.2.get (A.n + 1)).contents → x ≠ cc) → (dupMid C true m r d h).has x ∧ (dupMid C true m r d h).get x = r.2.get x) ∧
        ((C.get h).contents = 0 ∧ (r.2.get (A.n + 1)).contents = 0 ∧ (∀ x, (dupMid C true m r d h).has x → ¬ A.has x → x = A.n + 1 ∨ Blank ((dupMid C true m r d h).get x)) ∨
         (C.get h).contents ≠ 0 ∧ ∃ cc, (r.2.get (A.n + 1)).contents = cc ∧ A.n + 1 < cc ∧ r.2.has cc ∧ (dupMid C true m r d h).has cc ∧ AlkP C (dupMid C true m r d h) (C.get h).contents cc ∧ ((dupMid C true m r d h).walk cc).Pairwise (· < ·) ∧ (∀ x ∈ (dupMid C true m r d h).walk cc, A.n + 1 < x) ∧
            (∀ x, (dupMid C true m r d h).has x → ¬ A.has x → x = A.n + 1 ∨ x ∈ (dupMid C true m r d h).walk cc ∨ Blank ((dupMid C true m r d h).get x))) := by
      rcases n3 with ⟨z1, z2, z3⟩ | ⟨z1, cc, z2, z3, z4, z5, z6, z7, z8, z9⟩
      · have e : dupMid C true m r d h = r.2 := by unfold dupMid; rw [if_neg (fun q => q.2.2 z1)]
        rw [e]
        exact ⟨Ar.More.refl a1.inv, fun x hx _ => ⟨hx, rfl⟩, .inl ⟨z1, z2, z3⟩⟩
      · have ht : isTemplate (C.get h) := Classical.byContradiction fun q => z1 (hC.nocont h hh (.inr q))
        obtain ⟨c1, c2, c3⟩ := hC.cont h hh (by have := hh.1; omega) ht
        have hia := a3 ht
        have hic := inertCall_at (ofDoc_zero hdr hkr) hia
        have e : dupMid C true m r d h = (C.get (C.get h).contents).kids.foldl (dupStep (fun B k => dupF C true m B (r.2.inertAt d) k) cc) r.2 := by
          unfold dupMid; rw [if_pos ⟨ht.1, rfl, z1⟩, hic, n1, z2]
        obtain ⟨i1, i2, i3, i4⟩ := a1.inv.inert d hia
        have hwc := walk_eq hC c1
        rw [if_pos z1, hwc] at hwl
        simp only [List.length_cons, List.length_append] at hwl
        have hckid : ∀ k ∈ (C.get (C.get h).contents).kids, C.has k ∧ (C.get k).kind ≠ 1 ∧ (C.get k).kind ≠ 2 ∧ (C.walk k).length ≤ ((C.get (C.get h).contents).kids.flatMap C.walk).length := fun k hkk => by
          obtain ⟨q1, q2, q3⟩ := kid_up hC c1 hkk
          have := hC.par k q1 (by rw [q3]; have := c1.1; omega)
          refine ⟨q1, this.1, this.2, ?_⟩
          obtain ⟨s, t, e⟩ := List.append_of_mem hkk
          rw [e]; simp; omega
        obtain ⟨K2, S⟩ := copies_fold hC (rec := fun B k => dupF C true m B (r.2.inertAt d) k) (d := r.2.inertAt d) (c := cc) (C.get (C.get h).contents).kids (B := r.2)
          (fun B k hkk hB hBd hBk => copy_facts hC m hB hBd hBk (hckid k hkk).1 (hckid k hkk).2.1 (by have := (hckid k hkk).2.2.2; omega)) (fun k hkk => ⟨(hckid k hkk).2.1, (hckid k hkk).2.2.1⟩) a1.inv i2 i3 z4 (fun _ => .inr (.inl z8))
        rw [← e] at S
        generalize dupMid C true m r d h = A2 at *
        obtain ⟨s1, s2⟩ := S.old cc z4
        rw [if_pos rfl, z6, List.nil_append] at s2
        have hkcc : (A2.get cc).kids = K2 := by rw [s2]
        have hccc : (A2.get cc).contents = 0 := by rw [s2]; exact z7
        have hwcc : A2.walk cc = cc :: K2.flatMap A2.walk := by
          rw [walk_eq S.more.inv s1, hkcc, if_neg (fun q => q hccc)]; rfl
        have hcont0 : (C.get (C.get h).contents).contents = 0 := hC.nocont _ c1 (.inr (fun q => by have := q.1; omega))
        refine ⟨S.more, fun x hx hne => ?_, .inr ⟨z1, cc, z2, z3, z4, s1, ?_, ?_, ?_, fun x hx hn => ?_⟩⟩
        · obtain ⟨t1, t2⟩ := S.old x hx
          have hxc : x ≠ cc := hne cc (by have := z4.1; omega) z2.symm
          rw [if_neg hxc] at t2
          exact ⟨t1, t2⟩
        · refine .mk c1 s1 (by rw [s2]; exact z5) (by rw [hkcc, S.len]) ⟨fun _ => hccc, fun _ => hcont0⟩ (fun q => absurd hcont0 q) (fun i x y hx hy => ?_)
          rw [hkcc] at hy
          exact S.alk i x y hx hy
        · rw [hwcc]
          refine List.pairwise_cons.2 ⟨fun x hx => ?_, S.inc⟩
          have := S.ge x hx
          have := z4.2
          omega
        · intro x hx
          rw [hwcc] at hx
          rcases List.mem_cons.1 hx with rfl | hx
          · exact z3
          · have := S.ge x hx
            have := z4.2
            omega
        · by_cases q : r.2.has x
          · rcases z9 x q hn with w | w | w
            · exact .inl w
            · right; left; rw [w, hwcc]; simp
            · by_cases hxc : x = cc
              · right; left; rw [hxc, hwcc]; simp
              · right; right
                obtain ⟨t1, t2⟩ := S.old x q
                rw [if_neg hxc] at t2
                rw [t2]; exact w
          · rcases S.new x hx q with ⟨y, y1, y2⟩ | w
            · right; left; rw [hwcc]; exact List.mem_cons.2 (.inr (List.mem_flatMap.2 ⟨y, y1, y2⟩))
            · exact .inr (.inr w)
    obtain ⟨m1, m2, m3⟩ := hmid
    generalize dupMid C true m r d h = A2 at *
    have hcne : ∀ cc, cc ≠ 0 → cc = (r.2.get (A.n + 1)).contents → A.n + 1 ≠ cc := fun cc h0 he q => by
      rcases m3 with ⟨z1, z2, -⟩ | ⟨z1, c', z2, z3, -⟩
      · rw [z2] at he; exact h0 he
      · rw [he, z2] at q; omega
    obtain ⟨q1, q2⟩ := m2 (A.n + 1) hc1 hcne
    have hkk2 : (C.get h).kids ≠ [] → (A2.get (A.n + 1)).kind = 1 ∨ (A2.get (A.n + 1)).kind = 2 ∨ (A2.get (A.n + 1)).kind = 4 := fun q => by rw [q2]; exact hkk q
    obtain ⟨K, S⟩ := copies_fold hC (rec := fun B k => dupF C true m B d k) (d := d) (c := A.n + 1) (C.get h).kids (B := A2)
      (fun B k hkk hB hBd hBk => copy_facts hC m hB hBd hBk (hkid k hkk).1 (hkid k hkk).2.1 (by have := (hkid k hkk).2.2.2; omega)) (fun k hkk => ⟨(hkid k hkk).2.1, (hkid k hkk).2.2.1⟩) m1.inv (m1.has d hdr) ((m1.kind d hdr).trans hkr) q1 hkk2
    rw [n1] at hmore ⊢
    dsimp only at hmore ⊢
    generalize hB' : (C.get h).kids.foldl (dupStep (fun B k => dupF C true m B d k) (A.n + 1)) A2 = B' at *
    obtain ⟨s1, s2⟩ := S.old (A.n + 1) q1
    rw [if_pos rfl, q2, n2.kids, List.nil_append] at s2
    have hkc' : (B'.get (A.n + 1)).kids = K := by rw [s2]
    have hcc' : (B'.get (A.n + 1)).contents = (r.2.get (A.n + 1)).contents := by rw [s2]
    have hwB := walk_eq S.more.inv s1
    rw [hkc', hcc'] at hwB
    -- the contents' tree stays
    have hcw : ∀ cc, A2.has cc → A.n + 1 ∉ A2.walk cc → (∀ z ∈ A2.walk cc, B'.has z ∧ (B'.get z).kids = (A2.get z).kids ∧ (B'.get z).contents = (A2.get z).contents ∧ ∀ n, alikeP n (A2.get z) → alikeP n (B'.get z)) := fun cc hcc hno z hz => by
      have hz1 := ((walk_mem m1.inv cc hcc z).1 hz).1
      obtain ⟨t1, t2⟩ := S.old z hz1
      rw [if_neg (fun e => hno (by have e' : z = A.n + 1 := e; rw [← e']; exact hz))] at t2
      exact ⟨t1, by rw [t2], by rw [t2], fun n hn => by rw [t2]; exact alikeP_re hn⟩
    have hold : ∀ x, A.has x → B'.has x ∧ B'.get x = A.get x := fun x hx => by
      obtain ⟨o1, o2⟩ := n2.old x hx
      obtain ⟨p1, p2⟩ := m2 x o1 (fun cc h0 he q => by
        rcases m3 with ⟨z1, z2, -⟩ | ⟨z1, c', z2, z3, -⟩
        · rw [z2] at he; exact h0 he
        · rw [he, z2] at q
          have := hx.2
          omega)
      obtain ⟨t1, t2⟩ := S.old x p1
      have hxc : x ≠ A.n + 1 := fun e => Ar.new_no A (e ▸ hx)
      rw [if_neg hxc] at t2
      exact ⟨t1, by rw [t2]; show (A2.get x) = _; rw [p2, o2]⟩
    refine ⟨S.more.inv, hmore, hold, rfl, s1, ?_, ?_, ?_, ?_, ?_, ?_, ?_⟩
    · rw [s2]; exact n2.parent
    · rw [s2]; exact n2.host
    · rw [s2]; exact n2.doc
    · rcases m3 with ⟨z1, z2, z3⟩ | ⟨z1, cc, z2, z3, z4, z5, z6, z7, z8, z9⟩
      · refine .mk hh s1 (by rw [s2]; exact n2.like) (by rw [hkc', S.len]) ⟨fun _ => by rw [hcc']; exact z2, fun _ => z1⟩ (fun q => absurd z1 q) (fun i x y hx hy => ?_)
        rw [hkc'] at hy
        exact S.alk i x y hx hy
      · refine .mk hh s1 (by rw [s2]; exact n2.like) (by rw [hkc', S.len]) ⟨fun q => absurd q z1, fun q => by rw [hcc', z2] at q; have := z4.1; omega⟩ (fun _ => ?_) (fun i x y hx hy => ?_)
        · rw [hcc', z2]
          exact alk_keep m1.inv z6 (hcw cc z5 (fun q => by have := z8 _ q; omega))
        · rw [hkc'] at hy
          exact S.alk i x y hx hy
    · intro x hx hn
      rcases m3 with ⟨z1, z2, z3⟩ | ⟨z1, cc, z2, z3, z4, z5, z6, z7, z8, z9⟩
      · by_cases q : A2.has x
        · rcases z3 x q hn with w | w
          · left; rw [hwB, w]; simp
          · by_cases hxc : x = A.n + 1
            · left; rw [hwB, hxc]; simp
            · right
              obtain ⟨t1, t2⟩ := S.old x q
              rw [if_neg hxc] at t2
              rw [t2]; exact w
        · rcases S.new x hx q with ⟨y, y1, y2⟩ | w
          · left; rw [hwB]; exact List.mem_cons.2 (.inr (List.mem_append.2 (.inr (List.mem_flatMap.2 ⟨y, y1, y2⟩))))
          · exact .inr w
      · have hcc0 : (r.2.get (A.n + 1)).contents ≠ 0 := by rw [z2]; have := z4.1; omega
        have hwc : B'.walk cc = A2.walk cc := walk_keep m1.inv S.more.inv cc z5 (fun z hz => by
          obtain ⟨t1, t2, t3, -⟩ := hcw cc z5 (fun q => by have := z8 _ q; omega) z hz
          exact ⟨t1, t2, t3⟩)
        rw [if_pos hcc0, z2, hwc] at hwB
        by_cases q : A2.has x
        · rcases z9 x q hn with w | w | w
          · left; rw [hwB, w]; simp
          · left; rw [hwB]; simp [w]
          · by_cases hxc : x = A.n + 1
            · left; rw [hwB, hxc]; simp
            · right
              obtain ⟨t1, t2⟩ := S.old x q
              rw [if_neg hxc] at t2
              rw [t2]; exact w
        · rcases S.new x hx q with ⟨y, y1, y2⟩ | w
          · left; rw [hwB]; exact List.mem_cons.2 (.inr (List.mem_append.2 (.inr (List.mem_flatMap.2 ⟨y, y1, y2⟩))))
          · exact .inr w
    · rcases m3 with ⟨z1, z2, z3⟩ | ⟨z1, cc, z2, z3, z4, z5, z6, z7, z8, z9⟩
      · rw [hwB, if_neg (fun q => q z2), List.nil_append]
        refine List.pairwise_cons.2 ⟨fun x hx => ?_, S.inc⟩
        have := S.ge x hx
        have := q1.2
        omega
      · have hcc0 : (r.2.get (A.n + 1)).contents ≠ 0 := by rw [z2]; have := z4.1; omega
        have hwc : B'.walk cc = A2.walk cc := walk_keep m1.inv S.more.inv cc z5 (fun z hz => by
          obtain ⟨t1, t2, t3, -⟩ := hcw cc z5 (fun q => by have := z8 _ q; omega) z hz
          exact ⟨t1, t2, t3⟩)
        rw [hwB, if_pos hcc0, z2, hwc]
        refine List.pairwise_cons.2 ⟨fun x hx => ?_, List.pairwise_append.2 ⟨z7, S.inc, fun a ha b hb => ?_⟩⟩
        · rcases List.mem_append.1 hx with w | w
          · exact z8 x w
          · have := S.ge x w
            have := q1.2
            omega
        · have h1 := ((walk_mem m1.inv cc z5 a).1 ha).1.2
          have h2 := S.ge b hb
          omega
    · intro x hx
      rw [hwB] at hx
      rcases List.mem_cons.1 hx with rfl | hx
      · omega
      · rcases List.mem_append.1 hx with w | w
        · rcases m3 with ⟨z1, z2, z3⟩ | ⟨z1, cc, z2, z3, z4, z5, z6, z7, z8, z9⟩
          · rw [if_neg (fun q => q z2)] at w; simp at w
          · have hcc0 : (r.2.get (A.n + 1)).contents ≠ 0 := by rw [z2]; have := z4.1; omega
            have hwc : B'.walk cc = A2.walk cc := walk_keep m1.inv S.more.inv cc z5 (fun z hz => by
              obtain ⟨t1, t2, t3, -⟩ := hcw cc z5 (fun q => by have := z8 _ q; omega) z hz
              exact ⟨t1, t2, t3⟩)
            rw [if_pos hcc0, z2, hwc] at w
            have := z8 x w
            omega
        · have := S.ge x w
          have := q1.2
          omega

end Go.Proofs.YtpicinjcmjaogaaGreat
