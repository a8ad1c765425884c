/-
  Parts: DP, DT, DU, DC.
-/
import Derived.Test.YtpicinjcmjaogaaGreatK20
import Derived.Test.YtpicinjcmjaogaaGreatK23

/- Layer 5 as plain data: joining texts, child by child, and how long the joined text may become. No program here. -/
namespace Go.Proofs.YtpicinjcmjaogaaGreat
set_option linter.unusedVariables false

def Ar.kidsTx (A : Ar) (h : Int) : Nat := ((A.get h).kids.map (fun y => tx (A.get y))).sum
theorem kidsTx_le {A : Ar} (hI : A.Inv) {h : Int} (hh : A.has h) : A.kidsTx h ≤ A.mass := by
  rw [mass_hs]
  exact sum_sub (hI.wf.nodup h hh) (fun x hx => hs_mem.2 (kid_up hI hh hx).1)

/-- Joining, up to a child. -/
structure JoinP (A : Ar) (K : List Int) (k : Nat) (s : JoinS) : Prop where
  inv : s.ar.Inv
  n : s.ar.n = A.n
  kind : ∀ y, A.has y → (s.ar.get y).kind = (A.get y).kind
  data : ∀ y ∈ K.drop k, (s.ar.get y).data = (A.get y).data
  size : s.data.size ≤ ((K.take k).map (fun y => tx (A.get y))).sum
  first : s.first ≠ 0 → s.first ∈ K.take k ∧ (A.get s.first).kind = 5
theorem JoinP.has {A : Ar} {K : List Int} {k : Nat} {s : JoinS} (h : JoinP A K k s) {x : Int} (hx : A.has x) : s.ar.has x := by unfold Ar.has; rw [h.n]; exact hx
theorem JoinP.flush {A : Ar} {K : List Int} {k : Nat} {s : JoinS} (h : JoinP A K k s) (hK : ∀ x ∈ K, A.has x) (hn : K.Nodup) : JoinP A K k s.flush := by
  have hf : s.first ≠ 0 → s.ar.has s.first ∧ (s.ar.get s.first).kind = 5 := fun q => by
    have := hK _ (List.mem_of_mem_take (h.first q).1)
    exact ⟨h.has this, (h.kind _ this).trans (h.first q).2⟩
  refine ⟨flush_inv h.inv, (flush_n s).1.trans h.n, fun y hy => ?_, fun y hy => ?_, ?_, fun q => absurd rfl q⟩
  · rw [flush_get hf (h.has hy)]; exact h.kind y hy
  · have hyK := List.mem_of_mem_drop hy
    rw [flush_get hf (h.has (hK y hyK))]
    show (List.lookup y _).getD (s.ar.get y).data = _
    have : (if s.first ≠ 0 then [(s.first, s.data)] else []).lookup y = none := lookup_none' (fun p hp => by
      by_cases z : s.first = 0
      · rw [if_neg (fun q => q z)] at hp; simp at hp
      · rw [if_pos z] at hp
        simp at hp; subst hp
        intro e
        have e' : s.first = y := e
        have h1 := (h.first z).1
        rw [← List.take_append_drop k K] at hn
        exact (List.nodup_append.1 hn).2.2 _ h1 _ hy e')
    rw [this]; exact h.data y hy
  · exact Nat.zero_le _
theorem sum_take {K : List Int} {k : Nat} {x : Int} {f : Int → Nat} (hx : K[k]? = some x) : ((K.take (k + 1)).map f).sum = ((K.take k).map f).sum + f x := by
  rw [List.take_add_one, hx]; simp
theorem JoinP.step {A : Ar} {K : List Int} {k : Nat} {s : JoinS} {x : Int} (h : JoinP A K k s) (hK : ∀ x ∈ K, A.has x) (hn : K.Nodup) (hx : K[k]? = some x) : JoinP A K (k + 1) (s.step x) := by
  have hk := (List.getElem?_eq_some_iff.1 hx).1
  have hxK := List.mem_of_getElem? hx
  have hxh := hK x hxK
  have hdrop : K.drop k = x :: K.drop (k + 1) := by rw [List.drop_eq_getElem_cons hk, (List.getElem?_eq_some_iff.1 hx).2]
  have hxd : (s.ar.get x).data = (A.get x).data := h.data x (by rw [hdrop]; simp)
  have hxk := h.kind x hxh
  have mono : ∀ y, y ∈ K.drop (k + 1) → y ∈ K.drop k := fun y hy => by rw [hdrop]; simp [hy]
  have memt : ∀ y, y ∈ K.take k → y ∈ K.take (k + 1) := fun y hy => by rw [List.take_add_one]; simp [hy]
  unfold JoinS.step
  by_cases h5 : (s.ar.get x).kind = 5
  · rw [if_neg (fun q => q h5)]
    have htx : tx (A.get x) = (A.get x).data.size := by unfold tx; rw [if_pos (hxk.symm.trans h5)]
    by_cases h0 : s.first = 0 ∧ (s.ar.get x).data ≠ ByteArray.empty
    · rw [if_pos h0]
      refine ⟨h.inv, h.n, h.kind, fun y hy => h.data y (mono y hy), ?_, fun _ => ⟨?_, hxk.symm.trans h5⟩⟩
      · dsimp only; rw [sum_take hx, hxd, htx]; omega
      · dsimp only; rw [List.take_add_one, hx]; simp
    · rw [if_neg h0]
      have hxs := h.has hxh
      have hg : ∀ y, A.has y → ((s.ar.cut x).get y).kind = (s.ar.get y).kind ∧ ((s.ar.cut x).get y).data = (s.ar.get y).data := fun y hy => by
        rw [Ar.cut_get h.inv hxs (h.has hy)]; exact ⟨rfl, rfl⟩
      refine ⟨Ar.InvX.cut h.inv hxs, (Ar.cut_n _ _).trans h.n, fun y hy => (hg y hy).1.trans (h.kind y hy), fun y hy => ?_, ?_, fun q => ⟨memt _ (h.first q).1, (h.first q).2⟩⟩
      · exact (hg y (hK y (List.mem_of_mem_drop hy))).2.trans (h.data y (mono y hy))
      · dsimp only
        rw [sum_take hx, hxd, htx, ByteArray.size_append]
        have := h.size; omega
  · rw [if_pos h5]
    have hf := h.flush hK hn
    refine ⟨hf.inv, hf.n, hf.kind, fun y hy => hf.data y (mono y hy), ?_, fun q => absurd rfl q⟩
    show ByteArray.empty.size ≤ _
    exact Nat.zero_le _
theorem join_at {A : Ar} {h : Int} (hI : A.Inv) (hh : A.has h) : ∀ k, k ≤ (A.get h).kids.length → JoinP A (A.get h).kids k (((A.get h).kids.take k).foldl JoinS.step ⟨A, 0, ByteArray.empty⟩)
  | 0, _ => ⟨hI, rfl, fun _ _ => rfl, fun _ _ => rfl, Nat.zero_le _, fun q => absurd rfl q⟩
  | k + 1, hk => by
    obtain ⟨x, hx⟩ : ∃ x, (A.get h).kids[k]? = some x := ⟨_, List.getElem?_eq_getElem (by omega)⟩
    have := (join_at hI hh k (by omega)).step (fun x hx => (kid_up hI hh hx).1) (hI.wf.nodup h hh) hx
    rw [List.take_add_one, hx, List.foldl_append]
    exact this

end Go.Proofs.YtpicinjcmjaogaaGreat

/- Layer 5 as plain data: joining at node after node: what is not yet joined is as it was. No program here. -/
namespace Go.Proofs.YtpicinjcmjaogaaGreat
set_option linter.unusedVariables false

theorem flatMap_sublist {α β : Type} {f g : α → List β} : ∀ {l : List α}, (∀ x ∈ l, (f x).Sublist (g x)) → (l.flatMap f).Sublist (l.flatMap g)
  | [], _ => by simp
  | a :: l, h => by
    rw [List.flatMap_cons, List.flatMap_cons]
    exact (h a (by simp)).append (flatMap_sublist (fun x hx => h x (by simp [hx])))
theorem below_sub {A : Ar} (hI : A.Inv) : ∀ h, A.has h → (h :: A.below h).Sublist (A.walk h) := by
  refine walk_ind hI (fun h hh _ hk => ?_)
  rw [below_eq hI hh, walk_eq hI hh]
  exact ((flatMap_sublist hk).trans (List.sublist_append_right _ _)).cons_cons _
theorem below_nodup {A : Ar} (hI : A.Inv) {h : Int} (hh : A.has h) : (h :: A.below h).Nodup := (below_sub hI h hh).nodup (walk_nodup hI h hh)

/-- Joining, at some of the nodes. -/
structure NormP (A : Ar) (dn : List Int) (B : Ar) : Prop where
  inv : B.Inv
  len : B.ns.length = A.ns.length
  kids : ∀ y, A.has y → y ∉ dn → (B.get y).kids = (A.get y).kids ∧ ∀ k ∈ (A.get y).kids, tx (B.get k) = tx (A.get k)
theorem NormP.has {A B : Ar} {dn : List Int} (h : NormP A dn B) {x : Int} (hx : A.has x) : B.has x := by have := h.len; unfold Ar.has Ar.n at *; omega
theorem NormP.has' {A B : Ar} {dn : List Int} (h : NormP A dn B) {x : Int} (hx : B.has x) : A.has x := by have := h.len; unfold Ar.has Ar.n at *; omega
theorem NormP.start {A : Ar} (hI : A.Inv) : NormP A [] A := ⟨hI, rfl, fun _ _ _ => ⟨rfl, fun _ _ => rfl⟩⟩
theorem NormP.tx {A B : Ar} {dn : List Int} (h : NormP A dn B) (hI : A.Inv) {x : Int} (hx : A.has x) (hn : x ∉ dn) : B.kidsTx x = A.kidsTx x := by
  obtain ⟨h1, h2⟩ := h.kids x hx hn
  unfold Ar.kidsTx
  rw [h1]
  exact congrArg List.sum (List.map_congr_left h2)
theorem NormP.step {A B : Ar} {dn : List Int} (h : NormP A dn B) (hI : A.Inv) {x : Int} (hx : A.has x) : NormP A (dn ++ [x]) (B.join x) := by
  have hxB := h.has hx
  obtain ⟨r1, r2, r3, r4⟩ := join_get h.inv hxB
  have hkeys := jk_keys (B := B) (B.get x).kids 0 ByteArray.empty
  generalize jk B 0 ByteArray.empty (B.get x).kids = J at *
  refine ⟨r1, r2.trans h.len, fun y hy hn => ?_⟩
  rw [List.mem_append, not_or] at hn
  obtain ⟨h1, h2⟩ := h.kids y hy hn.1
  have hyx : y ≠ x := fun e => hn.2 (by simp [e])
  have hyB := h.has hy
  refine ⟨?_, fun k hk => ?_⟩
  · rw [r4 y hyB]
    show (if y = x then _ else _) = _
    rw [if_neg hyx]; exact h1
  · obtain ⟨k1, k2, k3⟩ := kid_up hI hy hk
    have hkB : k ∈ (B.get y).kids := by rw [h1]; exact hk
    obtain ⟨b1, b2, b3⟩ := kid_up h.inv hyB hkB
    rw [← h2 k hk, r4 k b1]
    have : J.2.lookup k = none := lookup_none' (fun p hp => by
      rcases hkeys p hp with ⟨_, z⟩ | ⟨z, _⟩
      · exact absurd rfl z
      · intro e
        have := (kid_up h.inv hxB z).2.2
        rw [show p.1 = k from e, b3] at this
        exact hyx this)
    unfold Go.Proofs.YtpicinjcmjaogaaGreat.tx
    show (if (B.get k).kind = 5 then ((J.2.lookup k).getD (B.get k).data).size else 0) = _
    rw [this]; rfl

/-- Where a Normalize stands, and what it joins next. -/
theorem norm_at {A : Ar} {h : Int} (hI : A.Inv) (hh : A.has h) : ∀ k, k ≤ ((A.join h).below h).length → NormP A (h :: ((A.join h).below h).take k) ((((A.join h).below h).take k).foldl Ar.join (A.join h))
  | 0, _ => (NormP.start hI).step hI hh
  | k + 1, hk => by
    obtain ⟨x, hx⟩ : ∃ x, ((A.join h).below h)[k]? = some x := ⟨_, List.getElem?_eq_getElem (by omega)⟩
    have h0 : NormP A [h] (A.join h) := (NormP.start hI).step hI hh
    have hxA := h0.has' (below_mem h0.inv h (h0.has hh) x (List.mem_of_getElem? hx)).1
    have := (norm_at hI hh k (by omega)).step hI hxA
    rw [List.take_add_one, hx, List.foldl_append]
    exact this
theorem norm_x {A : Ar} {h : Int} (hI : A.Inv) (hh : A.has h) {k : Nat} {x : Int} (hx : ((A.join h).below h)[k]? = some x) : A.has x ∧ x ∉ h :: ((A.join h).below h).take k := by
  have h0 : NormP A [h] (A.join h) := (NormP.start hI).step hI hh
  refine ⟨h0.has' (below_mem h0.inv h (h0.has hh) x (List.mem_of_getElem? hx)).1, fun hm => ?_⟩
  have hn := below_nodup h0.inv (h0.has hh)
  rw [List.nodup_cons] at hn
  rcases List.mem_cons.1 hm with rfl | hm
  · exact hn.1 (List.mem_of_getElem? hx)
  · have hk := (List.getElem?_eq_some_iff.1 hx).1
    have h2 := hn.2
    rw [← List.take_append_drop k ((A.join h).below h), List.nodup_append] at h2
    refine h2.2.2 x hm x ?_ rfl
    rw [List.drop_eq_getElem_cons hk, (List.getElem?_eq_some_iff.1 hx).2]; simp

end Go.Proofs.YtpicinjcmjaogaaGreat

/- Layer 5 as plain data: how long the texts of a copy are. No program here. -/
namespace Go.Proofs.YtpicinjcmjaogaaGreat
set_option linter.unusedVariables false

theorem map_eq_of {a b : Int → Nat} : ∀ {l1 l2 : List Int}, l1.length = l2.length → (∀ (i : Nat) (x y : Int), l1[i]? = some x → l2[i]? = some y → a x = b y) → l1.map a = l2.map b
  | [], [], _, _ => rfl
  | x :: l1, y :: l2, hl, h => by
    rw [List.map_cons, List.map_cons, h 0 x y rfl rfl, map_eq_of (l1 := l1) (l2 := l2) (by simpa using hl) (fun i x y h1 h2 => h (i + 1) x y (by simpa using h1) (by simpa using h2))]
theorem sum_filter {f : Int → Nat} {p : Int → Bool} : ∀ {l : List Int}, (l.map f).sum = ((l.filter p).map f).sum + ((l.filter (fun x => !p x)).map f).sum
  | [] => rfl
  | x :: l => by
    have := sum_filter (f := f) (p := p) (l := l)
    cases hp : p x <;> simp [hp] <;> omega
theorem sum_zero {f : Int → Nat} : ∀ {l : List Int}, (∀ x ∈ l, f x = 0) → (l.map f).sum = 0
  | [], _ => rfl
  | x :: l, h => by rw [List.map_cons, List.sum_cons, h x (by simp), sum_zero (fun y hy => h y (by simp [hy]))]

/-- A sum over the nodes. -/
def tot (F : Ar → Int → Nat) (A : Ar) : Nat := (A.hs.map (F A)).sum

theorem walk_sum {F : Ar → Int → Nat} (hF : ∀ {C B : Ar} {x y : Int}, AlkP C B x y → F C x = F B y) {C B : Ar} (hC : C.Inv) (hB : B.Inv) : ∀ h, C.has h → ∀ k, AlkP C B h k → ((C.walk h).map (F C)).sum = ((B.walk k).map (F B)).sum := by
  refine walk_ind hC (fun h hh hc hk k q => ?_)
  have h0 := hF q
  obtain ⟨q1, q2, q3, q4, q5, q6, q7⟩ := q.inv
  rw [walk_eq hC hh, walk_eq hB q2]
  simp only [List.map_cons, List.sum_cons, List.map_append, List.sum_append, sum_flatMap]
  rw [h0]
  have e2 : (C.get h).kids.map (fun x => ((C.walk x).map (F C)).sum) = (B.get k).kids.map (fun x => ((B.walk x).map (F B)).sum) :=
    map_eq_of q4 (fun i x y hx hy => hk x (List.mem_of_getElem? hx) y (q7 i x y hx hy))
  rw [e2]
  by_cases hz : (C.get h).contents = 0
  · rw [if_neg (fun e => e hz), if_neg (fun e => e (q5.1 hz))]; simp
  · rw [if_pos hz, if_pos (fun e => hz (q5.2 e)), hc hz _ (q6 hz)]

theorem tot_split {F : Ar → Int → Nat} {A B : Ar} {W : List Int} (hold : ∀ x, A.has x → F B x = F A x) (hnew : ∀ x, B.has x → ¬ A.has x → x ∈ W ∨ F B x = 0) : tot F B ≤ tot F A + (W.map (F B)).sum := by
  have e1 := sum_filter (f := F B) (p := fun x => decide (A.has x)) (l := B.hs)
  have e2 := sum_filter (f := F B) (p := fun x => decide (x ∈ W)) (l := B.hs.filter (fun x => !decide (A.has x)))
  have h1 : ((B.hs.filter (fun x => decide (A.has x))).map (F B)).sum ≤ (A.hs.map (F B)).sum :=
    sum_sub ((hs_nodup B).filter _) (fun x hx => by have := (List.mem_filter.1 hx).2; exact hs_mem.2 (of_decide_eq_true this))
  have h2 : (A.hs.map (F B)).sum = tot F A := congrArg List.sum (List.map_congr_left (fun x hx => hold x (hs_mem.1 hx)))
  have h3 : (((B.hs.filter (fun x => !decide (A.has x))).filter (fun x => decide (x ∈ W))).map (F B)).sum ≤ (W.map (F B)).sum :=
    sum_sub (((hs_nodup B).filter _).filter _) (fun x hx => of_decide_eq_true (List.mem_filter.1 hx).2)
  have h4 : (((B.hs.filter (fun x => !decide (A.has x))).filter (fun x => !decide (x ∈ W))).map (F B)).sum = 0 := sum_zero (fun x hx => by
    obtain ⟨g1, g2⟩ := List.mem_filter.1 hx
    obtain ⟨g3, g4⟩ := List.mem_filter.1 g1
    rcases hnew x (hs_mem.1 g3) (by simpa using g4) with g | g
    · simp [g] at g2
    · exact g)
  unfold tot at h2 ⊢
  omega

/-- What counts of a node: its text; its text and what joining at it would add. -/
def fT (A : Ar) (x : Int) : Nat := tx (A.get x)
def fG (A : Ar) (x : Int) : Nat := tx (A.get x) + gainL A false (A.get x).kids
theorem tx_alike {n m : Nd} (h : alikeP n m) : tx n = tx m := by
  unfold tx; rw [h.1, h.2.2.2.2.1]
theorem gainL_alk {C B : Ar} : ∀ {l1 l2 : List Int} (b : Bool), l1.length = l2.length → (∀ (i : Nat) (x y : Int), l1[i]? = some x → l2[i]? = some y → alikeP (C.get x) (B.get y)) → gainL C b l1 = gainL B b l2
  | [], [], _, _, _ => rfl
  | x :: l1, y :: l2, b, hl, h => by
    have h0 := h 0 x y rfl rfl
    have ih := fun b => gainL_alk (C := C) (B := B) (l1 := l1) (l2 := l2) b (by simpa using hl) (fun i x y h1 h2 => h (i + 1) x y (by simpa using h1) (by simpa using h2))
    unfold gainL
    rw [h0.1, h0.2.2.2.2.1, ih, ih, ih]
theorem fT_alk {C B : Ar} {x y : Int} (q : AlkP C B x y) : fT C x = fT B y := tx_alike q.inv.2.2.1
theorem fG_alk {C B : Ar} {x y : Int} (q : AlkP C B x y) : fG C x = fG B y := by
  obtain ⟨q1, q2, q3, q4, q5, q6, q7⟩ := q.inv
  unfold fG
  rw [tx_alike q3, gainL_alk false q4 (fun i x y hx hy => (q7 i x y hx hy).inv.2.2.1)]
theorem fT_tot (A : Ar) : tot fT A = A.mass := (mass_hs A).symm
theorem fG_tot (A : Ar) : tot fG A = A.mass + A.gain := by
  rw [mass_hs]
  unfold tot fG Ar.gain
  generalize A.hs = l
  induction l with
  | nil => rfl
  | cons x l ih => simp only [List.map_cons, List.sum_cons] at ih ⊢; omega
theorem fT_blank {B : Ar} {x : Int} (h : Blank (B.get x)) : fT B x = 0 := by unfold fT tx; rw [if_neg (by rw [h.2.2]; decide)]
theorem fG_blank {B : Ar} {x : Int} (h : Blank (B.get x)) : fG B x = 0 := by unfold fG; rw [h.1]; have := fT_blank h; unfold fT at this; rw [this]; rfl
theorem fG_old {A B : Ar} (hA : A.Inv) (hold : ∀ x, A.has x → B.has x ∧ B.get x = A.get x) : ∀ x, A.has x → fG B x = fG A x := fun x hx => by
  unfold fG
  rw [(hold x hx).2]
  congr 1
  exact gainL_congr false (fun k hk => by rw [(hold k (kid_up hA hx hk).1).2]; exact ⟨rfl, rfl⟩)
theorem walk_tot {F : Ar → Int → Nat} {C : Ar} (hC : C.Inv) {h : Int} (hh : C.has h) : ((C.walk h).map (F C)).sum ≤ tot F C :=
  sum_sub (walk_nodup hC h hh) (fun x hx => hs_mem.2 ((walk_mem hC h hh x).1 hx).1)

theorem CopyR.mass {C A B : Ar} {h d c : Int} (q : CopyR C A B h d c) (hA : A.Inv) (hC : C.Inv) : B.mass ≤ A.mass + C.mass ∧ B.mass + B.gain ≤ (A.mass + A.gain) + (C.mass + C.gain) := by
  have hh := q.alk.inv.1
  constructor
  · rw [← fT_tot, ← fT_tot, ← fT_tot]
    refine Nat.le_trans (tot_split (A := A) (W := B.walk c) (fun x hx => by unfold fT; rw [(q.old x hx).2]) (fun x h1 h2 => (q.new x h1 h2).imp id fT_blank)) ?_
    rw [← walk_sum fT_alk hC q.inv h hh c q.alk]
    exact Nat.add_le_add_left (walk_tot hC hh) _
  · rw [← fG_tot, ← fG_tot, ← fG_tot]
    refine Nat.le_trans (tot_split (A := A) (W := B.walk c) (fG_old hA q.old) (fun x h1 h2 => (q.new x h1 h2).imp id fG_blank)) ?_
    rw [← walk_sum fG_alk hC q.inv h hh c q.alk]
    exact Nat.add_le_add_left (walk_tot hC hh) _

/-- A deep copy of a document. -/
theorem copy_doc {C A : Ar} (hC : C.Inv) (hA : A.Inv) {h d : Int} {m : Nat} (hh : C.has h) (h1 : (C.get h).kind = 1) (hw : (C.walk h).length ≤ m) :
    CopyR C A (dupF C true m A d h).2 h (((dupF C true m A d h).2.get (A.n + 1)).doc) (dupF C true m A d h).1 := by
  cases m with
  | zero => have := walk_pos hC hh; omega
  | succ m =>
    have hnt : ¬ isTemplate (C.get h) := fun q => by have := q.1; omega
    have hc : (C.get h).contents = 0 := hC.nocont h hh (.inr hnt)
    have hal : A.alone d (C.get h) = (A.n + 1, A.document (C.get h).quirks) := by unfold Ar.alone; rw [if_pos h1]
    have hmid : dupMid C true m (A.n + 1, A.document (C.get h).quirks) d h = A.document (C.get h).quirks := by unfold dupMid; rw [if_neg (fun q => q.2.2 hc)]
    have hI : (A.document (C.get h).quirks).Inv := Ar.InvX.document hA _
    have hwe := walk_eq hC hh
    rw [if_neg (fun q => q hc)] at hwe
    have hwl : (C.walk h).length = 1 + ((C.get h).kids.flatMap C.walk).length := by rw [hwe]; simp; omega
    rw [dupF_eq, if_pos h1, hal]
    dsimp only
    rw [hmid, if_pos rfl]
    have hnew : (A.document (C.get h).quirks).has (A.n + 1) := (Ar.add_has _ _ _).2 (.inr rfl)
    have hg : (A.document (C.get h).quirks).get (A.n + 1) = { zeroNd with kind := 1, quirks := (C.get h).quirks, doc := A.n + 1 } := by rw [Ar.document, Ar.add_new]
    have hnk : ((A.document (C.get h).quirks).get (A.n + 1)).kind = 1 := by rw [hg]
    have hold0 : ∀ x, A.has x → (A.document (C.get h).quirks).has x ∧ (A.document (C.get h).quirks).get x = A.get x := fun x hx => ⟨(Ar.add_has _ _ _).2 (.inl hx), Ar.add_old _ hx⟩
    obtain ⟨K2, R⟩ := copies_fold (C := C) hC (rec := fun B k => dupF C true m B (A.n + 1) k) (d := A.n + 1) (c := A.n + 1) (C.get h).kids (B := A.document (C.get h).quirks)
      (fun B k hkk hB hBd hBk => by
        obtain ⟨q1, q2, q3⟩ := kid_up hC hh hkk
        have hkw : (C.walk k).length ≤ ((C.get h).kids.flatMap C.walk).length := by
          obtain ⟨s, t, e⟩ := List.append_of_mem hkk
          rw [e]; simp; omega
        exact copy_facts hC m hB hBd hBk q1 (hC.par k q1 (by rw [q3]; have := hh.1; omega)).1 (by omega))
      (fun k hkk => by
        obtain ⟨q1, q2, q3⟩ := kid_up hC hh hkk
        exact hC.par k q1 (by rw [q3]; have := hh.1; omega)) hI hnew hnk hnew (fun _ => .inl hnk)
    generalize hB : (C.get h).kids.foldl (dupStep (fun B k => dupF C true m B (A.n + 1) k) (A.n + 1)) (A.document (C.get h).quirks) = B' at *
    have o1 := R.old (A.n + 1) hnew
    rw [if_pos rfl, hg] at o1
    have hk1 : (B'.get (A.n + 1)).kids = K2 := by rw [o1.2]; rfl
    have hc1 : (B'.get (A.n + 1)).contents = 0 := by rw [o1.2]; rfl
    have hl := hC.loc h hh
    have hwB := walk_eq R.more.inv o1.1
    rw [hk1, hc1, if_neg (fun q => q rfl), List.nil_append] at hwB
    have hnn : (A.document (C.get h).quirks).n = A.n + 1 := by unfold Ar.document Ar.add Ar.n; simp
    have hgo : ∀ x, A.has x → B'.has x ∧ B'.get x = A.get x := fun x hx => by
      have r := R.old x (hold0 x hx).1
      refine ⟨r.1, ?_⟩
      rw [r.2, if_neg (by have := hx.2; omega), (hold0 x hx).2]
    refine ⟨R.more.inv, (more_add hA hI).trans R.more, hgo, rfl, o1.1, by rw [o1.2]; rfl, by rw [o1.2]; rfl, rfl, ?_, fun x h1 h2 => ?_, ?_, fun x hx => ?_⟩
    · refine AlkP.mk hh o1.1 ?_ (by rw [hk1, R.len]) (by rw [hc, hc1]) (fun q => absurd hc q) (fun i x y hx hy => R.alk i x y hx (by rw [← hk1]; exact hy))
      rw [o1.2]
      exact ⟨h1, (hl.el (by omega)).1, hl.nm (by omega) (by omega), (hl.el (by omega)).2, hl.da (by omega) (by omega), (hl.ps (by omega)).1, (hl.ps (by omega)).2, rfl⟩
    · rw [hwB]
      by_cases q : (A.document (C.get h).quirks).has x
      · rcases (Ar.add_has _ _ _).1 q with q | q
        · exact absurd q h2
        · left; simp [q]
      · rcases R.new x h1 q with ⟨y, hy, hx⟩ | q
        · left; exact List.mem_cons.2 (.inr (List.mem_flatMap.2 ⟨y, hy, hx⟩))
        · exact .inr q
    · rw [hwB]
      refine List.pairwise_cons.2 ⟨fun x hx => ?_, R.inc⟩
      have := R.ge x hx
      omega
    · rw [hwB] at hx
      rcases List.mem_cons.1 hx with rfl | hx
      · omega
      · have := R.ge x hx
        omega

theorem fG_flat {B : Ar} {x : Int} (h : (B.get x).kids = []) : fG B x = tx (B.get x) := by unfold fG; rw [h]; rfl
/-- A copy that is not deep. -/
theorem flat_mass {C A : Ar} (hC : C.Inv) (hA : A.Inv) {h d : Int} {m : Nat} (hd : A.has d) (hk : (A.get d).kind = 1) (hh : C.has h) (hw : (C.walk h).length ≤ m) :
    (dupF C false m A d h).2.mass ≤ A.mass + C.mass ∧ (dupF C false m A d h).2.mass + (dupF C false m A d h).2.gain ≤ (A.mass + A.gain) + (C.mass + C.gain) := by
  cases m with
  | zero => have := walk_pos hC hh; omega
  | succ m =>
    have hmid : dupMid C false m (A.alone d (C.get h)) d h = (A.alone d (C.get h)).2 := by unfold dupMid; rw [if_neg (fun q => by simp at q)]
    rw [dupF_eq, hmid, if_neg (by decide)]
    dsimp only
    have hle : fT C h ≤ C.mass := by
      have := walk_tot (F := fT) hC hh
      rw [walk_eq hC hh, fT_tot] at this
      simp only [List.map_cons, List.sum_cons] at this
      omega
    -- the node and what came with it
    have key : ∀ (B : Ar) (W : List Int), (∀ x, A.has x → B.has x ∧ B.get x = A.get x) → (∀ x, B.has x → ¬ A.has x → x ∈ W ∨ Blank (B.get x)) → (W.map (fT B)).sum ≤ C.mass → (∀ x ∈ W, (B.get x).kids = []) →
        B.mass ≤ A.mass + C.mass ∧ B.mass + B.gain ≤ (A.mass + A.gain) + (C.mass + C.gain) := fun B W k1 k2 k3 k4 => by
      have e : (W.map (fG B)).sum = (W.map (fT B)).sum := congrArg List.sum (List.map_congr_left (fun x hx => fG_flat (k4 x hx)))
      have a1 := tot_split (F := fT) (A := A) (B := B) (W := W) (fun x hx => by unfold fT; rw [(k1 x hx).2]) (fun x h1 h2 => (k2 x h1 h2).imp id fT_blank)
      have a2 := tot_split (F := fG) (A := A) (B := B) (W := W) (fG_old hA k1) (fun x h1 h2 => (k2 x h1 h2).imp id fG_blank)
      rw [fT_tot, fT_tot] at a1
      rw [fG_tot, fG_tot] at a2
      omega
    by_cases h1 : (C.get h).kind = 1
    · have hal : A.alone d (C.get h) = (A.n + 1, A.document (C.get h).quirks) := by unfold Ar.alone; rw [if_pos h1]
      rw [hal]
      have hg : (A.document (C.get h).quirks).get (A.n + 1) = { zeroNd with kind := 1, quirks := (C.get h).quirks, doc := A.n + 1 } := by rw [Ar.document, Ar.add_new]
      refine key _ [] (fun x hx => ⟨(Ar.add_has _ _ _).2 (.inl hx), Ar.add_old _ hx⟩) (fun x g1 g2 => ?_) (Nat.zero_le _) (by simp)
      rcases (Ar.add_has _ _ _).1 g1 with q | q
      · exact absurd q g2
      · right; rw [q, hg]; exact ⟨rfl, rfl, rfl⟩
    · obtain ⟨n1, n2, n3⟩ := alone_new hA hC hd hk hh h1
      generalize (A.alone d (C.get h)).2 = B at *
      have e1 : fT B (A.n + 1) = fT C h := (tx_alike n2.like).symm
      rcases n3 with ⟨z1, z2, z3⟩ | ⟨z1, cc, z2, z3, z4, z5, z6, z7, z8, z9⟩
      · refine key B [A.n + 1] n2.old (fun x g1 g2 => (z3 x g1 g2).imp (fun q => by simp [q]) id) ?_ (fun x hx => ?_)
        · simp [e1]; exact hle
        · simp at hx; rw [hx]; exact n2.kids
      · refine key B [A.n + 1, cc] n2.old (fun x g1 g2 => ?_) ?_ (fun x hx => ?_)
        · rcases z9 x g1 g2 with q | q | q
          · left; simp [q]
          · left; simp [q]
          · exact .inr q
        · have e2 : fT B cc = 0 := by unfold fT tx; rw [if_neg (by rw [z8]; decide)]
          simp [e1, e2]; exact hle
        · simp at hx
          rcases hx with q | q
          · rw [q]; exact n2.kids
          · rw [q]; exact z6

/-- A copy, of any kind. -/
theorem dup_mass {C A : Ar} (hC : C.Inv) (hA : A.Inv) {h d : Int} {m : Nat} {deep : Bool} (hd : A.has d) (hk : (A.get d).kind = 1) (hh : C.has h) (hw : (C.walk h).length ≤ m) :
    (dupF C deep m A d h).2.mass ≤ A.mass + C.mass ∧ (dupF C deep m A d h).2.mass + (dupF C deep m A d h).2.gain ≤ (A.mass + A.gain) + (C.mass + C.gain) := by
  cases deep with
  | false => exact flat_mass hC hA hd hk hh hw
  | true =>
    by_cases h1 : (C.get h).kind = 1
    · exact (copy_doc (d := d) hC hA hh h1 hw).mass hA hC
    · exact (copy_facts hC m hA hd hk hh h1 hw).mass hA hC

end Go.Proofs.YtpicinjcmjaogaaGreat

/- Layer 5 as plain data: what a deep copy within the arena leaves. No program here. -/
namespace Go.Proofs.YtpicinjcmjaogaaGreat
set_option linter.unusedVariables false

theorem take_of_old {A B : Ar} (hle : A.ns.length ≤ B.ns.length) (h : ∀ x, A.has x → B.get x = A.get x) : B.ns.take A.ns.length = A.ns := by
  refine List.ext_getElem (by simp; omega) (fun i h1 h2 => ?_)
  have hx : A.has ((i : Int) + 1) := ⟨by omega, by unfold Ar.n; omega⟩
  have e := h _ hx
  unfold Ar.get at e
  rw [show ((i : Int) + 1).toNat - 1 = i by omega, List.getElem?_eq_getElem (by omega), List.getElem?_eq_getElem h2] at e
  rw [List.getElem_take]
  exact e
theorem len_of_has {A B : Ar} (h : ∀ x, A.has x → B.has x) : A.ns.length ≤ B.ns.length := by
  by_cases q : A.ns.length = 0
  · omega
  · have := (h A.n ⟨by unfold Ar.n; omega, Int.le_refl _⟩).2
    unfold Ar.n at this
    omega

/-- **A deep copy within the arena.** -/
theorem clone_law {A : Ar} (hI : A.Inv) {h : Int} (hh : A.has h) (hl : A.ns.length ≤ 100000) :
    (A.cloneCall h true).1 = (A.n + 1, 0) ∧ (A.cloneCall h true).2.Inv ∧ (A.cloneCall h true).2.has (A.n + 1) ∧ ((A.cloneCall h true).2.get (A.n + 1)).parent = 0 ∧ (A.cloneCall h true).2.ns.take A.ns.length = A.ns ∧
      AlkP (A.cloneCall h true).2 (A.cloneCall h true).2 h (A.n + 1) ∧ ((A.get h).kind ≠ 1 → ((A.cloneCall h true).2.get (A.n + 1)).doc = (A.get h).doc) ∧
      ((A.cloneCall h true).2.walk (A.n + 1)).Pairwise (· < ·) ∧ (∀ x ∈ (A.cloneCall h true).2.walk (A.n + 1), A.n < x) ∧ A.n + 1 ≤ (A.cloneCall h true).2.ns.length := by
  have hw : (A.walk h).length ≤ A.ns.length := walk_len hI h
  obtain ⟨d1, d2⟩ := hI.docK h hh
  have key : ∃ d, CopyR A A (A.cloneCall h true).2 h d (A.cloneCall h true).1.1 ∧ ((A.get h).kind ≠ 1 → d = (A.get h).doc) ∧ (A.cloneCall h true).1.2 = 0 := by
    unfold Ar.cloneCall
    rw [if_pos hh]
    by_cases q : (A.get h).kind = 1
    · exact ⟨_, copy_doc hI hI hh q hw, fun z => absurd q z, rfl⟩
    · exact ⟨_, copy_facts hI _ hI d1 d2 hh q hw, fun _ => rfl, rfl⟩
  obtain ⟨d, q, hd, he⟩ := key
  generalize hr : A.cloneCall h true = r at *
  obtain ⟨⟨c, e⟩, B⟩ := r
  dsimp only at q he ⊢
  have hc : c = A.n + 1 := q.first
  subst hc
  subst he
  have hle := len_of_has (fun x hx => (q.old x hx).1)
  refine ⟨rfl, q.inv, q.has, q.parent, take_of_old hle (fun x hx => (q.old x hx).2), ?_, fun z => by rw [q.doc]; exact hd z, q.inc, q.ge, by have := q.has.2; unfold Ar.n at this ⊢; omega⟩
  refine AlkP.symm (alk_keep hI q.alk.symm (fun z hz => ?_))
  obtain ⟨z1, z2⟩ := q.old z ((walk_mem hI h hh z).1 hz).1
  exact ⟨z1, by rw [z2], by rw [z2], fun n hn => by rw [z2]; exact hn⟩

end Go.Proofs.YtpicinjcmjaogaaGreat
