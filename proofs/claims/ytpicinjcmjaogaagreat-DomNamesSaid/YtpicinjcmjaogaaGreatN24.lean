/-
  Parts: DM.
-/
import Derived.Test.YtpicinjcmjaogaaGreatN23

/- Layer 5 as plain data: how long texts may become. No program here. -/
namespace Go.Proofs.YtpicinjcmjaogaaGreat
set_option linter.unusedVariables false

/-- The bytes of a text. -/
def tx (n : Nd) : Nat := if n.kind = 5 then n.data.size else 0
def Ar.mass (A : Ar) : Nat := (A.ns.map tx).sum
/-- What joining would add: all texts of a row but the first that is not empty. -/
def gainL (A : Ar) : Bool → List Int → Nat
  | _, [] => 0
  | b, k :: l => if (A.get k).kind ≠ 5 then gainL A false l else if b = true then (A.get k).data.size + gainL A true l else gainL A (decide ((A.get k).data.size ≠ 0)) l
def Ar.hs (A : Ar) : List Int := (List.range A.ns.length).map (fun i : Nat => (i : Int) + 1)
def Ar.gain (A : Ar) : Nat := (A.hs.map (fun x => gainL A false (A.get x).kids)).sum

theorem hs_mem {A : Ar} {x : Int} : x ∈ A.hs ↔ A.has x := by
  unfold Ar.hs Ar.has Ar.n
  rw [List.mem_map]
  constructor
  · rintro ⟨i, hi, rfl⟩
    have := List.mem_range.1 hi
    omega
  · rintro ⟨h1, h2⟩
    exact ⟨x.toNat - 1, List.mem_range.2 (by omega), by omega⟩
theorem hs_nodup (A : Ar) : A.hs.Nodup := by
  unfold Ar.hs
  rw [List.nodup_iff_pairwise_ne, List.pairwise_map]
  refine List.Pairwise.imp ?_ List.nodup_range
  intro a b hab e
  omega
theorem ns_hs {α : Type} (A : Ar) (f : Nd → α) : A.ns.map f = A.hs.map (fun x => f (A.get x)) := by
  unfold Ar.hs
  apply List.ext_getElem?
  intro i
  simp only [List.getElem?_map]
  by_cases hi : i < A.ns.length
  · rw [List.getElem?_range hi]
    have e : A.get ((i : Int) + 1) = A.ns[i] := by
      unfold Ar.get
      have : ((i : Int) + 1).toNat - 1 = i := by omega
      rw [this, List.getElem?_eq_getElem hi]; rfl
    simp only [Option.map_some, e, List.getElem?_eq_getElem hi]
  · rw [List.getElem?_eq_none (by omega), List.getElem?_eq_none (by simp; omega)]; rfl
theorem mass_hs (A : Ar) : A.mass = (A.hs.map (fun x => tx (A.get x))).sum := by unfold Ar.mass; rw [ns_hs]

theorem sum_sub {f : Int → Nat} : ∀ {l H : List Int}, l.Nodup → (∀ x ∈ l, x ∈ H) → (l.map f).sum ≤ (H.map f).sum
  | [], H, _, _ => by simp
  | x :: l, H, hn, hs => by
    obtain ⟨h1, h2⟩ := List.nodup_cons.1 hn
    have hp := (List.perm_cons_erase (hs x (by simp))).map f
    have e := hp.sum_nat
    have := sum_sub (f := f) (l := l) (H := H.erase x) h2 (fun y hy => (List.mem_erase_of_ne (by rintro rfl; exact h1 hy)).2 (hs y (by simp [hy])))
    rw [e]
    simp only [List.map_cons, List.sum_cons]
    omega
theorem sum_flatMap {f : Int → Nat} {g : Int → List Int} : ∀ {l : List Int}, ((l.flatMap g).map f).sum = (l.map (fun x => ((g x).map f).sum)).sum
  | [] => rfl
  | x :: l => by simp only [List.flatMap_cons, List.map_append, List.sum_append, List.map_cons, List.sum_cons, sum_flatMap (f := f) (g := g) (l := l)]
/-- Where two sums differ at one place only. -/
theorem sum_one {f g : Int → Nat} {H : List Int} {h : Int} (hh : h ∈ H) (hn : H.Nodup) (he : ∀ x ∈ H, x ≠ h → g x = f x) : (H.map g).sum + f h = (H.map f).sum + g h := by
  have hp := List.perm_cons_erase hh
  have e1 := (hp.map f).sum_nat
  have e2 := (hp.map g).sum_nat
  have e3 : (H.erase h).map g = (H.erase h).map f := List.map_congr_left (fun x hx => by
    obtain ⟨q1, q2⟩ := (List.Nodup.mem_erase_iff hn).1 hx
    exact he x q2 q1)
  rw [e1, e2]
  simp only [List.map_cons, List.sum_cons, e3]
  omega

theorem gainL_congr {A B : Ar} : ∀ {l : List Int} (b : Bool), (∀ k ∈ l, (B.get k).kind = (A.get k).kind ∧ (B.get k).data = (A.get k).data) → gainL B b l = gainL A b l
  | [], _, _ => rfl
  | k :: l, b, h => by
    obtain ⟨h1, h2⟩ := h k (by simp)
    have h' : ∀ k' ∈ l, (B.get k').kind = (A.get k').kind ∧ (B.get k').data = (A.get k').data := fun k' hk => h k' (by simp [hk])
    unfold gainL
    rw [h1, h2, gainL_congr false h', gainL_congr true h', gainL_congr _ h']
theorem sum_modify {f : Nd → Nd} {c : Nat} (hf : ∀ n, tx (f n) ≤ tx n + c) : ∀ (l : List Nd) (i : Nat), ((l.modify i f).map tx).sum ≤ (l.map tx).sum + c
  | [], i => by simp
  | n :: l, 0 => by have := hf n; simp; omega
  | n :: l, i + 1 => by have := sum_modify hf l i; simp; omega
theorem mass_mod (A : Ar) (x : Int) {f : Nd → Nd} (c : Nat) (hf : ∀ n, tx (f n) ≤ tx n + c) : (A.mod x f).mass ≤ A.mass + c := sum_modify hf _ _
theorem mass_mod0 (A : Ar) (x : Int) {f : Nd → Nd} (hf : ∀ n, tx (f n) = tx n) : (A.mod x f).mass ≤ A.mass := mass_mod A x 0 (fun n => Nat.le_of_eq (hf n))
theorem mass_cut (A : Ar) (x : Int) : (A.cut x).mass ≤ A.mass := by
  unfold Ar.cut
  split
  · exact Nat.le_refl _
  · exact Nat.le_trans (mass_mod0 _ _ (fun _ => rfl)) (mass_mod0 _ _ (fun _ => rfl))
theorem sum_modify_at {f : Nd → Nd} : ∀ (l : List Nd) (i : Nat) (n : Nd), l[i]? = some n → ((l.modify i f).map tx).sum + tx n = (l.map tx).sum + tx (f n)
  | [], i, n, h => by simp at h
  | m :: l, 0, n, h => by simp at h; subst h; simp; omega
  | m :: l, i + 1, n, h => by have := sum_modify_at (f := f) l i n (by simpa using h); simp; omega
theorem mass_setText {A : Ar} {x : Int} (s : ByteArray) (hx : A.has x) (hk : (A.get x).kind = 5) : (A.setData x s).2.mass + (A.get x).data.size = A.mass + s.size := by
  unfold Ar.setData
  rw [if_neg (fun e => e hx), if_neg (fun e => e (.inl hk))]
  have h1 : A.ns[x.toNat - 1]? = some (A.get x) := by
    obtain ⟨hi, e⟩ := Ar.get_of hx
    rw [e]; exact List.getElem?_eq_getElem hi
  have := sum_modify_at (f := fun n => { n with data := s }) A.ns (x.toNat - 1) _ h1
  have e1 : tx (A.get x) = (A.get x).data.size := by unfold tx; rw [if_pos hk]
  have e2 : tx { (A.get x) with data := s } = s.size := by unfold tx; rw [if_pos hk]
  rw [e1, e2] at this
  exact this
theorem size_zero {s : ByteArray} : s.size = 0 ↔ s = ByteArray.empty :=
  ⟨fun h => ByteArray.ext (Array.eq_empty_of_size_eq_zero h), fun h => by rw [h]; rfl⟩

theorem join_mass {h : Int} : ∀ (l : List Int) (s : JoinS) (dn : List Int), s.ar.Inv → s.ar.has h → (s.ar.get h).kids = dn ++ l → (s.first ≠ 0 → s.first ∈ dn ∧ (s.ar.get s.first).kind = 5) → (s.first = 0 → s.data = ByteArray.empty) →
    (l.foldl JoinS.step s).flush.ar.mass + (if s.first ≠ 0 then (s.ar.get s.first).data.size else 0) ≤ s.ar.mass + s.data.size + gainL s.ar (decide (s.first ≠ 0)) l
  | [], s, dn, hI, hh, hk, hf, h0 => by
    show s.flush.ar.mass + _ ≤ _
    unfold JoinS.flush
    dsimp only
    by_cases q : s.first = 0
    · rw [if_neg (fun e => e q), if_neg (fun e => e q)]; omega
    · rw [if_pos q, if_pos q]
      have := mass_setText s.data (kid_up hI hh (by rw [hk]; simp [(hf q).1])).1 (hf q).2
      omega
  | k :: l, s, dn, hI, hh, hk, hf, h0 => by
    have hnd := hI.wf.nodup h hh
    rw [hk] at hnd
    obtain ⟨n1, n2, n3⟩ := List.nodup_append.1 hnd
    obtain ⟨n4, n5⟩ := List.nodup_cons.1 n2
    have hkd : k ∉ dn := fun q => n3 k q k (by simp) rfl
    obtain ⟨hk1, hk2, hk3⟩ := kid_up hI hh (k := k) (by rw [hk]; simp)
    have hf' : s.first ≠ 0 → s.ar.has s.first ∧ (s.ar.get s.first).kind = 5 := fun q => ⟨(kid_up hI hh (by rw [hk]; simp [(hf q).1])).1, (hf q).2⟩
    have hfl : s.first ≠ 0 → s.first ≠ k ∧ s.first ∉ l := fun q => ⟨fun e => hkd (e ▸ (hf q).1), fun e => n3 _ (hf q).1 _ (by simp [e]) rfl⟩
    have hlh : ∀ x ∈ l, s.ar.has x := fun x hx => (kid_up hI hh (by rw [hk]; simp [hx])).1
    rw [List.foldl_cons]
    by_cases q5 : (s.ar.get k).kind = 5
    · by_cases q0 : s.first = 0 ∧ (s.ar.get k).data ≠ ByteArray.empty
      · have e : s.step k = ⟨s.ar, k, (s.ar.get k).data⟩ := by unfold JoinS.step; rw [if_neg (fun e => e q5), if_pos q0]
        rw [e]
        have hk0 : k ≠ 0 := by have := hk1.1; omega
        have hsz : (s.ar.get k).data.size ≠ 0 := fun z => q0.2 (size_zero.1 z)
        have ih := join_mass (h := h) l ⟨s.ar, k, (s.ar.get k).data⟩ (dn ++ [k]) hI hh (by rw [hk]; simp) (fun _ => ⟨by simp, q5⟩) (fun z => absurd z hk0)
        dsimp only at ih
        rw [if_pos hk0, decide_eq_true hk0] at ih
        rw [if_neg (fun z => z q0.1), h0 q0.1]
        have eg : gainL s.ar (decide (s.first ≠ 0)) (k :: l) = gainL s.ar true l := by
          rw [decide_eq_false (fun z => z q0.1)]
          conv => lhs; unfold gainL
          rw [if_neg (fun e => e q5), if_neg (by simp), decide_eq_true hsz]
        rw [eg]
        have : ByteArray.empty.size = 0 := rfl
        omega
      · have e : s.step k = ⟨s.ar.cut k, s.first, s.data ++ (s.ar.get k).data⟩ := by unfold JoinS.step; rw [if_neg (fun e => e q5), if_neg q0]
        rw [e]
        have hcg : ∀ x, s.ar.has x → (s.ar.cut k).get x = (s.ar.get x).re (if x = h then without (s.ar.get x).kids k else (s.ar.get x).kids) (if x = k then 0 else (s.ar.get x).parent) := fun x hx => by
          rw [Ar.cut_get hI hk1 hx, hk3]
        have hkc : ∀ x, s.ar.has x → ((s.ar.cut k).get x).kind = (s.ar.get x).kind ∧ ((s.ar.cut k).get x).data = (s.ar.get x).data := fun x hx => by rw [hcg x hx]; exact ⟨rfl, rfl⟩
        have hkids : ((s.ar.cut k).get h).kids = dn ++ l := by
          rw [hcg h hh, if_pos rfl]
          show without (s.ar.get h).kids k = _
          rw [hk]
          unfold without
          rw [List.filter_append, List.filter_cons]
          simp only [ne_eq, not_true_eq_false, decide_false, Bool.false_eq_true, if_false]
          rw [List.filter_eq_self.2 (fun y hy => by simp; rintro rfl; exact hkd hy), List.filter_eq_self.2 (fun y hy => by simp; rintro rfl; exact n4 hy)]
        have hd0 : s.first = 0 → s.data ++ (s.ar.get k).data = ByteArray.empty := fun z => by
          have : (s.ar.get k).data = ByteArray.empty := Classical.byContradiction fun y => q0 ⟨z, y⟩
          rw [h0 z, this]; rfl
        have ih := join_mass (h := h) l ⟨s.ar.cut k, s.first, s.data ++ (s.ar.get k).data⟩ dn (Ar.InvX.cut hI hk1) ((Ar.cut_has _ _ _).2 hh) hkids
          (fun z => ⟨(hf z).1, by rw [(hkc _ (hf' z).1).1]; exact (hf' z).2⟩) hd0
        dsimp only at ih
        have hm := mass_cut s.ar k
        rw [gainL_congr _ (fun y hy => hkc y (hlh y hy)), ByteArray.size_append] at ih
        by_cases z : s.first = 0
        · have hz : (s.ar.get k).data = ByteArray.empty := Classical.byContradiction fun y => q0 ⟨z, y⟩
          have hz2 : (s.ar.get k).data.size = 0 := size_zero.2 hz
          rw [if_neg (fun e => e z), decide_eq_false (fun e => e z)] at ih
          rw [if_neg (fun e => e z), decide_eq_false (fun e => e z)]
          have eg : gainL s.ar false (k :: l) = gainL s.ar false l := by
            conv => lhs; unfold gainL
            rw [if_neg (fun e => e q5), if_neg (by simp), decide_eq_false (fun e => e hz2)]
          rw [eg]
          omega
        · rw [if_pos z, decide_eq_true z, (hkc _ (hf' z).1).2] at ih
          rw [if_pos z, decide_eq_true z]
          have eg : gainL s.ar true (k :: l) = (s.ar.get k).data.size + gainL s.ar true l := by
            conv => lhs; unfold gainL
            rw [if_neg (fun e => e q5), if_pos rfl]
          rw [eg]
          omega
    · have e : s.step k = s.flush := by unfold JoinS.step; rw [if_pos q5]
      rw [e]
      have hkc : ∀ x, s.ar.has x → (s.flush.ar.get x).kind = (s.ar.get x).kind ∧ (s.flush.ar.get x).kids = (s.ar.get x).kids ∧ (s.flush.ar.get x).parent = (s.ar.get x).parent := fun x hx => by rw [flush_get hf' hx]; exact ⟨rfl, rfl, rfl⟩
      have hfh : ∀ x, s.flush.ar.has x ↔ s.ar.has x := fun x => by unfold Ar.has; rw [(flush_n s).1]
      have hnl : ∀ x ∈ l, ((if s.first ≠ 0 then [(s.first, s.data)] else []).lookup x) = none := fun x hx => by
        refine lookup_none' (fun p hp => ?_)
        by_cases z : s.first = 0
        · simp [z] at hp
        · simp [z] at hp; subst hp; exact fun e => (hfl z).2 (by have e' : s.first = x := e; rw [e']; exact hx)
      have hkd2 : ∀ x ∈ l, (s.flush.ar.get x).data = (s.ar.get x).data := fun x hx => by
        rw [flush_get hf' (hlh x hx), hnl x hx]; rfl
      have ih := join_mass (h := h) l s.flush (dn ++ [k]) (flush_inv hI) ((hfh h).2 hh) (by rw [(hkc h hh).2.1, hk]; simp) (fun z => absurd rfl z) (fun _ => rfl)
      have e0 : s.flush.first = 0 := rfl
      have e1 : s.flush.data = ByteArray.empty := rfl
      rw [e0, e1, if_neg (fun z => z rfl), decide_eq_false (fun z => z rfl), gainL_congr false (fun y hy => ⟨(hkc y (hlh y hy)).1, hkd2 y hy⟩)] at ih
      have eg : gainL s.ar (decide (s.first ≠ 0)) (k :: l) = gainL s.ar false l := by
        conv => lhs; unfold gainL
        rw [if_pos q5]
      rw [eg]
      have em : s.flush.ar.mass + (if s.first ≠ 0 then (s.ar.get s.first).data.size else 0) = s.ar.mass + s.data.size := by
        unfold JoinS.flush
        dsimp only
        by_cases q : s.first = 0
        · rw [if_neg (fun e => e q), if_neg (fun e => e q), h0 q]; rfl
        · rw [if_pos q, if_pos q]
          exact mass_setText s.data (hf' q).1 (hf' q).2
      have : ByteArray.empty.size = 0 := rfl
      omega

/-- No text directly follows a text. -/
def alt (A : Ar) : Bool → List Int → Prop
  | _, [] => True
  | b, k :: l => if (A.get k).kind ≠ 5 then alt A false l else b = false ∧ alt A true l
theorem jk_alt {A : Ar} : ∀ (l : List Int) (f : Int) (d : ByteArray), (∀ k ∈ l, k ≠ 0) → alt A (decide (f ≠ 0)) (jk A f d l).1
  | [], f, d, _ => trivial
  | k :: l, f, d, h => by
    have h' : ∀ k' ∈ l, k' ≠ 0 := fun k' hk => h k' (by simp [hk])
    unfold jk
    by_cases q5 : (A.get k).kind = 5
    · rw [if_neg (fun e => e q5)]
      by_cases q0 : f = 0 ∧ (A.get k).data ≠ ByteArray.empty
      · rw [if_pos q0]
        unfold alt
        rw [if_neg (fun e => e q5)]
        have := jk_alt (A := A) l k (A.get k).data h'
        rw [decide_eq_true (h k (by simp))] at this
        exact ⟨by rw [q0.1]; rfl, this⟩
      · rw [if_neg q0]; exact jk_alt l _ _ h'
    · rw [if_pos q5]
      unfold alt
      rw [if_pos q5]
      exact jk_alt l 0 _ h'
theorem alt_gain {A : Ar} : ∀ (l : List Int), (alt A true l → ∀ b, gainL A b l = 0) ∧ (alt A false l → gainL A false l = 0)
  | [] => ⟨fun _ _ => rfl, fun _ => rfl⟩
  | k :: l => by
    obtain ⟨h1, h2⟩ := alt_gain (A := A) l
    constructor
    · intro h b
      unfold alt at h
      unfold gainL
      by_cases q5 : (A.get k).kind = 5
      · rw [if_neg (fun e => e q5)] at h; exact absurd h.1 (by simp)
      · rw [if_pos q5] at h ⊢; exact h2 h
    · intro h
      unfold alt at h
      unfold gainL
      by_cases q5 : (A.get k).kind = 5
      · rw [if_neg (fun e => e q5)] at h ⊢; rw [if_neg (by simp)]; exact h1 h.2 _
      · rw [if_pos q5] at h ⊢; exact h2 h
theorem alt_congr {A B : Ar} : ∀ {l : List Int} (b : Bool), (∀ k ∈ l, (B.get k).kind = (A.get k).kind) → alt A b l → alt B b l
  | [], _, _, _ => trivial
  | k :: l, b, h, ha => by
    have h' : ∀ k' ∈ l, (B.get k').kind = (A.get k').kind := fun k' hk => h k' (by simp [hk])
    unfold alt at ha ⊢
    rw [h k (by simp)]
    split
    · rename_i q; rw [if_pos q] at ha; exact alt_congr _ h' ha
    · rename_i q; rw [if_neg q] at ha; exact ⟨ha.1, alt_congr _ h' ha.2⟩

/-- Joining adds no more than it takes from what it could add. -/
theorem join_gain {A : Ar} {h : Int} (hI : A.Inv) (hh : A.has h) : (A.join h).mass + (A.join h).gain ≤ A.mass + A.gain := by
  obtain ⟨r1, r2, r3, r4⟩ := join_get hI hh
  have hm := join_mass (h := h) (A.get h).kids ⟨A, 0, ByteArray.empty⟩ [] hI hh rfl (fun z => absurd rfl z) (fun _ => rfl)
  have hm : (A.join h).mass ≤ A.mass + gainL A false (A.get h).kids := by
    have e : ByteArray.empty.size = 0 := rfl
    simpa [Ar.join, e] using hm
  have hk0 : ∀ k ∈ (A.get h).kids, k ≠ 0 := fun k hk => by have := (kid_up hI hh hk).1.1; omega
  have hks := jk_sub (B := A) (A.get h).kids 0 ByteArray.empty
  have hkeys := jk_keys (B := A) (A.get h).kids 0 ByteArray.empty
  have halt := jk_alt (A := A) (A.get h).kids 0 ByteArray.empty hk0
  generalize jk A 0 ByteArray.empty (A.get h).kids = J at *
  have hhs : (A.join h).hs = A.hs := by unfold Ar.hs; rw [r2]
  have hh' : h ∈ A.hs := hs_mem.2 hh
  have hkk : ∀ x, A.has x → ((A.join h).get x).kind = (A.get x).kind := fun x hx => by rw [r4 x hx]; rfl
  have hs := sum_one (f := fun x => gainL A false (A.get x).kids) (g := fun x => gainL (A.join h) false ((A.join h).get x).kids) hh' (hs_nodup A) (fun x hx hne => by
    have hx' := hs_mem.1 hx
    have ek : ((A.join h).get x).kids = (A.get x).kids := by
      rw [r4 x hx']
      show (if x = h then _ else _) = _
      rw [if_neg hne]
    show gainL (A.join h) false ((A.join h).get x).kids = gainL A false (A.get x).kids
    rw [ek]
    refine gainL_congr false (fun y hy => ?_)
    obtain ⟨y1, y2, y3⟩ := kid_up hI hx' hy
    refine ⟨hkk y y1, ?_⟩
    rw [r4 y y1]
    show (J.2.lookup y).getD (A.get y).data = _
    have : J.2.lookup y = none := lookup_none' (fun p hp => by
      rcases hkeys p hp with ⟨_, z⟩ | ⟨z, _⟩
      · exact absurd rfl z
      · exact fun e => hne (by rw [← y3, ← e]; exact (kid_up hI hh z).2.2))
    rw [this]; rfl)
  have hz : gainL (A.join h) false ((A.join h).get h).kids = 0 := by
    have ek : ((A.join h).get h).kids = J.1 := by
      rw [r4 h hh]
      show (if h = h then _ else _) = _
      rw [if_pos rfl]
    rw [ek]
    exact (alt_gain _).2 (alt_congr false (fun k hk => hkk k (kid_up hI hh (hks k hk)).1) halt)
  have e1 : (A.join h).gain = (A.hs.map (fun x => gainL (A.join h) false ((A.join h).get x).kids)).sum := by unfold Ar.gain; rw [hhs]
  have e2 : A.gain = (A.hs.map (fun x => gainL A false (A.get x).kids)).sum := rfl
  rw [hz] at hs
  rw [e1, e2]
  omega
theorem normalize_gain {A : Ar} (hI : A.Inv) (h : Int) : (A.normalize h).2.Inv ∧ (A.normalize h).2.ns.length = A.ns.length ∧ (A.normalize h).2.inert = A.inert ∧ (A.normalize h).2.mass + (A.normalize h).2.gain ≤ A.mass + A.gain := by
  unfold Ar.normalize
  split
  · rename_i hh
    obtain ⟨q1, q2, q3, -⟩ := join_get hI hh
    have q4 := join_gain hI hh
    have hh1 : (A.join h).has h := ⟨hh.1, by have := hh.2; unfold Ar.n at *; omega⟩
    dsimp only
    refine foldl_inv (P := fun B : Ar => B.Inv ∧ B.ns.length = A.ns.length ∧ B.inert = A.inert ∧ B.mass + B.gain ≤ A.mass + A.gain) ⟨q1, q2, q3, q4⟩ ?_
    rintro B x hx ⟨p1, p2, p3, p4⟩
    have hxB : B.has x := by
      have := (below_mem q1 h hh1 x hx).1
      exact ⟨this.1, by have := this.2; unfold Ar.n at *; omega⟩
    obtain ⟨s1, s2, s3, -⟩ := join_get p1 hxB
    have s4 := join_gain p1 hxB
    exact ⟨s1, s2.trans p2, s3.trans p3, Nat.le_trans s4 p4⟩
  · exact ⟨hI, rfl, rfl, Nat.le_refl _⟩

end Go.Proofs.YtpicinjcmjaogaaGreat
