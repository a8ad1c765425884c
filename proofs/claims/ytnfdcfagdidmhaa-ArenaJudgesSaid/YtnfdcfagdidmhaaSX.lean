/-
  The document's tests of one node, and those of the program, are the same soundness. No program here.
-/
import Derived.Test.YtnfdcfagdidmhaaSV
namespace Go.Proofs.Ytnfdcfagdidmhaa
open Classical
set_option linter.unusedVariables false

def Ar.parP (A : Ar) (h : Int) : Prop := (A.get h).parent ≠ 0 → A.has (A.get h).parent ∧ (A.get h).kind ≠ 1 ∧ (A.get h).kind ≠ 2 ∧ h ∈ (A.get (A.get h).parent).kids
def Ar.kidP (A : Ar) (h : Int) : Prop := ∀ (i : Nat) (k : Int), (A.get h).kids[i]? = some k → A.has k ∧ (A.get k).parent = h ∧ findI (fun y => decide (y = k)) (A.get h).kids = i
def Ar.ownP (A : Ar) (h : Int) : Prop :=
  (A.has (A.get h).doc ∧ (A.get (A.get h).doc).kind = 1 ∧ ((A.get h).kind = 1 → (A.get h).doc = h)) ∧
  (isTemplate (A.get h) → A.has (A.get h).contents ∧ (A.get (A.get h).contents).kind = 2 ∧ (A.get (A.get h).contents).host = h) ∧
  ((A.get h).host = 0 ∨ A.has (A.get h).host ∧ isTemplate (A.get (A.get h).host) ∧ (A.get (A.get h).host).contents = h)
/-- What the document asks of one node. -/
def Ar.refP (A : Ar) (h : Int) : Prop :=
  unusedP (A.get h) ∧ inSpaces (A.get h).space ∧ attrSpaces (A.get h).attrs ∧ (onceL (A.get h).attrs).length = (A.get h).attrs.length ∧ A.parP h ∧ A.kidP h ∧ A.ownP h

theorem str_nil {s : ByteArray} (h : s.toList = []) : s = ByteArray.empty := str_inj (by rw [h]; simp)
theorem nil_str {s : ByteArray} (h : s = ByteArray.empty) : s.toList = [] := by rw [h]; simp

theorem findI_at {l : List Int} (hn : l.Nodup) {i : Nat} {k : Int} (h : l[i]? = some k) : findI (fun y => decide (y = k)) l = i := by
  refine findI_hit h (by simp) (fun j y hj hy => ?_)
  simp only [decide_eq_false_iff_not]
  rintro rfl
  obtain ⟨hi, ei⟩ := List.getElem?_eq_some_iff.1 h
  obtain ⟨hj', ej⟩ := List.getElem?_eq_some_iff.1 hy
  unfold List.Nodup at hn
  rw [List.pairwise_iff_getElem] at hn
  exact hn j i hj' hi hj (by rw [ei, ej])
theorem findI_memI {l : List Int} {k : Int} (h : k ∈ l) : 0 ≤ findI (fun y => decide (y = k)) l := by
  have := findI_any (fun y => decide (y = k)) l
  have h2 : l.any (fun y => decide (y = k)) = true := by
    rw [List.any_eq_true]; exact ⟨k, h, by simp⟩
  rw [h2] at this
  simpa using this
theorem findI_notmem {l : List Int} {k : Int} (h : k ∉ l) : findI (fun y => decide (y = k)) l < 0 := by
  rw [findI_none]
  · omega
  · intro j y hy
    simp only [decide_eq_false_iff_not]
    rintro rfl
    exact h (List.mem_of_getElem? hy)

theorem nodup_of_find {l : List Int} (h : ∀ (i : Nat) (k : Int), l[i]? = some k → findI (fun y => decide (y = k)) l = i) : l.Nodup := by
  refine nodup_of_inj (fun i j hi hj hij e => ?_)
  have a := h i _ (List.getElem?_eq_getElem hi)
  have b := h j _ (List.getElem?_eq_getElem hj)
  rw [e, b] at a
  omega

theorem refP_links {A : Ar} {h : Int} (hr : A.refP h) : A.LinksOK h ∧ A.OnceOK h := by
  obtain ⟨⟨u1, u2, u3, u4, u5, u6, u7, u8, u9⟩, hs, ha, ho, hp, hk, hd, hc, hh⟩ := hr
  refine ⟨⟨⟨u1, u2, fun hne => ?_, hs, fun h4 => ⟨(u4 h4).1, (u4 h4).2.1⟩, fun h4 h3 => str_nil ((u4 h4).2.2 h3), fun h3 => ⟨str_nil (u5 h3).1, str_nil (u5 h3).2⟩, fun hda => ?_, fun hq => ?_, fun hct => ?_, fun hho => ?_, ha, ho⟩, hd.1, hd.2.1, hd.2.2, fun hq => ⟨(hp hq).1, (hp hq).2.1, (hp hq).2.2.1⟩, fun k hkk => ?_, hc, fun hho => ?_⟩, ?_, fun hq => (hp hq).2.2.2⟩
  · by_cases h1 : (A.get h).kind = 1
    · exact Or.inl h1
    · by_cases h2 : (A.get h).kind = 2
      · exact Or.inr (Or.inl h2)
      · by_cases h4 : (A.get h).kind = 4
        · exact Or.inr (Or.inr h4)
        · exact absurd (u3 h4 h1 h2) hne
  · by_cases h5 : (A.get h).kind = 5
    · exact Or.inl h5
    · by_cases h6 : (A.get h).kind = 6
      · exact Or.inr h6
      · exact absurd (str_nil (u6 h5 h6)) hda
  · exact u7.elim id (fun q => by rw [q] at hq; cases hq)
  · exact u8.elim id (fun q => absurd q hct)
  · exact u9.elim id (fun q => absurd q hho)
  · obtain ⟨i, hi, e⟩ := List.getElem_of_mem hkk
    have := hk i k (by rw [List.getElem?_eq_getElem hi, e])
    exact ⟨this.1, this.2.1⟩
  · exact hh.elim (fun q => absurd q hho) id
  · exact nodup_of_find (fun i k hi => (hk i k hi).2.2)
theorem links_refP {A : Ar} {h : Int} (hl : A.LinksOK h) (ho : A.OnceOK h) : A.refP h := by
  obtain ⟨f, d1, d2, d3, p, k, c, hh⟩ := hl
  refine ⟨⟨f.k1, f.k6, fun h4 h1 h2 => ?_, fun h4 => ⟨(f.el h4).1, (f.el h4).2, fun h3 => nil_str (f.nm h4 h3)⟩, fun h3 => ⟨nil_str (f.ps h3).1, nil_str (f.ps h3).2⟩, fun h5 h6 => ?_, ?_, ?_, ?_⟩, f.sp, f.at1, f.at2, fun hp => ⟨(p hp).1, (p hp).2.1, (p hp).2.2, ho.mem hp⟩, fun i k' hi => ⟨(k k' (List.mem_of_getElem? hi)).1, (k k' (List.mem_of_getElem? hi)).2, findI_at ho.nd hi⟩, ⟨d1, d2, d3⟩, c, ?_⟩
  · by_cases hne : (A.get h).kids = []
    · exact hne
    · rcases f.kids hne with q | q | q
      · exact absurd q h1
      · exact absurd q h2
      · exact absurd q h4
  · by_cases hd : (A.get h).data = ByteArray.empty
    · exact nil_str hd
    · rcases f.da hd with q | q
      · exact absurd q h5
      · exact absurd q h6
  · by_cases hq : (A.get h).quirks = true
    · exact Or.inl (f.qu hq)
    · exact Or.inr (by simpa using hq)
  · by_cases hq : (A.get h).contents = 0
    · exact Or.inr hq
    · exact Or.inl (f.ct hq)
  · by_cases hq : (A.get h).host = 0
    · exact Or.inr hq
    · exact Or.inl (f.ho hq)
  · by_cases hq : (A.get h).host = 0
    · exact Or.inl hq
    · exact Or.inr (hh hq)

/-- The document's Sound. -/
theorem refSound_iff (A : Ar) : ((∀ h, A.has h → A.refP h) ∧ ∀ h, A.has h → ¬ ∃ j : Nat, 1 ≤ j ∧ j ≤ A.ns.length + 1 ∧ upI A j h = h) ↔ A.SoundP := by
  constructor
  · rintro ⟨h1, h2⟩
    have hl := fun h hh => (refP_links (h1 h hh)).1
    exact ⟨hl, fun h hh => (refP_links (h1 h hh)).2, (rooted_iff (Ar.LinksOK.up hl)).1 (fun h hh j j1 j2 e => h2 h hh ⟨j, j1, j2, e⟩)⟩
  · rintro ⟨h1, h2, h3⟩
    exact ⟨fun h hh => links_refP (h1 h hh) (h2 h hh), fun h hh ⟨j, j1, j2, e⟩ => (rooted_iff (Ar.LinksOK.up h1)).2 h3 h hh j j1 j2 e⟩

/-- All children of all nodes. -/
def allKids (ns : List Nd) : List Int := ns.flatMap Nd.kids
/-- What the program asks of all children together. -/
def Ar.onceA (A : Ar) : Prop := (allKids A.ns).Nodup ∧ ∀ h, A.has h → (h ∈ allKids A.ns ↔ (A.get h).parent ≠ 0)

theorem mem_allKids {A : Ar} {k : Int} : k ∈ allKids A.ns ↔ ∃ h, A.has h ∧ k ∈ (A.get h).kids := by
  unfold allKids
  rw [List.mem_flatMap]
  constructor
  · rintro ⟨n, hn, hk⟩
    obtain ⟨i, hi, rfl⟩ := List.getElem_of_mem hn
    refine ⟨(i : Int) + 1, ⟨by omega, by unfold Ar.n; omega⟩, ?_⟩
    have : A.get ((i : Int) + 1) = A.ns[i] := by
      unfold Ar.get
      rw [show ((i : Int) + 1).toNat - 1 = i from by omega, List.getElem?_eq_getElem hi]; rfl
    rw [this]; exact hk
  · rintro ⟨h, hh, hk⟩
    obtain ⟨hi, e⟩ := Ar.get_of hh
    exact ⟨_, List.getElem_mem hi, by rw [← e]; exact hk⟩

theorem nodup_flatMapP {α β : Type} {f : α → List β} : ∀ {l : List α}, (∀ x ∈ l, (f x).Nodup) → l.Pairwise (fun x y => ∀ a, a ∈ f x → a ∉ f y) → (l.flatMap f).Nodup
  | [], _, _ => by simp
  | x :: l, h1, h2 => by
    rw [List.flatMap_cons, List.nodup_append]
    rw [List.pairwise_cons] at h2
    refine ⟨h1 x (by simp), nodup_flatMapP (fun y hy => h1 y (by simp [hy])) h2.2, ?_⟩
    intro a ha b hb e
    rw [List.mem_flatMap] at hb
    obtain ⟨y, hy, hb⟩ := hb
    exact h2.1 y hy a ha (by rw [e]; exact hb)
theorem nodup_part {α β : Type} {f : α → List β} {l : List α} (h : (l.flatMap f).Nodup) {x : α} (hx : x ∈ l) : (f x).Nodup := by
  obtain ⟨i, hi, rfl⟩ := List.getElem_of_mem hx
  have : (f l[i]).Sublist (l.flatMap f) := by
    have e : l = l.take i ++ l[i] :: l.drop (i + 1) := by rw [List.getElem_cons_drop, List.take_append_drop]
    conv => rhs; rw [e]
    rw [List.flatMap_append, List.flatMap_cons]
    exact ((List.sublist_append_left _ _)).trans (List.sublist_append_right _ _)
  exact this.nodup h

/-- The program's Sound. -/
theorem arSound_iff (A : Ar) : ((∀ h, A.has h → A.LinksOK h) ∧ A.onceA ∧ A.Rooted) ↔ A.SoundP := by
  constructor
  · rintro ⟨h1, ⟨h2, h3⟩, h4⟩
    refine ⟨h1, fun h hh => ⟨?_, fun hp => ?_⟩, h4⟩
    · obtain ⟨hi, e⟩ := Ar.get_of hh
      rw [e]
      exact nodup_part h2 (List.getElem_mem hi)
    · obtain ⟨p, hp1, hp2⟩ := mem_allKids.1 ((h3 h hh).2 hp)
      rw [((h1 p hp1).kid h hp2).2]; exact hp2
  · rintro ⟨h1, h2, h3⟩
    refine ⟨h1, ⟨?_, fun h hh => ⟨fun hm => ?_, fun hp => ?_⟩⟩, h3⟩
    · have hget : ∀ (i : Nat) (hi : i < A.ns.length), A.has ((i : Int) + 1) ∧ A.get ((i : Int) + 1) = A.ns[i] := fun i hi => by
        refine ⟨⟨by omega, by unfold Ar.n; omega⟩, ?_⟩
        unfold Ar.get
        rw [show ((i : Int) + 1).toNat - 1 = i from by omega, List.getElem?_eq_getElem hi]; rfl
      refine nodup_flatMapP (fun n hn => ?_) ?_
      · obtain ⟨i, hi, rfl⟩ := List.getElem_of_mem hn
        rw [← (hget i hi).2]; exact (h2 _ (hget i hi).1).nd
      · rw [List.pairwise_iff_getElem]
        intro i j hi hj hij a ha hb
        rw [← (hget i hi).2] at ha
        rw [← (hget j hj).2] at hb
        have p1 := ((h1 _ (hget i hi).1).kid a ha).2
        have p2 := ((h1 _ (hget j hj).1).kid a hb).2
        rw [p1] at p2
        omega
    · obtain ⟨p, hp1, hp2⟩ := mem_allKids.1 hm
      have := ((h1 p hp1).kid h hp2).2
      rw [this]
      exact has_ne hp1
    · exact mem_allKids.2 ⟨_, ((h1 h hh).par hp).1, (h2 h hh).mem hp⟩

end Go.Proofs.Ytnfdcfagdidmhaa
