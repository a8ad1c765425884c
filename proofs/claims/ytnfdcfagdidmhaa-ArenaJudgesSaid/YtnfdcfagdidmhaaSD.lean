/-
  Plain facts about soundness: ways up that end, cycles, and what a list of descriptions must meet.
-/
import Derived.Test.YtnfdcfagdidmhaaGE
namespace Go.Proofs.Ytnfdcfagdidmhaa
set_option linter.unusedVariables false

/-- m steps up; 0 stays. -/
def upI (A : Ar) : Nat → Int → Int
  | 0, h => h
  | m + 1, h => if upI A m h = 0 then 0 else A.up (upI A m h)

theorem upI_add (A : Ar) (i j : Nat) (h : Int) : upI A (i + j) h = upI A j (upI A i h) := by
  induction j with
  | zero => rfl
  | succ j ih =>
    show (if upI A (i + j) h = 0 then 0 else A.up (upI A (i + j) h)) = (if upI A j (upI A i h) = 0 then 0 else A.up (upI A j (upI A i h)))
    rw [ih]
theorem upI_one {A : Ar} {h : Int} (hh : h ≠ 0) : upI A 1 h = A.up h := by
  show (if h = 0 then 0 else A.up h) = A.up h
  rw [if_neg hh]
theorem upI_zero (A : Ar) (m : Nat) : upI A m 0 = 0 := by
  induction m with
  | zero => rfl
  | succ m ih => show (if upI A m 0 = 0 then 0 else _) = 0; rw [if_pos ih]
theorem has_ne {A : Ar} {h : Int} (hh : A.has h) : h ≠ 0 := by have := hh.1; omega

/-- Every link up is a handle. -/
def Ar.UpOK (A : Ar) : Prop := ∀ h, A.has h → A.up h ≠ 0 → A.has (A.up h)

theorem upI_has {A : Ar} (hC : A.UpOK) {h : Int} (hh : A.has h) : ∀ m, upI A m h = 0 ∨ A.has (upI A m h)
  | 0 => Or.inr hh
  | m + 1 => by
    show (if upI A m h = 0 then 0 else A.up (upI A m h)) = 0 ∨ A.has (if upI A m h = 0 then 0 else A.up (upI A m h))
    rcases upI_has hC hh m with h0 | h1
    · rw [if_pos h0]; exact Or.inl rfl
    · rw [if_neg (has_ne h1)]
      by_cases hu : A.up (upI A m h) = 0
      · exact Or.inl hu
      · exact Or.inr (hC _ h1 hu)
theorem way_of_upI {A : Ar} (hC : A.UpOK) : ∀ (m : Nat) (h : Int), (A.has h ∨ h = 0) → upI A m h = 0 → ∃ path, A.Way A.up h path
  | 0, h, _, h0 => ⟨[], h0⟩
  | m + 1, h, hh, h0 => by
    rcases hh with hh | hh
    · have e : upI A (m + 1) h = upI A m (A.up h) := by rw [Nat.add_comm m 1, upI_add, upI_one (has_ne hh)]
      rw [e] at h0
      have hu : A.has (A.up h) ∨ A.up h = 0 := by
        by_cases hu : A.up h = 0
        · exact Or.inr hu
        · exact Or.inl (hC _ hh hu)
      obtain ⟨path, hp⟩ := way_of_upI hC m (A.up h) hu h0
      exact ⟨h :: path, rfl, hh, hp⟩
    · exact ⟨[], hh⟩
theorem upI_of_way {A : Ar} : ∀ {path : List Int} {h : Int}, A.Way A.up h path → ∀ j, upI A j h = (path[j]?).getD 0
  | [], h, hw, j => by
    have h0 : h = 0 := hw
    rw [h0, upI_zero]; simp
  | x :: l, h, hw, j => by
    obtain ⟨hx, hh, hl⟩ := hw
    cases j with
    | zero => rw [hx]; rfl
    | succ j =>
      rw [Nat.add_comm j 1, upI_add, upI_one (has_ne hh), upI_of_way hl j]
      simp [Nat.add_comm 1 j]

theorem nodup_of_inj {l : List Int} (h : ∀ (i j : Nat) (hi : i < l.length) (hj : j < l.length), i < j → l[i] ≠ l[j]) : l.Nodup := by
  unfold List.Nodup
  rw [List.pairwise_iff_getElem]
  exact fun i j hi hj hij => h i j hi hj hij

/-- No node is above itself: just if every way up ends. -/
theorem rooted_iff {A : Ar} (hC : A.UpOK) : (∀ h, A.has h → ∀ j : Nat, 1 ≤ j → j ≤ A.ns.length + 1 → upI A j h ≠ h) ↔ ∀ h, A.has h → ∃ path, A.Way A.up h path := by
  constructor
  · intro hno h hh
    by_cases hz : ∃ m, upI A m h = 0
    · obtain ⟨m, hm⟩ := hz
      exact way_of_upI hC m h (Or.inl hh) hm
    · exfalso
      have hall : ∀ m, A.has (upI A m h) := fun m => by
        rcases upI_has hC hh m with h0 | h1
        · exact absurd ⟨m, h0⟩ hz
        · exact h1
      have hnd : ((List.range (A.ns.length + 1)).map (fun m => upI A m h)).Nodup := by
        refine nodup_of_inj (fun i j hi hj hij => ?_)
        simp only [List.length_map, List.length_range] at hi hj
        simp only [List.getElem_map, List.getElem_range]
        intro e
        have e2 : upI A (j - i) (upI A i h) = upI A i h := by
          rw [← upI_add, show i + (j - i) = j by omega]; exact e.symm
        exact hno _ (hall i) (j - i) (by omega) (by omega) e2
      have hlen := len_le_of_nodup A.ns.length _ hnd (fun x hx => by
        obtain ⟨m, -, rfl⟩ := List.mem_map.1 hx
        exact hall m)
      rw [List.length_map, List.length_range] at hlen
      omega
  · intro hw h hh j hj1 hj2 e
    obtain ⟨path, hp⟩ := hw h hh
    have hnd := way_nodup hp
    have hj := upI_of_way hp j
    have h0 := upI_of_way hp 0
    have e0 : (path[0]?).getD 0 = h := h0.symm
    rw [e] at hj
    by_cases hl : j < path.length
    · rw [List.getElem?_eq_getElem hl] at hj
      rw [List.getElem?_eq_getElem (by omega : 0 < path.length)] at e0
      simp only [Option.getD_some] at hj e0
      unfold List.Nodup at hnd
      rw [List.pairwise_iff_getElem] at hnd
      exact hnd 0 j (by omega) hl (by omega) (by rw [e0, ← hj])
    · rw [List.getElem?_eq_none (by omega)] at hj
      simp only [Option.getD_none] at hj
      exact has_ne hh hj

/-- The fields of a description are those of its kind. -/
structure Nd.FieldsOK (n : Nd) : Prop where
  k1 : 1 ≤ n.kind
  k6 : n.kind ≤ 6
  kids : n.kids ≠ [] → n.kind = 1 ∨ n.kind = 2 ∨ n.kind = 4
  sp : inSpaces n.space
  el : n.kind ≠ 4 → n.space = 0 ∧ n.attrs = []
  nm : n.kind ≠ 4 → n.kind ≠ 3 → n.name = ByteArray.empty
  ps : n.kind ≠ 3 → n.pub = ByteArray.empty ∧ n.sys = ByteArray.empty
  da : n.data ≠ ByteArray.empty → n.kind = 5 ∨ n.kind = 6
  qu : n.quirks = true → n.kind = 1
  ct : n.contents ≠ 0 → isTemplate n
  ho : n.host ≠ 0 → n.kind = 2
  at1 : attrSpaces n.attrs
  at2 : (onceL n.attrs).length = n.attrs.length
/-- The links of a node, but for the ways up and the places among the kids. -/
structure Ar.LinksOK (A : Ar) (h : Int) : Prop where
  fi : (A.get h).FieldsOK
  docH : A.has (A.get h).doc
  docK : (A.get (A.get h).doc).kind = 1
  docS : (A.get h).kind = 1 → (A.get h).doc = h
  par : (A.get h).parent ≠ 0 → A.has (A.get h).parent ∧ (A.get h).kind ≠ 1 ∧ (A.get h).kind ≠ 2
  kid : ∀ k ∈ (A.get h).kids, A.has k ∧ (A.get k).parent = h
  con : isTemplate (A.get h) → A.has (A.get h).contents ∧ (A.get (A.get h).contents).kind = 2 ∧ (A.get (A.get h).contents).host = h
  hos : (A.get h).host ≠ 0 → A.has (A.get h).host ∧ isTemplate (A.get (A.get h).host) ∧ (A.get (A.get h).host).contents = h
/-- Each node is once among the children of its parent. -/
structure Ar.OnceOK (A : Ar) (h : Int) : Prop where
  nd : (A.get h).kids.Nodup
  mem : (A.get h).parent ≠ 0 → h ∈ (A.get (A.get h).parent).kids
def Ar.Rooted (A : Ar) : Prop := ∀ h, A.has h → ∃ path, A.Way A.up h path
/-- Sound descriptions. -/
def Ar.SoundP (A : Ar) : Prop := (∀ h, A.has h → A.LinksOK h) ∧ (∀ h, A.has h → A.OnceOK h) ∧ A.Rooted

theorem Ar.LinksOK.up {A : Ar} (h : ∀ x, A.has x → A.LinksOK x) : A.UpOK := by
  intro x hx hu
  unfold Ar.up at hu ⊢
  by_cases hp : (A.get x).parent = 0
  · simp only [hp, ne_eq, not_true_eq_false, if_false] at hu ⊢
    exact ((h x hx).hos hu).1
  · simp only [hp, ne_eq, not_false_eq_true, if_true] at hu ⊢
    exact ((h x hx).par hp).1

theorem Nd.Local.fields {n : Nd} (h : n.Local) (hk : n.kids ≠ [] → n.kind = 1 ∨ n.kind = 2 ∨ n.kind = 4) (hc : n.contents ≠ 0 → isTemplate n) (hh : n.host ≠ 0 → n.kind = 2) : n.FieldsOK where
  k1 := h.k1
  k6 := h.k6
  kids := hk
  sp := h.sp
  el := h.el
  nm := h.nm
  ps := h.ps
  da := fun hd => by
    by_cases h5 : n.kind = 5
    · exact Or.inl h5
    · by_cases h6 : n.kind = 6
      · exact Or.inr h6
      · exact absurd (h.da h5 h6) hd
  qu := fun hq => by
    by_cases h1 : n.kind = 1
    · exact h1
    · rw [h.qu h1] at hq; cases hq
  ct := hc
  ho := hh
  at1 := h.at1
  at2 := by rw [h.at2]

theorem Ar.Inv.sound {A : Ar} (hI : A.Inv) : A.SoundP := by
  refine ⟨fun h hh => ?_, fun h hh => ⟨hI.wf.nodup h hh, fun hp => (hI.wf.link h hh hp).2.1⟩, fun h hh => hI.wf.way h hh⟩
  have h0 : h ≠ 0 := has_ne hh
  refine ⟨(hI.loc h hh).fields (hI.kidk h hh) (fun hc => ?_) (fun hc => (hI.host h hh hc).1), (hI.docK h hh).1, (hI.docK h hh).2, hI.docS h hh, fun hp => ⟨(hI.wf.link h hh hp).1, hI.par h hh hp⟩, hI.wf.kids h hh, hI.cont h hh h0, fun hc => (hI.host h hh hc).2⟩
  by_cases ht : isTemplate (A.get h)
  · exact ht
  · exact absurd (hI.nocont h hh (Or.inr ht)) hc

end Go.Proofs.Ytnfdcfagdidmhaa
