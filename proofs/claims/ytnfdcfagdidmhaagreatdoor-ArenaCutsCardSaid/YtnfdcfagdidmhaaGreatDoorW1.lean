/-
  The preorder of a node. No walk here.
-/
import Derived.Test.YtnfdcfagdidmhaaGreatDoorGE
namespace Go.Proofs.YtnfdcfagdidmhaaGreatDoor
set_option linter.unusedVariables false

def walkF (A : Ar) : Nat → Int → List Int
  | 0, _ => []
  | n + 1, h => h :: ((if (A.get h).contents ≠ 0 then walkF A n (A.get h).contents else []) ++ (A.get h).kids.flatMap (walkF A n))
def Ar.walk (A : Ar) (h : Int) : List Int := if A.has h then walkF A A.ns.length h else []
def Ar.depth (A : Ar) (h : Int) : Nat := (A.waySt true h).length

theorem way_link {A : Ar} (hI : A.Inv) {k h : Int} (hk : A.has k) (hh : A.has h) (hu : A.up k = h) : A.waySt true k = k :: A.waySt true h :=
  way_unique (hI.wf.wayOf hk) ⟨rfl, hk, by
    have : upStep A true k = h := by simp [upStep, hu]
    rw [this]; exact hI.wf.wayOf hh⟩
theorem depth_link {A : Ar} (hI : A.Inv) {k h : Int} (hk : A.has k) (hh : A.has h) (hu : A.up k = h) : A.depth k = A.depth h + 1 := by
  unfold Ar.depth; rw [way_link hI hk hh hu]; simp
theorem depth_le {A : Ar} (hI : A.Inv) {h : Int} (hh : A.has h) : A.depth h ≤ A.ns.length := way_len (hI.wf.wayOf hh)
theorem depth_pos {A : Ar} (hI : A.Inv) {h : Int} (hh : A.has h) : 1 ≤ A.depth h := by
  have := way_head (hI.wf.wayOf hh) hh
  unfold Ar.depth
  exact List.length_pos_of_mem this

theorem kid_up {A : Ar} (hI : A.Inv) {h k : Int} (hh : A.has h) (hk : k ∈ (A.get h).kids) : A.has k ∧ A.up k = h ∧ (A.get k).parent = h := by
  obtain ⟨h1, h2⟩ := hI.wf.kids h hh k hk
  refine ⟨h1, ?_, h2⟩
  unfold Ar.up
  rw [if_pos (by rw [h2]; have := hh.1; omega), h2]
theorem contents_up {A : Ar} (hI : A.Inv) {h : Int} (hh : A.has h) (hc : (A.get h).contents ≠ 0) : A.has (A.get h).contents ∧ A.up (A.get h).contents = h ∧ (A.get (A.get h).contents).parent = 0 := by
  have ht : isTemplate (A.get h) := Classical.not_not.1 (fun hn => hc (hI.nocont h hh (.inr hn)))
  obtain ⟨h1, h2, h3⟩ := hI.cont h hh (by have := hh.1; omega) ht
  have h4 : (A.get (A.get h).contents).parent = 0 := Classical.not_not.1 (fun hn => (hI.par _ h1 hn).2 h2)
  refine ⟨h1, ?_, h4⟩
  unfold Ar.up
  rw [if_neg (by rw [h4]; simp), h3]

theorem flatMap_congr' {α β : Type} {l : List α} {f g : α → List β} (h : ∀ x ∈ l, f x = g x) : l.flatMap f = l.flatMap g := by
  induction l with
  | nil => rfl
  | cons a l ih => simp only [List.flatMap_cons]; rw [h a (by simp), ih (fun x hx => h x (by simp [hx]))]

theorem walkF_fuel {A : Ar} (hI : A.Inv) : ∀ (f : Nat) (h : Int), A.has h → A.ns.length + 1 ≤ f + A.depth h → walkF A f h = walkF A (f + 1) h
  | 0, h, hh, hf => by have := depth_le hI hh; omega
  | f + 1, h, hh, hf => by
    rw [walkF, walkF]
    congr 1
    congr 1
    · split
      · rename_i hc
        obtain ⟨h1, h2, _⟩ := contents_up hI hh hc
        exact walkF_fuel hI f _ h1 (by rw [depth_link hI h1 hh h2]; omega)
      · rfl
    · refine flatMap_congr' (fun k hk => ?_)
      obtain ⟨h1, h2, _⟩ := kid_up hI hh hk
      exact walkF_fuel hI f _ h1 (by rw [depth_link hI h1 hh h2]; omega)

/-- The part of the preorder behind the contents, before kid k. -/
theorem walk_eq {A : Ar} (hI : A.Inv) {h : Int} (hh : A.has h) : A.walk h = h :: ((if (A.get h).contents ≠ 0 then A.walk (A.get h).contents else []) ++ (A.get h).kids.flatMap A.walk) := by
  have h1 : A.walk h = walkF A A.ns.length h := if_pos hh
  have hd := depth_pos hI hh
  rw [h1, walkF_fuel hI _ h hh (by omega), walkF]
  congr 1
  congr 1
  · split
    · rename_i hc
      exact (if_pos (contents_up hI hh hc).1).symm
    · rfl
  · refine flatMap_congr' (fun k hk => ?_)
    exact (if_pos (kid_up hI hh hk).1).symm

/-- Induction from the leaves. -/
theorem walk_ind {A : Ar} (hI : A.Inv) {P : Int → Prop} (step : ∀ h, A.has h → ((A.get h).contents ≠ 0 → P (A.get h).contents) → (∀ k ∈ (A.get h).kids, P k) → P h) : ∀ h, A.has h → P h := by
  have key : ∀ (m : Nat) (h : Int), A.has h → A.ns.length - A.depth h ≤ m → P h := by
    intro m
    induction m with
    | zero =>
      intro h hh hm
      have hd := depth_le hI hh
      refine step h hh (fun hc => ?_) (fun k hk => ?_)
      · obtain ⟨h1, h2, _⟩ := contents_up hI hh hc
        have := depth_le hI h1; rw [depth_link hI h1 hh h2] at this; omega
      · obtain ⟨h1, h2, _⟩ := kid_up hI hh hk
        have := depth_le hI h1; rw [depth_link hI h1 hh h2] at this; omega
    | succ m ih =>
      intro h hh hm
      refine step h hh (fun hc => ?_) (fun k hk => ?_)
      · obtain ⟨h1, h2, _⟩ := contents_up hI hh hc
        exact ih _ h1 (by rw [depth_link hI h1 hh h2]; omega)
      · obtain ⟨h1, h2, _⟩ := kid_up hI hh hk
        exact ih _ h1 (by rw [depth_link hI h1 hh h2]; omega)
  exact fun h hh => key _ h hh (Nat.le_refl _)

theorem way_self {A : Ar} (hI : A.Inv) {h : Int} (hh : A.has h) : h ∈ A.waySt true h := way_head (hI.wf.wayOf hh) hh
/-- Whoever has y above it has what is above y above it. -/
theorem way_trans {A : Ar} (hI : A.Inv) {x y : Int} (hx : A.has x) (hy : y ∈ A.waySt true x) : ∃ l1, A.waySt true x = l1 ++ A.waySt true y := by
  have hw := hI.wf.wayOf hx
  obtain ⟨l1, l2, e⟩ := List.append_of_mem hy
  rw [e] at hw
  have hyh := way_has hw y (by simp)
  have h1 := way_unique (way_tail hw) (hI.wf.wayOf hyh)
  exact ⟨l1, by rw [e, h1]⟩
theorem walk_mem {A : Ar} (hI : A.Inv) : ∀ h, A.has h → ∀ x, x ∈ A.walk h ↔ A.has x ∧ h ∈ A.waySt true x := by
  refine walk_ind hI (fun h hh hc hk x => ?_)
  rw [walk_eq hI hh]
  constructor
  · intro hx
    have sub : ∀ y, A.has y → A.up y = h → A.has x ∧ y ∈ A.waySt true x → A.has x ∧ h ∈ A.waySt true x := by
      rintro y hy hu ⟨h1, h2⟩
      obtain ⟨l1, e⟩ := way_trans hI h1 h2
      refine ⟨h1, ?_⟩
      rw [e, way_link hI hy hh hu]
      simp [way_self hI hh]
    rcases List.mem_cons.1 hx with rfl | hx
    · exact ⟨hh, way_self hI hh⟩
    · rcases List.mem_append.1 hx with hx | hx
      · split at hx
        · rename_i hcc
          obtain ⟨h1, h2, _⟩ := contents_up hI hh hcc
          exact sub _ h1 h2 ((hc hcc x).1 hx)
        · simp at hx
      · obtain ⟨k, hkk, hx⟩ := List.mem_flatMap.1 hx
        obtain ⟨h1, h2, _⟩ := kid_up hI hh hkk
        exact sub _ h1 h2 ((hk k hkk x).1 hx)
  · rintro ⟨hx, hm⟩
    obtain ⟨l1, e⟩ := way_trans hI hx hm
    by_cases hl : l1 = []
    · subst hl
      have hw := hI.wf.wayOf hx
      have h1 := hI.wf.wayOf hh
      rw [List.nil_append] at e
      have hne : A.waySt true x ≠ [] := fun e => by have := way_self hI hx; rw [e] at this; simp at this
      obtain ⟨a, l, ea⟩ := List.exists_cons_of_ne_nil hne
      rw [ea] at hw e
      rw [← e] at h1
      have : x = h := hw.1.symm.trans h1.1
      rw [this]; simp
    · obtain ⟨l0, y, rfl⟩ := List.eq_nil_or_concat l1 |>.resolve_left hl
      simp only [List.append_assoc, List.singleton_append, List.concat_eq_append] at e
      have hw := hI.wf.wayOf hx
      rw [e] at hw
      have hyh := way_has hw y (by simp)
      have hym : y ∈ A.waySt true x := by rw [e]; simp
      obtain ⟨_, _, hw3⟩ := way_tail hw
      have hup : A.up y = h := by
        have hhh := hI.wf.wayOf hh
        have hne : A.waySt true h ≠ [] := fun e => by have := way_self hI hh; rw [e] at this; simp at this
        obtain ⟨a, l, ea⟩ := List.exists_cons_of_ne_nil hne
        rw [ea] at hw3 hhh
        have h1 : a = upStep A true y := hw3.1
        have h2 : a = h := hhh.1
        rw [← h2, h1]; simp [upStep]
      refine List.mem_cons.2 (.inr (List.mem_append.2 ?_))
      by_cases hp : (A.get y).parent = 0
      · have hho : (A.get y).host = h := by unfold Ar.up at hup; rw [if_neg (by rw [hp]; simp)] at hup; exact hup
        obtain ⟨_, _, _, h4⟩ := hI.host y hyh (by rw [hho]; have := hh.1; omega)
        rw [hho] at h4
        have hcc : (A.get h).contents ≠ 0 := by rw [h4]; have := hyh.1; omega
        left
        rw [if_pos hcc]
        exact (hc hcc x).2 ⟨hx, by rw [h4]; exact hym⟩
      · have hpp : (A.get y).parent = h := by unfold Ar.up at hup; rw [if_pos hp] at hup; exact hup
        have hkm := (hI.wf.link y hyh hp).2.1
        rw [hpp] at hkm
        right
        exact List.mem_flatMap.2 ⟨y, hkm, (hk y hkm x).2 ⟨hx, hym⟩⟩

/-- Two nodes above x at the same depth are one. -/
theorem way_depth {A : Ar} (hI : A.Inv) {x y z : Int} (hx : A.has x) (hy : y ∈ A.waySt true x) (hz : z ∈ A.waySt true x) (hd : A.depth y = A.depth z) : y = z := by
  obtain ⟨l1, e1⟩ := way_trans hI hx hy
  obtain ⟨l2, e2⟩ := way_trans hI hx hz
  have hyh := way_has (hI.wf.wayOf hx) y hy
  have hzh := way_has (hI.wf.wayOf hx) z hz
  unfold Ar.depth at hd
  have h3 := List.append_inj_right' (e1.symm.trans e2) hd
  have h1 := hI.wf.wayOf hyh
  have h2 := hI.wf.wayOf hzh
  have hne : A.waySt true y ≠ [] := fun e => by have := way_self hI hyh; rw [e] at this; simp at this
  obtain ⟨a, l, ea⟩ := List.exists_cons_of_ne_nil hne
  rw [← h3, ea] at h2
  rw [ea] at h1
  exact h1.1.symm.trans h2.1

theorem nodup_flatMap {l : List Int} {f : Int → List Int} (hl : l.Nodup) (h1 : ∀ k ∈ l, (f k).Nodup) (h2 : ∀ j ∈ l, ∀ k ∈ l, ∀ x, x ∈ f j → x ∈ f k → j = k) : (l.flatMap f).Nodup := by
  induction l with
  | nil => simp
  | cons a l ih =>
    rw [List.nodup_cons] at hl
    rw [List.flatMap_cons, List.nodup_append]
    refine ⟨h1 a (by simp), ih hl.2 (fun k hk => h1 k (by simp [hk])) (fun j hj k hk => h2 j (by simp [hj]) k (by simp [hk])), ?_⟩
    intro x hx y hy e
    subst e
    obtain ⟨k, hk, hxk⟩ := List.mem_flatMap.1 hy
    have := h2 a (by simp) k (by simp [hk]) x hx hxk
    exact hl.1 (by rw [this]; exact hk)
theorem walk_nodup {A : Ar} (hI : A.Inv) : ∀ h, A.has h → (A.walk h).Nodup := by
  refine walk_ind hI (fun h hh hc hk => ?_)
  have hmem := walk_mem hI
  rw [walk_eq hI hh, List.nodup_cons, List.nodup_append]
  have hno : ∀ y, A.has y → A.up y = h → h ∉ A.walk y := fun y hy hu hm => by
    have h1 := ((hmem y hy h).1 hm).2
    obtain ⟨l1, e⟩ := way_trans hI hh h1
    have h2 := congrArg List.length e
    rw [way_link hI hy hh hu] at h2
    simp at h2; omega
  refine ⟨fun hm => ?_, ?_, ?_, ?_⟩
  · rcases List.mem_append.1 hm with hm | hm
    · split at hm
      · rename_i hcc; exact hno _ (contents_up hI hh hcc).1 (contents_up hI hh hcc).2.1 hm
      · simp at hm
    · obtain ⟨k, hkk, hm⟩ := List.mem_flatMap.1 hm
      exact hno _ (kid_up hI hh hkk).1 (kid_up hI hh hkk).2.1 hm
  · split
    · rename_i hcc; exact hc hcc
    · exact List.nodup_nil
  · refine nodup_flatMap (hI.wf.nodup h hh) hk (fun j hj k hkk x hxj hxk => ?_)
    obtain ⟨j1, j2, _⟩ := kid_up hI hh hj
    obtain ⟨k1, k2, _⟩ := kid_up hI hh hkk
    have a := (hmem j j1 x).1 hxj
    have b := (hmem k k1 x).1 hxk
    exact way_depth hI a.1 a.2 b.2 (by rw [depth_link hI j1 hh j2, depth_link hI k1 hh k2])
  · intro x hx y hy e
    subst e
    split at hx
    · rename_i hcc
      obtain ⟨k, hkk, hxk⟩ := List.mem_flatMap.1 hy
      obtain ⟨c1, c2, c3⟩ := contents_up hI hh hcc
      obtain ⟨k1, k2, k3⟩ := kid_up hI hh hkk
      have a := (hmem _ c1 x).1 hx
      have b := (hmem k k1 x).1 hxk
      have := way_depth hI a.1 a.2 b.2 (by rw [depth_link hI c1 hh c2, depth_link hI k1 hh k2])
      rw [← this, c3] at k3
      have := hh.1; omega
    · simp at hx
theorem walk_len {A : Ar} (hI : A.Inv) (h : Int) : (A.walk h).length ≤ A.ns.length := by
  by_cases hh : A.has h
  · exact len_le_of_nodup _ _ (walk_nodup hI h hh) (fun x hx => ((walk_mem hI h hh x).1 hx).1)
  · unfold Ar.walk; rw [if_neg hh]; exact Nat.zero_le _
theorem walk_no {A : Ar} {h : Int} (hh : ¬ A.has h) : A.walk h = [] := if_neg hh
theorem walk_contains {A : Ar} (hI : A.Inv) (h x : Int) : A.contains h x = decide (x ∈ A.walk h) := by
  unfold Ar.contains
  by_cases hh : A.has h
  · rw [Bool.eq_iff_iff]; simp only [decide_eq_true_eq]; rw [walk_mem hI h hh x]
    exact ⟨fun ⟨_, a, b⟩ => ⟨a, b⟩, fun ⟨a, b⟩ => ⟨hh, a, b⟩⟩
  · rw [walk_no hh, decide_eq_false (by rintro ⟨h1, _⟩; exact hh h1)]; simp

/-- Each node of the list comes after the one above it, which is p or in the list. -/
def After (A : Ar) (p : Int) (l : List Int) : Prop := ∀ pre x post, l = pre ++ x :: post → A.up x = p ∨ A.up x ∈ pre
theorem After.app {A : Ar} {p : Int} {l m : List Int} (h : After A p l) (k : After A p m) : After A p (l ++ m) := by
  intro pre x post e
  rcases List.append_eq_append_iff.1 e with ⟨a, rfl, e2⟩ | ⟨c, rfl, e2⟩
  · rcases k a x post e2 with q | q
    · exact .inl q
    · exact .inr (by simp [q])
  · cases c with
    | nil =>
      simp at e2
      rcases k [] x post (by simp [e2]) with q | q
      · exact .inl q
      · simp at q
    | cons y c =>
      simp at e2
      obtain ⟨rfl, rfl⟩ := e2
      exact h pre x c rfl
theorem walk_after {A : Ar} (hI : A.Inv) : ∀ h, A.has h → ∃ rest, A.walk h = h :: rest ∧ After A h rest := by
  refine walk_ind hI (fun h hh hc hk => ⟨_, walk_eq hI hh, ?_⟩)
  have one : ∀ y, A.has y → A.up y = h → (∃ rest, A.walk y = y :: rest ∧ After A y rest) → After A h (A.walk y) := by
    rintro y hy hu ⟨rest, e, ha⟩ pre x post e2
    rw [e] at e2
    cases pre with
    | nil => simp at e2; left; rw [← e2.1]; exact hu
    | cons z pre =>
      simp at e2
      obtain ⟨rfl, e2⟩ := e2
      rcases ha pre x post e2 with q | q
      · right; rw [q]; simp
      · right; simp [q]
  refine After.app ?_ ?_
  · split
    · rename_i hcc
      obtain ⟨c1, c2, _⟩ := contents_up hI hh hcc
      exact one _ c1 c2 (hc hcc)
    · intro pre x post e; simp at e
  · have hkk : ∀ k ∈ (A.get h).kids, After A h (A.walk k) := fun k hkm => one _ (kid_up hI hh hkm).1 (kid_up hI hh hkm).2.1 (hk k hkm)
    revert hkk
    generalize (A.get h).kids = ks
    intro hkk
    induction ks with
    | nil => intro pre x post e; simp at e
    | cons k ks ih =>
      rw [List.flatMap_cons]
      exact (hkk k (by simp)).app (ih (fun j hj => hkk j (by simp [hj])))

end Go.Proofs.YtnfdcfagdidmhaaGreatDoor
