/-
  Parts: W1, W2.
-/
import Derived.Test.YtpicinjcmjaogaaGreatK07

/- The preorder of a node. No walk here. -/
namespace Go.Proofs.YtpicinjcmjaogaaGreat
set_option linter.unusedVariables false

def walkF (A : Ar) : Nat → Int → List Int
  | 0, _ => []
  | n + 1, h => h :: ((if (A.get h).contents ≠ 0 then walkF A n (A.get h).contents else []) ++ (A.get h).kids.flatMap (walkF A n))
def Ar.walk (A : Ar) (h : Int) : List Int := if A.has h then walkF A A.ns.length h else []
def Ar.depth (A : Ar) (h : Int) : Nat := (A.waySt true h).length

theorem way_link {A : Ar} (hI : A.Inv) {k h : Int} (hk : A.has k) (hh : A.has h) (hu : A.up k = h) : A.waySt true k = k :: A.waySt true h :=
  way_unique (hI.wf.wayOf hk) ⟨rfl, hk, by
    have : upStep A true k = h := by simp [upStep, hu]
    rw [this]; exact hI.wf.wayOf hh⟩
theorem depth_link {A : Ar} (hI : A.Inv) {k h : Int} (hk : A.has k) (hh : A.has h) (hu : A.up k = h) : A.depth k = A.depth h + 1 := by
  unfold Ar.depth; rw [way_link hI hk hh hu]; simp
theorem depth_le {A : Ar} (hI : A.Inv) {h : Int} (hh : A.has h) : A.depth h ≤ A.ns.length := way_len (hI.wf.wayOf hh)
theorem depth_pos {A : Ar} (hI : A.Inv) {h : Int} (hh : A.has h) : 1 ≤ A.depth h := by
  have := way_head (hI.wf.wayOf hh) hh
  unfold Ar.depth
  exact List.length_pos_of_mem this

theorem kid_up {A : Ar} (hI : A.Inv) {h k : Int} (hh : A.has h) (hk : k ∈ (A.get h).kids) : A.has k ∧ A.up k = h ∧ (A.get k).parent = h := by
  obtain ⟨h1, h2⟩ := hI.wf.kids h hh k hk
  refine ⟨h1, ?_, h2⟩
  unfold Ar.up
  rw [if_pos (by rw [h2]; have := hh.1; omega), h2]
theorem contents_up {A : Ar} (hI : A.Inv) {h : Int} (hh : A.has h) (hc : (A.get h).contents ≠ 0) : A.has (A.get h).contents ∧ A.up (A.get h).contents = h ∧ (A.get (A.get h).contents).parent = 0 := by
  have ht : isTemplate (A.get h) := Classical.not_not.1 (fun hn => hc (hI.nocont h hh (.inr hn)))
  obtain ⟨h1, h2, h3⟩ := hI.cont h hh (by have := hh.1; omega) ht
  have h4 : (A.get (A.get h).contents).parent = 0 := Classical.not_not.1 (fun hn => (hI.par _ h1 hn).2 h2)
  refine ⟨h1, ?_, h4⟩
  unfold Ar.up
  rw [if_neg (by rw [h4]; simp), h3]

theorem flatMap_congr' {α β : Type} {l : List α} {f g : α → List β} (h : ∀ x ∈ l, f x = g x) : l.flatMap f = l.flatMap g := by
  induction l with
  | nil => rfl
  | cons a l ih => simp only [List.flatMap_cons]; rw [h a (by simp), ih (fun x hx => h x (by simp [hx]))]

theorem walkF_fuel {A : Ar} (hI : A.Inv) : ∀ (f : Nat) (h : Int), A.has h → A.ns.length + 1 ≤ f + A.depth h → walkF A f h = walkF A (f + 1) h
  | 0, h, hh, hf => by have := depth_le hI hh; omega
  | f + 1, h, hh, hf => by
    rw [walkF, walkF]
    congr 1
    congr 1
    · split
      · rename_i hc
        obtain ⟨h1, h2, _⟩ := contents_up hI hh hc
        exact walkF_fuel hI f _ h1 (by rw [depth_link hI h1 hh h2]; omega)
      · rfl
    · refine flatMap_congr' (fun k hk => ?_)
      obtain ⟨h1, h2, _⟩ := kid_up hI hh hk
      exact walkF_fuel hI f _ h1 (by rw [depth_link hI h1 hh h2]; omega)

/-- The part of the preorder behind the contents, before kid k. -/
theorem walk_eq {A : Ar} (hI : A.Inv) {h : Int} (hh : A.has h) : A.walk h = h :: ((if (A.get h).contents ≠ 0 then A.walk (A.get h).contents else []) ++ (A.get h).kids.flatMap A.walk) := by
  have h1 : A.walk h = walkF A A.ns.length h := if_pos hh
  have hd := depth_pos hI hh
  rw [h1, walkF_fuel hI _ h hh (by omega), walkF]
  congr 1
  congr 1
  · split
    · rename_i hc
      exact (if_pos (contents_up hI hh hc).1).symm
    · rfl
  · refine flatMap_congr' (fun k hk => ?_)
    exact (if_pos (kid_up hI hh hk).1).symm

/-- Induction from the leaves. -/
theorem walk_ind {A : Ar} (hI : A.Inv) {P : Int → Prop} (step : ∀ h, A.has h → ((A.get h).contents ≠ 0 → P (A.get h).contents) → (∀ k ∈ (A.get h).kids, P k) → P h) : ∀ h, A.has h → P h := by
  have key : ∀ (m : Nat) (h : Int), A.has h → A.ns.length - A.depth h ≤ m → P h := by
    intro m
    induction m with
    | zero =>
      intro h hh hm
      have hd := depth_le hI hh
      refine step h hh (fun hc => ?_) (fun k hk => ?_)
      · obtain ⟨h1, h2, _⟩ := contents_up hI hh hc
        have := depth_le hI h1; rw [depth_link hI h1 hh h2] at this; omega
      · obtain ⟨h1, h2, _⟩ := kid_up hI hh hk
        have := depth_le hI h1; rw [depth_link hI h1 hh h2] at this; omega
    | succ m ih =>
      intro h hh hm
      refine step h hh (fun hc => ?_) (fun k hk => ?_)
      · obtain ⟨h1, h2, _⟩ := contents_up hI hh hc
        exact ih _ h1 (by rw [depth_link hI h1 hh h2]; omega)
      · obtain ⟨h1, h2, _⟩ := kid_up hI hh hk
        exact ih _ h1 (by rw [depth_link hI h1 hh h2]; omega)
  exact fun h hh => key _ h hh (Nat.le_refl _)

theorem way_self {A : Ar} (hI : A.Inv) {h : Int} (hh : A.has h) : h ∈ A.waySt true h := way_head (hI.wf.wayOf hh) hh
/-- Whoever has y above it has what is above y above it. -/
theorem way_trans {A : Ar} (hI : A.Inv) {x y : Int} (hx : A.has x) (hy : y ∈ A.waySt true x) : ∃ l1, A.waySt true x = l1 ++ A.waySt true y := by
  have hw := hI.wf.wayOf hx
  obtain ⟨l1, l2, e⟩ := List.append_of_mem hy
  rw [e] at hw
  have hyh := way_has hw y (by simp)
  have h1 := way_unique (way_tail hw) (hI.wf.wayOf hyh)
  exact ⟨l1, by rw [e, h1]⟩
theorem walk_mem {A : Ar} (hI : A.Inv) : ∀ h, A.has h → ∀ x, x ∈ A.walk h ↔ A.has x ∧ h ∈ A.waySt true x := by
  refine walk_ind hI (fun h hh hc hk x => ?_)
  rw [walk_eq hI hh]
  constructor
  · intro hx
    have sub : ∀ y, A.has y → A.up y = h → A.has x ∧ y ∈ A.waySt true x → A.has x ∧ h ∈ A.waySt true x := by
      rintro y hy hu ⟨h1, h2⟩
      obtain ⟨l1, e⟩ := way_trans hI h1 h2
      refine ⟨h1, ?_⟩
      rw [e, way_link hI hy hh hu]
      simp [way_self hI hh]
    rcases List.mem_cons.1 hx with rfl | hx
    · exact ⟨hh, way_self hI hh⟩
    · rcases List.mem_append.1 hx with hx | hx
      · split at hx
        · rename_i hcc
          obtain ⟨h1, h2, _⟩ := contents_up hI hh hcc
          exact sub _ h1 h2 ((hc hcc x).1 hx)
        · simp at hx
      · obtain ⟨k, hkk, hx⟩ := List.mem_flatMap.1 hx
        obtain ⟨h1, h2, _⟩ := kid_up hI hh hkk
        exact sub _ h1 h2 ((hk k hkk x).1 hx)
  · rintro ⟨hx, hm⟩
    obtain ⟨l1, e⟩ := way_trans hI hx hm
    by_cases hl : l1 = []
    · subst hl
      have hw := hI.wf.wayOf hx
      have h1 := hI.wf.wayOf hh
      rw [List.nil_append] at e
      have hne : A.waySt true x ≠ [] := fun e => by have := way_self hI hx; rw [e] at this; simp at this
      obtain ⟨a, l, ea⟩ := List.exists_cons_of_ne_nil hne
      rw [ea] at hw e
      rw [← e] at h1
      have : x = h := hw.1.symm.trans h1.1
      rw [this]; simp
    · obtain ⟨l0, y, rfl⟩ := List.eq_nil_or_concat l1 |>.resolve_left hl
      simp only [List.append_assoc, List.singleton_append, List.concat_eq_append] at e
      have hw := hI.wf.wayOf hx
      rw [e] at hw
      have hyh := way_has hw y (by simp)
      have hym : y ∈ A.waySt true x := by rw [e]; simp
      obtain ⟨_, _, hw3⟩ := way_tail hw
      have hup : A.up y = h := by
        have hhh := hI.wf.wayOf hh
        have hne : A.waySt true h ≠ [] := fun e => by have := way_self hI hh; rw [e] at this; simp at this
        obtain ⟨a, l, ea⟩ := List.exists_cons_of_ne_nil hne
        rw [ea] at hw3 hhh
        have h1 : a = upStep A true y := hw3.1
        have h2 : a = h := hhh.1
        rw [← h2, h1]; simp [upStep]
      refine List.mem_cons.2 (.inr (List.mem_append.2 ?_))
      by_cases hp : (A.get y).parent = 0
      · have hho : (A.get y).host = h := by unfold Ar.up at hup; rw [if_neg (by rw [hp]; simp)] at hup; exact hup
        obtain ⟨_, _, _, h4⟩ := hI.host y hyh (by rw [hho]; have := hh.1; omega)
        rw [hho] at h4
        have hcc : (A.get h).contents ≠ 0 := by rw [h4]; have := hyh.1; omega
        left
        rw [if_pos hcc]
        exact (hc hcc x).2 ⟨hx, by rw [h4]; exact hym⟩
      · have hpp : (A.get y).parent = h := by unfold Ar.up at hup; rw [if_pos hp] at hup; exact hup
        have hkm := (hI.wf.link y hyh hp).2.1
        rw [hpp] at hkm
        right
        exact List.mem_flatMap.2 ⟨y, hkm, (hk y hkm x).2 ⟨hx, hym⟩⟩

/-- Two nodes above x at the same depth are one. -/
theorem way_depth {A : Ar} (hI : A.Inv) {x y z : Int} (hx : A.has x) (hy : y ∈ A.waySt true x) (hz : z ∈ A.waySt true x) (hd : A.depth y = A.depth z) : y = z := by
  obtain ⟨l1, e1⟩ := way_trans hI hx hy
  obtain ⟨l2, e2⟩ := way_trans hI hx hz
  have hyh := way_has (hI.wf.wayOf hx) y hy
  have hzh := way_has (hI.wf.wayOf hx) z hz
  unfold Ar.depth at hd
  have h3 := List.append_inj_right' (e1.symm.trans e2) hd
  have h1 := hI.wf.wayOf hyh
  have h2 := hI.wf.wayOf hzh
  have hne : A.waySt true y ≠ [] := fun e => by have := way_self hI hyh; rw [e] at this; simp at this
  obtain ⟨a, l, ea⟩ := List.exists_cons_of_ne_nil hne
  rw [← h3, ea] at h2
  rw [ea] at h1
  exact h1.1.symm.trans h2.1

theorem nodup_flatMap {l : List Int} {f : Int → List Int} (hl : l.Nodup) (h1 : ∀ k ∈ l, (f k).Nodup) (h2 : ∀ j ∈ l, ∀ k ∈ l, ∀ x, x ∈ f j → x ∈ f k → j = k) : (l.flatMap f).Nodup := by
  induction l with
  | nil => simp
  | cons a l ih =>
    rw [List.nodup_cons] at hl
    rw [List.flatMap_cons, List.nodup_append]
    refine ⟨h1 a (by simp), ih hl.2 (fun k hk => h1 k (by simp [hk])) (fun j hj k hk => h2 j (by simp [hj]) k (by simp [hk])), ?_⟩
    intro x hx y hy e
    subst e
    obtain ⟨k, hk, hxk⟩ := List.mem_flatMap.1 hy
    have := h2 a (by simp) k (by simp [hk]) x hx hxk
    exact hl.1 (by rw [this]; exact hk)
theorem walk_nodup {A : Ar} (hI : A.Inv) : ∀ h, A.has h → (A.walk h).Nodup := by
  refine walk_ind hI (fun h hh hc hk => ?_)
  have hmem := walk_mem hI
  rw [walk_eq hI hh, List.nodup_cons, List.nodup_append]
  have hno : ∀ y, A.has y → A.up y = h → h ∉ A.walk y := fun y hy hu hm => by
    have h1 := ((hmem y hy h).1 hm).2
    obtain ⟨l1, e⟩ := way_trans hI hh h1
    have h2 := congrArg List.length e
    rw [way_link hI hy hh hu] at h2
    simp at h2; omega
  refine ⟨fun hm => ?_, ?_, ?_, ?_⟩
  · rcases List.mem_append.1 hm with hm | hm
    · split at hm
      · rename_i hcc; exact hno _ (contents_up hI hh hcc).1 (contents_up hI hh hcc).2.1 hm
      · simp at hm
    · obtain ⟨k, hkk, hm⟩ := List.mem_flatMap.1 hm
      exact hno _ (kid_up hI hh hkk).1 (kid_up hI hh hkk).2.1 hm
  · split
    · rename_i hcc; exact hc hcc
    · exact List.nodup_nil
  · refine nodup_flatMap (hI.wf.nodup h hh) hk (fun j hj k hkk x hxj hxk => ?_)
    obtain ⟨j1, j2, _⟩ := kid_up hI hh hj
    obtain ⟨k1, k2, _⟩ := kid_up hI hh hkk
    have a := (hmem j j1 x).1 hxj
    have b := (hmem k k1 x).1 hxk
    exact way_depth hI a.1 a.2 b.2 (by rw [depth_link hI j1 hh j2, depth_link hI k1 hh k2])
  · intro x hx y hy e
    subst e
    split at hx
    · rename_i hcc
      obtain ⟨k, hkk, hxk⟩ := List.mem_flatMap.1 hy
      obtain ⟨c1, c2, c3⟩ := contents_up hI hh hcc
      obtain ⟨k1, k2, k3⟩ := kid_up hI hh hkk
      have a := (hmem _ c1 x).1 hx
      have b := (hmem k k1 x).1 hxk
      have := way_depth hI a.1 a.2 b.2 (by rw [depth_link hI c1 hh c2, depth_link hI k1 hh k2])
      rw [← this, c3] at k3
      have := hh.1; omega
    · simp at hx
theorem walk_len {A : Ar} (hI : A.Inv) (h : Int) : (A.walk h).length ≤ A.ns.length := by
  by_cases hh : A.has h
  · exact len_le_of_nodup _ _ (walk_nodup hI h hh) (fun x hx => ((walk_mem hI h hh x).1 hx).1)
  · unfold Ar.walk; rw [if_neg hh]; exact Nat.zero_le _
theorem walk_no {A : Ar} {h : Int} (hh : ¬ A.has h) : A.walk h = [] := if_neg hh
theorem walk_contains {A : Ar} (hI : A.Inv) (h x : Int) : A.contains h x = decide (x ∈ A.walk h) := by
  unfold Ar.contains
  by_cases hh : A.has h
  · rw [Bool.eq_iff_iff]; simp only [decide_eq_true_eq]; rw [walk_mem hI h hh x]
    exact ⟨fun ⟨_, a, b⟩ => ⟨a, b⟩, fun ⟨a, b⟩ => ⟨hh, a, b⟩⟩
  · rw [walk_no hh, decide_eq_false (by rintro ⟨h1, _⟩; exact hh h1)]; simp

/-- Each node of the list comes after the one above it, which is p or in the list. -/
def After (A : Ar) (p : Int) (l : List Int) : Prop := ∀ pre x post, l = pre ++ x :: post → A.up x = p ∨ A.up x ∈ pre
theorem After.app {A : Ar} {p : Int} {l m : List Int} (h : After A p l) (k : After A p m) : After A p (l ++ m) := by
  intro pre x post e
  rcases List.append_eq_append_iff.1 e with ⟨a, rfl, e2⟩ | ⟨c, rfl, e2⟩
  · rcases k a x post e2 with q | q
    · exact .inl q
    · exact .inr (by simp [q])
  · cases c with
    | nil =>
      simp at e2
      rcases k [] x post (by simp [e2]) with q | q
      · exact .inl q
      · simp at q
    | cons y c =>
      simp at e2
      obtain ⟨rfl, rfl⟩ := e2
      exact h pre x c rfl
theorem walk_after {A : Ar} (hI : A.Inv) : ∀ h, A.has h → ∃ rest, A.walk h = h :: rest ∧ After A h rest := by
  refine walk_ind hI (fun h hh hc hk => ⟨_, walk_eq hI hh, ?_⟩)
  have one : ∀ y, A.has y → A.up y = h → (∃ rest, A.walk y = y :: rest ∧ After A y rest) → After A h (A.walk y) := by
    rintro y hy hu ⟨rest, e, ha⟩ pre x post e2
    rw [e] at e2
    cases pre with
    | nil => simp at e2; left; rw [← e2.1]; exact hu
    | cons z pre =>
      simp at e2
      obtain ⟨rfl, e2⟩ := e2
      rcases ha pre x post e2 with q | q
      · right; rw [q]; simp
      · right; simp [q]
  refine After.app ?_ ?_
  · split
    · rename_i hcc
      obtain ⟨c1, c2, _⟩ := contents_up hI hh hcc
      exact one _ c1 c2 (hc hcc)
    · intro pre x post e; simp at e
  · have hkk : ∀ k ∈ (A.get h).kids, After A h (A.walk k) := fun k hkm => one _ (kid_up hI hh hkm).1 (kid_up hI hh hkm).2.1 (hk k hkm)
    revert hkk
    generalize (A.get h).kids = ks
    intro hkk
    induction ks with
    | nil => intro pre x post e; simp at e
    | cons k ks ih =>
      rw [List.flatMap_cons]
      exact (hkk k (by simp)).app (ih (fun j hj => hkk j (by simp [hj])))

end Go.Proofs.YtpicinjcmjaogaaGreat

/- Contracts of the program's arena: preorder. -/
namespace Go.Proofs.YtpicinjcmjaogaaGreat
open Go.RowKit
set_option linter.unusedVariables false

theorem Below.toUpd {B : Nat} {w w' : World} (h : Below B w w') : Upd (fun k => B ≤ k) w w' := ⟨h.os, h.tape, h.output, h.size, fun k _ hf => h.block k (by omega)⟩
theorem AMem.low {B : Nat} {w w' : World} {ρ : Nat → Nat} {b : Nat} {A : Ar} (h : AMem w ρ b A) (hB : Below B w w') (hρ : ∀ k, ρ k ≠ 0 → k < B) : AMem w' ρ b A := h.upd (Below.toUpd hB) (fun k hk hf => by have := hρ k hk; omega)
theorem RInts.cells {w : World} {a : Option Addr} {n c : Nat} {l : List Int} (h : RInts w (.slice a n c) l) (hp : 0 < l.length) : ∃ b o, a = some ⟨b, o, none⟩ ∧ n = l.length ∧ ∀ j x, l[j]? = some x → w.cell? ⟨b, o + j, none⟩ = some (.int .i64 x) := by
  obtain ⟨a', c', e, h2, h3, h4⟩ := h.form
  simp at e
  obtain ⟨rfl, rfl, rfl⟩ := e
  obtain ⟨b, o, h5, h6⟩ := h4 hp
  refine ⟨b, o, h5, rfl, fun j x hx => ?_⟩
  have := h6 j (List.getElem?_eq_some_iff.1 hx).1
  rw [hx] at this
  simpa using this

theorem flat_take {α : Type} {l : List Int} {k : Nat} {x : Int} (f : Int → List α) (hx : l[k]? = some x) : (l.take (k + 1)).flatMap f = (l.take k).flatMap f ++ f x := by
  have hk := (List.getElem?_eq_some_iff.1 hx).1
  rw [List.take_succ_eq_append_getElem hk, (List.getElem?_eq_some_iff.1 hx).2]; simp
theorem flat_take_len {α : Type} (l : List Int) (k : Nat) (f : Int → List α) : ((l.take k).flatMap f).length ≤ (l.flatMap f).length := by
  have := congrArg List.length (congrArg (List.flatMap f) (List.take_append_drop k l))
  rw [List.flatMap_append, List.length_append] at this
  omega

set_option maxRecDepth 100000 in
set_option maxHeartbeats 2000000 in
theorem preorder_any (A : Ar) (ρ : Nat → Nat) (b B : Nat) (hI : A.Inv) (hρ : ∀ k, ρ k ≠ 0 → k < B) (hn : A.ns.length ≤ 100000) : ∀ h, A.has h → ∀ (v : Value) (l : List Int) (w : World), AMem w ρ b A → B ≤ w.heap.size → w.ownsRow B 3 1 v l.length (l.map intv) → l.length + (A.walk h).length ≤ 1000000 →
    Calls Tryz.prog 154 #[.pointer (some ⟨b, 0, none⟩), .int .i64 h, v] w fun e w' => Below B w w' ∧ ∃ v', e = .returned v' ∧ w'.ownsRow B 3 1 v' (l ++ A.walk h).length ((l ++ A.walk h).map intv) := by
  refine walk_ind hI (fun h hh ihc ihk v l w hA hB hO hlen => ?_)
  obtain ⟨i0, hi, hz0, hz1, hz2⟩ := info_parts infoInt
  have HI := Lib.hid hi
  have HIC := Lib.hid ihc
  have HIK := Lib.hid ihk
  have HW := Lib.hid (walk_eq hI hh)
  have HO := Lib.hid hO
  have HA := Lib.hid hA
  have HRHO := Lib.hid hρ
  have HLEN := Lib.hid hlen
  have hll : l.length ≤ 1000000 := by omega
  have hkn : (A.get h).kids.length ≤ A.ns.length := Ar.kids_len hI.wf hh
  clear hi ihc ihk hO hA hρ hlen
  go_enter Tryz.func154, Tryz.ntmps154
  go_wp2_with (at_builtin; refine wpList_append_own _ rfl _ _ 41 rfl B 3 i0 _ 1 8 Tryz.underlying41 HI.out hz0 hz1 hz2 rfl (by decide) _ _ _ rfl (HO.out.alloc _) ⟨w.heap.size, 0, none⟩ 1 1 [intv h] rfl rfl ?c1 ?c2 ?c3 ?c4 ?c5 ?_)
  case c1 => intro j u hj; rw [Addr.add_mid, Nat.zero_add]; exact cell_new' rfl (by simpa [intv] using hj)
  case c2 => intro u hu; simp at hu; subst hu; rfl
  case c3 => unfold maxLen; omega
  case c4 => omega
  case c5 => simp; omega
  intro v3 w3 hown hgrow _
  have hB3 : Below B w w3 := ((Below.refl B w).alloc hB _).grown hgrow (by simp; omega) (fun k hk => (owns_block HO.out k hk).1)
  have hO3 : w3.ownsRow B 3 1 v3 (l ++ [h]).length ((l ++ [h]).map intv) := by rw [List.map_append, List.length_append]; exact hown
  have HO3 := Lib.hid hO3
  have hA3 := HA.out.low hB3 HRHO.out
  have HA3 := Lib.hid hA3
  have hB3s : B ≤ w3.heap.size := Nat.le_trans hB hB3.size
  have HB3 := Lib.hid hB3
  clear hown hgrow hO3 hB3
  obtain ⟨a, c, mv, h0, h1, hf, hlt, hm, hN⟩ := hA3.head
  have hp := hh.1; have hq := hh.2; unfold Ar.n at hq
  obtain ⟨nb, rfl, hr, hnb, hfn, hNx⟩ := hN (by omega)
  obtain ⟨kv, av, F, hK, -⟩ := hNx h hh
  have c11 := F.c11
  have hK3 := Lib.hid hK
  have HK3 : Hid (∀ w', Below B w3 w' → RInts w' kv (A.get h).kids) := Lib.hid (fun w' hb => (hK3.out.upd (Below.toUpd hb) (fun k hk hf => by have := HRHO.out k (by omega); omega)).reads)
  have HC2 : Hid (∀ w', Below B w3 w' → w'.cell? ⟨nb, (h.toNat - 1) * 13 + 2, none⟩ = some kv) := Lib.hid (fun w' hb => (Below.toUpd hb).cell F.c2 (fun hf => by have hf' : B ≤ nb := hf; have := HRHO.out nb (by omega); omega))
  obtain ⟨ka, kc, hkv, -⟩ := (show RInts w3 kv (A.get h).kids from hK.reads).form
  subst hkv
  clear F hNx hN hK hK3 hA3 h1 hf hfn
  have hfin : ∃ (l4 : List Int), ((A.get h).contents ≠ 0 → l4 = (l ++ [h]) ++ A.walk (A.get h).contents) ∧ ((A.get h).contents = 0 → l4 = l ++ [h]) ∧ l4 ++ (A.get h).kids.flatMap A.walk = l ++ A.walk h := by
    by_cases hc : (A.get h).contents = 0
    · refine ⟨_, fun e => absurd hc e, fun _ => rfl, ?_⟩
      rw [HW.out, if_neg (by simp [hc])]; simp
    · refine ⟨_, fun _ => rfl, fun e => absurd e hc, ?_⟩
      rw [HW.out, if_pos hc]; simp
  obtain ⟨l4, hl4a, hl4b, hl4c⟩ := hfin
  have HL4 := Lib.hid hl4c
  have hl4len : l4.length + ((A.get h).kids.flatMap A.walk).length ≤ 1000000 := by
    have e := congrArg List.length hl4c
    rw [List.length_append, List.length_append] at e
    have := HLEN.out; omega
  have HL4L := Lib.hid hl4len
  have HKH : Hid (∀ k ∈ (A.get h).kids, A.has k) := Lib.hid (fun k hk => (kid_up hI hh hk).1)
  clear hl4c hl4len
  have done : ∀ (w4 : World) (v4 : Value), Below B w3 w4 → w4.ownsRow B 3 1 v4 l4.length (l4.map intv) → Hid (Below B w3 w4 ∧ w4.ownsRow B 3 1 v4 (l4 ++ ((A.get h).kids.take 0).flatMap A.walk).length ((l4 ++ ((A.get h).kids.take 0).flatMap A.walk).map intv)) :=
    fun w4 v4 h1 h2 => Lib.hid ⟨h1, by simpa using h2⟩
  by_cases hc : (A.get h).contents = 0
  · have hce : ((A.get h).contents != 0) = false := by simp [hc]
    have hX := done w3 v3 (Below.refl _ _) (by rw [hl4b hc]; exact HO3.out)
    clear hl4a hl4b hc done
    have k2 := HC2.out w3 (Below.refl _ _)
    go_wp2_with (go_at_call 87; refine (at_any b nb _ c h _ h0 hp hq hm).mono ?_; rintro e w' ⟨rfl, rfl⟩)
    go_loopw [2, 37] (fun out i wr => ∃ k : Nat, k ≤ (A.get h).kids.length ∧ i = .int .i64 k ∧ Hid (Below B w3 wr ∧ wr.ownsRow B 3 1 out (l4 ++ ((A.get h).kids.take k).flatMap A.walk).length ((l4 ++ ((A.get h).kids.take k).flatMap A.walk).map intv))) (fun _ i _ => (A.get h).kids.length - (intOf i).toNat)
    case atStart => exact ⟨0, Nat.zero_le _, rfl, hX⟩
    case round =>
      obtain ⟨k, hk, rfl, hT⟩ := hrel
      by_cases hlt : k < (A.get h).kids.length
      · obtain ⟨b1, o1, rfl, -, hcs⟩ := (HK3.out wr hT.out.1).cells (by omega)
        obtain ⟨x, hx⟩ : ∃ x, (A.get h).kids[k]? = some x := ⟨_, List.getElem?_eq_getElem hlt⟩
        have d1 := hcs k x hx
        have hst := flat_take A.walk hx
        have hxm := List.mem_of_getElem? hx
        have hl2 := flat_take_len (A.get h).kids (k + 1) A.walk
        rw [hst, List.length_append] at hl2
        have HC := Lib.hid (HIK.out x hxm _ _ wr (HA3.out.low hT.out.1 HRHO.out) (Nat.le_trans hB3s hT.out.1.size) hT.out.2 (by have := HL4L.out; rw [List.length_append]; omega))
        have HST := Lib.hid hst
        have HBT := Lib.hid hT.out.1
        clear hcs hx hst hxm hl2 hT
        go_wp2_with fail
        refine HC.out.mono ?_
        rintro e w5 ⟨hB5, v5, rfl, hO5⟩
        have HX : Hid (Below B w3 w5 ∧ w5.ownsRow B 3 1 v5 (l4 ++ ((A.get h).kids.take (k + 1)).flatMap A.walk).length ((l4 ++ ((A.get h).kids.take (k + 1)).flatMap A.walk).map intv)) := Lib.hid ⟨HBT.out.trans hB5, by rw [HST.out, ← List.append_assoc]; exact hO5⟩
        clear hB5 hO5 HC
        go_wp2
        go_roundw
        case rel => exact ⟨k + 1, hlt, by go_num, HX⟩
        case measure => simp [intOf]; omega
      · have hkl : (A.get h).kids.take k = (A.get h).kids := List.take_of_length_le (by omega)
        have hO := hT.out.2
        rw [hkl, HL4.out] at hO
        have HX := Lib.hid (And.intro (HB3.out.trans hT.out.1) hO)
        clear hO hT hkl
        go_wp2
        go_ret
        exact ⟨HX.out.1, _, rfl, HX.out.2⟩
  · have hce : ((A.get h).contents != 0) = true := by simp [hc]
    have hch := (contents_up hI hh hc).1
    have hcl : (l ++ [h]).length + (A.walk (A.get h).contents).length ≤ 1000000 := by
      have e := congrArg List.length (hl4a hc)
      rw [List.length_append] at e
      have := HL4L.out; omega
    have HC := Lib.hid (HIC.out hc v3 (l ++ [h]) w3 HA3.out hB3s HO3.out hcl)
    have HL4A := Lib.hid (hl4a hc)
    have HDONE := Lib.hid done
    clear hl4a hl4b hc hch hcl done
    go_wp2_with (go_at_call 87; refine (at_any b nb _ c h _ h0 hp hq hm).mono ?_; rintro e w' ⟨rfl, rfl⟩)
    refine HC.out.mono ?_
    rintro e w4 ⟨hB4, v4, rfl, hO4⟩
    have hX := HDONE.out w4 v4 hB4 (by rw [HL4A.out]; exact hO4)
    have k2 := HC2.out w4 hB4
    clear hB4 hO4 HC HDONE
    go_wp2
    go_loopw [2, 37] (fun out i wr => ∃ k : Nat, k ≤ (A.get h).kids.length ∧ i = .int .i64 k ∧ Hid (Below B w3 wr ∧ wr.ownsRow B 3 1 out (l4 ++ ((A.get h).kids.take k).flatMap A.walk).length ((l4 ++ ((A.get h).kids.take k).flatMap A.walk).map intv))) (fun _ i _ => (A.get h).kids.length - (intOf i).toNat)
    case atStart => exact ⟨0, Nat.zero_le _, rfl, hX⟩
    case round =>
      obtain ⟨k, hk, rfl, hT⟩ := hrel
      by_cases hlt : k < (A.get h).kids.length
      · obtain ⟨b1, o1, rfl, -, hcs⟩ := (HK3.out wr hT.out.1).cells (by omega)
        obtain ⟨x, hx⟩ : ∃ x, (A.get h).kids[k]? = some x := ⟨_, List.getElem?_eq_getElem hlt⟩
        have d1 := hcs k x hx
        have hst := flat_take A.walk hx
        have hxm := List.mem_of_getElem? hx
        have hl2 := flat_take_len (A.get h).kids (k + 1) A.walk
        rw [hst, List.length_append] at hl2
        have HC := Lib.hid (HIK.out x hxm _ _ wr (HA3.out.low hT.out.1 HRHO.out) (Nat.le_trans hB3s hT.out.1.size) hT.out.2 (by have := HL4L.out; rw [List.length_append]; omega))
        have HST := Lib.hid hst
        have HBT := Lib.hid hT.out.1
        clear hcs hx hst hxm hl2 hT
        go_wp2_with fail
        refine HC.out.mono ?_
        rintro e w5 ⟨hB5, v5, rfl, hO5⟩
        have HX : Hid (Below B w3 w5 ∧ w5.ownsRow B 3 1 v5 (l4 ++ ((A.get h).kids.take (k + 1)).flatMap A.walk).length ((l4 ++ ((A.get h).kids.take (k + 1)).flatMap A.walk).map intv)) := Lib.hid ⟨HBT.out.trans hB5, by rw [HST.out, ← List.append_assoc]; exact hO5⟩
        clear hB5 hO5 HC
        go_wp2
        go_roundw
        case rel => exact ⟨k + 1, hlt, by go_num, HX⟩
        case measure => simp [intOf]; omega
      · have hkl : (A.get h).kids.take k = (A.get h).kids := List.take_of_length_le (by omega)
        have hO := hT.out.2
        rw [hkl, HL4.out] at hO
        have HX := Lib.hid (And.intro (HB3.out.trans hT.out.1) hO)
        clear hO hT hkl
        go_wp2
        go_ret
        exact ⟨HX.out.1, _, rfl, HX.out.2⟩

end Go.Proofs.YtpicinjcmjaogaaGreat
