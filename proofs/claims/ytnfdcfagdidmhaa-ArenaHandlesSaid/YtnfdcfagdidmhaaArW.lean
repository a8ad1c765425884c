/-
  What holds of every arena: links agree. No program here.
-/
import Derived.Test.YtnfdcfagdidmhaaAr
namespace Go.Proofs.Ytnfdcfagdidmhaa

/-- The parent of a node has it among its children, once. -/
def Ar.LinkOK (A : Ar) (h : Int) : Prop := (A.get h).parent ≠ 0 → A.has (A.get h).parent ∧ h ∈ (A.get (A.get h).parent).kids ∧ (A.get (A.get h).parent).kids.Nodup

/-- The step of 'up'. -/
def upStep (A : Ar) (hosts : Bool) (h : Int) : Int := if hosts then A.up h else (A.get h).parent

structure Ar.WF (A : Ar) : Prop where
  link : ∀ h, A.has h → A.LinkOK h
  kids : ∀ p, A.has p → ∀ k ∈ (A.get p).kids, A.has k ∧ (A.get k).parent = p
  nodup : ∀ p, A.has p → (A.get p).kids.Nodup
  way : ∀ h, A.has h → ∃ path, A.Way (upStep A true) h path
  inert : A.inert.length = A.ns.length + 1

theorem Ar.get_of {A : Ar} {h : Int} (hh : A.has h) : ∃ hi : h.toNat - 1 < A.ns.length, A.get h = A.ns[h.toNat - 1] := by
  obtain ⟨h1, h2⟩ := hh
  unfold Ar.n at h2
  exact ⟨by omega, by simp [Ar.get, show h.toNat - 1 < A.ns.length from by omega]⟩
theorem Ar.mod_n (A : Ar) (x : Int) (f : Nd → Nd) : (A.mod x f).n = A.n := by simp [Ar.mod, Ar.n]
theorem Ar.mod_has (A : Ar) (x : Int) (f : Nd → Nd) (h : Int) : (A.mod x f).has h ↔ A.has h := by unfold Ar.has; rw [Ar.mod_n]
theorem Ar.mod_get {A : Ar} {x h : Int} (f : Nd → Nd) (hx : A.has x) (hh : A.has h) : (A.mod x f).get h = if h = x then f (A.get x) else A.get h := by
  obtain ⟨hi, e⟩ := Ar.get_of hh
  obtain ⟨hj, e'⟩ := Ar.get_of hx
  have h1 := hh.1; have h2 := hx.1
  by_cases hxh : h = x
  · subst hxh
    rw [if_pos rfl]
    simp [Ar.mod, Ar.get, hi]
  · rw [if_neg hxh]
    have : x.toNat - 1 ≠ h.toNat - 1 := by omega
    simp [Ar.mod, Ar.get, this]

theorem Ar.cut_n (A : Ar) (h : Int) : (A.cut h).n = A.n := by
  unfold Ar.cut
  split
  · rfl
  · rw [Ar.mod_n, Ar.mod_n]
theorem Ar.cut_has (A : Ar) (h x : Int) : (A.cut h).has x ↔ A.has x := by unfold Ar.has; rw [Ar.cut_n]
theorem Ar.cut_ns (A : Ar) (h : Int) : (A.cut h).ns.length = A.ns.length := by have := Ar.cut_n A h; unfold Ar.n at this; omega

theorem Ar.cut_kids {A : Ar} (hW : A.WF) {h p : Int} (hh : A.has h) (hp : A.has p) : ((A.cut h).get p).kids = if p = (A.get h).parent then without (A.get p).kids h else (A.get p).kids := by
  unfold Ar.cut
  by_cases hz : (A.get h).parent = 0
  · rw [if_pos hz, if_neg]
    have := hp.1; omega
  · rw [if_neg hz]
    have hpp := (hW.link h hh hz).1
    rw [Ar.mod_get _ ((Ar.mod_has _ _ _ _).2 hh) ((Ar.mod_has _ _ _ _).2 hp), Ar.mod_get _ hpp hp, Ar.mod_get _ hpp hh]
    by_cases h1 : p = h
    · subst h1
      rw [if_pos rfl]
      dsimp only
      by_cases h2 : p = (A.get p).parent
      · rw [if_pos h2, if_pos h2]
        rw [← h2]
      · rw [if_neg h2, if_neg h2]
    · rw [if_neg h1]
      by_cases h2 : p = (A.get h).parent
      · rw [if_pos h2, if_pos h2, h2]
      · rw [if_neg h2, if_neg h2]

/-- A list without repetitions of numbers from 1 to n has at most n elements. -/
theorem len_le_of_nodup : ∀ (n : Nat) (l : List Int), l.Nodup → (∀ x ∈ l, 1 ≤ x ∧ x ≤ (n : Int)) → l.length ≤ n
  | 0, l, _, h => by
    cases l with
    | nil => simp
    | cons x l => have := h x (by simp); omega
  | n + 1, l, hn, h => by
    have h1 := len_le_of_nodup n (l.erase ((n : Int) + 1)) (hn.erase _) (fun x hx => by
      have h2 := h x (List.mem_of_mem_erase hx)
      have h3 : x ≠ (n : Int) + 1 := fun e => by subst e; exact (List.Nodup.not_mem_erase hn) hx
      push_cast at h2; omega)
    have h4 : l.length ≤ (l.erase ((n : Int) + 1)).length + 1 := by rw [List.length_erase]; split <;> omega
    omega

theorem Ar.kids_len {A : Ar} (hW : A.WF) {p : Int} (hp : A.has p) : (A.get p).kids.length ≤ A.ns.length :=
  len_le_of_nodup _ _ (hW.nodup p hp) (fun x hx => (hW.kids p hp x hx).1)

theorem without_length (l : List Int) (h : Int) : (without l h).length ≤ l.length := List.length_filter_le _ _

theorem putIn_zero {l : List Int} {node : Int} (h : (0 : Int) ∉ l) : putIn l node 0 = l ++ [node] := by
  unfold putIn
  rw [if_pos rfl]
  congr 1
  induction l with
  | nil => rfl
  | cons a l ih =>
    simp at h
    simp only [List.flatMap_cons]
    rw [if_neg (fun e => h.1 e.symm), ih h.2]; rfl
theorem putIn_at {l : List Int} {node before : Int} {i : Nat} (hb : before ≠ 0) (hn : l.Nodup) (hi : l[i]? = some before) : putIn l node before = l.take i ++ node :: l.drop i := by
  unfold putIn
  rw [if_neg hb, List.append_nil]
  have hno : ∀ l : List Int, before ∉ l → (l.flatMap fun x => if x = before then [node, x] else [x]) = l := by
    intro l hl
    induction l with
    | nil => rfl
    | cons a l ih =>
      simp at hl
      simp only [List.flatMap_cons]
      rw [if_neg (fun e => hl.1 e.symm), ih hl.2]; rfl
  induction l generalizing i with
  | nil => simp at hi
  | cons a l ih =>
    rw [List.nodup_cons] at hn
    cases i with
    | zero =>
      simp at hi
      subst hi
      simp only [List.flatMap_cons]
      rw [hno l hn.1]; simp
    | succ i =>
      simp at hi
      have ha : a ≠ before := fun e => by subst e; exact hn.1 (List.mem_of_getElem? hi)
      simp only [List.flatMap_cons]
      rw [if_neg ha, ih hn.2 hi]; rfl

/-- What 'Put' finds behind the cut. -/
theorem Ar.put_facts {A : Ar} (hW : A.WF) {parent node before : Int} (hp : A.has parent) (hn : A.has node) (hb : before ≠ 0 → A.has before ∧ before ≠ node ∧ (A.get before).parent = parent) :
    ((A.cut node).get parent).kids.length ≤ A.ns.length ∧ (before ≠ 0 → before ∈ ((A.cut node).get parent).kids) ∧
    (∀ i : Nat, before ≠ 0 → ((A.cut node).get parent).kids[i]? = some before → putIn ((A.cut node).get parent).kids node before = ((A.cut node).get parent).kids.take i ++ node :: ((A.cut node).get parent).kids.drop i) ∧
    (before = 0 → putIn ((A.cut node).get parent).kids node before = ((A.cut node).get parent).kids ++ [node]) := by
  rw [Ar.cut_kids hW hn hp]
  have hlen := Ar.kids_len hW hp
  have hnd := hW.nodup parent hp
  have hz : (0 : Int) ∉ (A.get parent).kids := fun h0 => by have := (hW.kids parent hp 0 h0).1.1; omega
  have hbm : before ≠ 0 → before ∈ (A.get parent).kids := fun h => by
    obtain ⟨h1, _, h3⟩ := hb h
    have := (hW.link before h1 (by rw [h3]; have := hp.1; omega)).2.1
    rwa [h3] at this
  by_cases he : parent = (A.get node).parent
  · rw [if_pos he]
    refine ⟨Nat.le_trans (without_length _ _) hlen, fun h => ?_, fun i h hi => putIn_at h (hnd.filter _) hi, fun h => ?_⟩
    · exact List.mem_filter.2 ⟨hbm h, by simpa using (hb h).2.1⟩
    · subst h; exact putIn_zero (fun h0 => hz ((List.mem_filter.1 h0).1))
  · rw [if_neg he]
    exact ⟨hlen, hbm, fun i h hi => putIn_at h hnd hi, fun h => by subst h; exact putIn_zero hz⟩

theorem way_unique {A : Ar} {up : Int → Int} : ∀ {l l' : List Int} {h : Int}, A.Way up h l → A.Way up h l' → l = l'
  | [], [], _, _, _ => rfl
  | [], x :: l', h, h1, h2 => by
    have e : h = 0 := h1
    obtain ⟨rfl, hh, _⟩ := h2
    have := hh.1; omega
  | x :: l, [], h, h1, h2 => by
    have e : h = 0 := h2
    obtain ⟨rfl, hh, _⟩ := h1
    have := hh.1; omega
  | x :: l, y :: l', h, h1, h2 => by
    obtain ⟨rfl, _, h3⟩ := h1
    obtain ⟨rfl, _, h4⟩ := h2
    rw [way_unique h3 h4]
theorem way_tail {A : Ar} {up : Int → Int} : ∀ {l1 l2 : List Int} {h x : Int}, A.Way up h (l1 ++ x :: l2) → A.Way up x (x :: l2)
  | [], l2, h, x, hw => by obtain ⟨rfl, h1, h2⟩ := hw; exact ⟨rfl, h1, h2⟩
  | y :: l1, l2, h, x, hw => by obtain ⟨_, _, h2⟩ := hw; exact way_tail h2
theorem way_nodup {A : Ar} {up : Int → Int} : ∀ {l : List Int} {h : Int}, A.Way up h l → l.Nodup
  | [], _, _ => List.nodup_nil
  | x :: l, h, hw => by
    obtain ⟨rfl, h1, h2⟩ := hw
    refine List.nodup_cons.2 ⟨fun hm => ?_, way_nodup h2⟩
    obtain ⟨l1, l2, rfl⟩ := List.append_of_mem hm
    have h3 := way_unique (way_tail h2) (show A.Way up x (x :: (l1 ++ x :: l2)) from ⟨rfl, h1, h2⟩)
    have h4 := congrArg List.length h3
    simp at h4
    omega
theorem way_has {A : Ar} {up : Int → Int} : ∀ {l : List Int} {h : Int}, A.Way up h l → ∀ x ∈ l, A.has x
  | [], _, _, x, hx => by simp at hx
  | y :: l, h, hw, x, hx => by
    obtain ⟨rfl, h1, h2⟩ := hw
    rcases List.mem_cons.1 hx with rfl | hx
    · exact h1
    · exact way_has h2 x hx
theorem way_len {A : Ar} {up : Int → Int} {l : List Int} {h : Int} (hw : A.Way up h l) : l.length ≤ A.ns.length :=
  len_le_of_nodup _ _ (way_nodup hw) (fun x hx => way_has hw x hx)

/-- The way up, with fuel. -/
def wayF (A : Ar) (up : Int → Int) : Nat → Int → List Int
  | 0, _ => []
  | n + 1, h => if A.has h then h :: wayF A up n (up h) else []
theorem wayF_eq {A : Ar} {up : Int → Int} : ∀ {n : Nat} {l : List Int} {h : Int}, A.Way up h l → l.length ≤ n → wayF A up n h = l
  | 0, [], _, _, _ => rfl
  | 0, x :: l, _, _, hn => by simp at hn
  | n + 1, [], h, hw, _ => by
    have e : h = 0 := hw
    rw [wayF, if_neg (by subst e; exact fun hh => by have := hh.1; omega)]
  | n + 1, x :: l, h, hw, hn => by
    obtain ⟨rfl, h1, h2⟩ := hw
    rw [wayF, if_pos h1, wayF_eq h2 (by simpa using hn)]
def Ar.waySt (A : Ar) (hosts : Bool) (h : Int) : List Int := wayF A (upStep A hosts) A.ns.length h
theorem Ar.WF.wayOf {A : Ar} (hW : A.WF) {h : Int} (hh : A.has h) : A.Way (upStep A true) h (A.waySt true h) := by
  obtain ⟨l, hl⟩ := hW.way h hh
  rw [Ar.waySt, wayF_eq hl (way_len hl)]; exact hl
def Ar.contains (A : Ar) (top h : Int) : Bool := decide (A.has top ∧ A.has h ∧ top ∈ A.waySt true h)

def Ar.put (A : Ar) (parent node before : Int) : Int × Ar :=
  if A.allowed parent node before (A.contains node parent) ≠ 0 then (A.allowed parent node before (A.contains node parent), A) else (0, A.place parent node before)

end Go.Proofs.Ytnfdcfagdidmhaa
