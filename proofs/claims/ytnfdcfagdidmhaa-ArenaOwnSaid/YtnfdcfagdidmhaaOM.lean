/-
  Lists and descriptions of the caller's own, that may be written: what stays true of them.
-/
import Derived.Test.YtnfdcfagdidmhaaPL3
import Derived.Test.YtnfdcfagdidmhaaOA
namespace Go.Proofs.Ytnfdcfagdidmhaa
open Go.RowKit
set_option linter.unusedVariables false

/-- A list of integers in a block of S. -/
def Lk (w : World) (S : Nat → Prop) (kv : Value) (len : Nat) : Prop := ∃ xs, w.ownsRow 0 3 1 kv len xs ∧ ∀ g, kv.ownBlock = some g → S g
/-- A list of attributes in a block of S, with strings of at most B bytes. -/
def La (w : World) (S : Nat → Prop) (av : Value) (len B : Nat) : Prop :=
  ∃ l : List AttrD, l.length = len ∧ w.ownsRow 0 55 3 av len (l.flatMap attrCells) ∧ (∀ a ∈ l, a.2.1.size ≤ B ∧ a.2.2.size ≤ B) ∧ ∀ g, av.ownBlock = some g → S g
def LooseM (w : World) (S : Nat → Prop) (v : Value) (m B : Nat) : Prop :=
  ∃ rows : List (List Value), w.ownsRow 0 36 13 v m rows.flatten ∧ rows.length = m ∧ (∀ g, v.ownBlock = some g → S g) ∧
    ∀ r ∈ rows, ∃ (n : Nd) (kv av : Value), r = n.cells kv av ∧ Lk w S kv n.kids.length ∧ La w S av n.attrs.length B ∧ n.kids.length ≤ 1000000 ∧ n.attrs.length ≤ 20

theorem Lk.upd {w w' : World} {S F : Nat → Prop} {kv : Value} {len : Nat} (h : Lk w S kv len) (hu : Upd F w w') (hF : ∀ k, S k → ¬ F k) : Lk w' S kv len := by
  obtain ⟨xs, h1, h2⟩ := h
  exact ⟨xs, owns_upd h1 hu (fun k hk => hF k (h2 k hk)), h2⟩
theorem La.upd {w w' : World} {S F : Nat → Prop} {av : Value} {len B : Nat} (h : La w S av len B) (hu : Upd F w w') (hF : ∀ k, S k → ¬ F k) : La w' S av len B := by
  obtain ⟨l, h0, h1, h2, h3⟩ := h
  exact ⟨l, h0, owns_upd h1 hu (fun k hk => hF k (h3 k hk)), h2, h3⟩
theorem LooseM.upd {w w' : World} {S F : Nat → Prop} {v : Value} {m B : Nat} (h : LooseM w S v m B) (hu : Upd F w w') (hF : ∀ k, S k → ¬ F k) : LooseM w' S v m B := by
  obtain ⟨rows, h1, h2, h3, h4⟩ := h
  refine ⟨rows, owns_upd h1 hu (fun k hk => hF k (h3 k hk)), h2, h3, fun r hr => ?_⟩
  obtain ⟨n, kv, av, e, q1, q2, q3, q4⟩ := h4 r hr
  exact ⟨n, kv, av, e, q1.upd hu hF, q2.upd hu hF, q3, q4⟩
theorem Lk.mono {w : World} {S T : Nat → Prop} {kv : Value} {len : Nat} (h : Lk w S kv len) (hs : ∀ k, S k → T k) : Lk w T kv len := by
  obtain ⟨xs, h1, h2⟩ := h
  exact ⟨xs, h1, fun g hg => hs g (h2 g hg)⟩
theorem La.mono {w : World} {S T : Nat → Prop} {av : Value} {len B C : Nat} (h : La w S av len B) (hs : ∀ k, S k → T k) (hb : B ≤ C) : La w T av len C := by
  obtain ⟨l, h0, h1, h2, h3⟩ := h
  exact ⟨l, h0, h1, fun a ha => ⟨Nat.le_trans (h2 a ha).1 hb, Nat.le_trans (h2 a ha).2 hb⟩, fun g hg => hs g (h3 g hg)⟩

def Asrt.lk (kv : Value) (len : Nat) : Asrt where
  P w S := (∀ k, S k → k < w.heap.size) ∧ Lk w S kv len
  upd := by
    rintro w w' S F ⟨h1, h2⟩ hu hF
    exact ⟨fun k hk => Nat.lt_of_lt_of_le (h1 k hk) hu.size, h2.upd hu hF⟩
  lt := by
    rintro w S ⟨h1, _⟩ k hk
    exact h1 k hk
def Asrt.la (av : Value) (len B : Nat) : Asrt where
  P w S := (∀ k, S k → k < w.heap.size) ∧ La w S av len B
  upd := by
    rintro w w' S F ⟨h1, h2⟩ hu hF
    exact ⟨fun k hk => Nat.lt_of_lt_of_le (h1 k hk) hu.size, h2.upd hu hF⟩
  lt := by
    rintro w S ⟨h1, _⟩ k hk
    exact h1 k hk
def Asrt.loose (v : Value) (m B : Nat) : Asrt where
  P w S := (∀ k, S k → k < w.heap.size) ∧ LooseM w S v m B
  upd := by
    rintro w w' S F ⟨h1, h2⟩ hu hF
    exact ⟨fun k hk => Nat.lt_of_lt_of_le (h1 k hk) hu.size, h2.upd hu hF⟩
  lt := by
    rintro w S ⟨h1, _⟩ k hk
    exact h1 k hk

/-- Whatever cell is stored: a row stays a row, of other values. -/
theorem owns_anyset {w : World} {e : TypeId} {size : Nat} {v : Value} {n : Nat} {xs : List Value} (h : w.ownsRow 0 e size v n xs) (b j : Nat) (u : Value) : ∃ xs', (w.setCell ⟨b, j, none⟩ u).ownsRow 0 e size v n xs' := by
  rcases h.2 with ⟨rfl, h0⟩ | ⟨g, cap, cur, rfl, hb, hg, hn, hc, hs, ht⟩
  · exact ⟨xs, h.1, .inl ⟨rfl, h0⟩⟩
  · by_cases hgb : g = b
    · subst hgb
      have := owns_set h j u
      exact ⟨_, this⟩
    · exact ⟨xs, h.1, .inr ⟨g, cap, cur, rfl, hb, by rw [heap_set_other _ _ _ _ hgb]; exact hg, hn, hc, hs, ht⟩⟩
theorem owns_otherset {w : World} {e : TypeId} {size : Nat} {v : Value} {n : Nat} {xs : List Value} (h : w.ownsRow 0 e size v n xs) {b j : Nat} (u : Value) {cs : Array Value} {t : TypeId} (hb : w.heap[b]? = some (.cells cs t (0, 0))) (hne : t ≠ e) : (w.setCell ⟨b, j, none⟩ u).ownsRow 0 e size v n xs := by
  rcases h.2 with ⟨rfl, h0⟩ | ⟨g, cap, cur, rfl, hb0, hg, hn, hc, hs, ht⟩
  · exact ⟨h.1, .inl ⟨rfl, h0⟩⟩
  · have hgb : g ≠ b := by
      rintro rfl
      rw [hg] at hb
      simp at hb
      exact hne hb.2.symm
    exact ⟨h.1, .inr ⟨g, cap, cur, rfl, hb0, by rw [heap_set_other _ _ _ _ hgb]; exact hg, hn, hc, hs, ht⟩⟩
theorem Lk.set {w : World} {S : Nat → Prop} {kv : Value} {len : Nat} (h : Lk w S kv len) (b j : Nat) (u : Value) : Lk (w.setCell ⟨b, j, none⟩ u) S kv len := by
  obtain ⟨xs, h1, h2⟩ := h
  obtain ⟨xs', h3⟩ := owns_anyset h1 b j u
  exact ⟨xs', h3, h2⟩
theorem La.setInt {w : World} {S : Nat → Prop} {av : Value} {len B : Nat} (h : La w S av len B) {b : Nat} {cs : Array Value} (hb : w.heap[b]? = some (.cells cs 3 (0, 0))) (j : Nat) (u : Value) : La (w.setCell ⟨b, j, none⟩ u) S av len B := by
  obtain ⟨l, h0, h1, h2, h3⟩ := h
  exact ⟨l, h0, owns_otherset h1 u hb (by decide), h2, h3⟩
theorem LooseM.setInt {w : World} {S : Nat → Prop} {v : Value} {m B : Nat} (h : LooseM w S v m B) {b : Nat} {cs : Array Value} (hb : w.heap[b]? = some (.cells cs 3 (0, 0))) (j : Nat) (u : Value) : LooseM (w.setCell ⟨b, j, none⟩ u) S v m B := by
  obtain ⟨rows, h1, h2, h3, h4⟩ := h
  refine ⟨rows, owns_otherset h1 u hb (by decide), h2, h3, fun r hr => ?_⟩
  obtain ⟨n, kv, av, e, q1, q2, q3, q4⟩ := h4 r hr
  exact ⟨n, kv, av, e, q1.set b j u, q2.setInt hb j u, q3, q4⟩

theorem attrs_set_name (l : List AttrD) (k : Nat) (s : ByteArray) : (l.flatMap attrCells).set (k * 3 + 1) (.string s) = (l.modify k (fun a => (a.1, s, a.2.2))).flatMap attrCells := by
  rw [attr_rows, show k * 3 + 1 = 3 * k + 1 by omega, flatten_set _ (fun r hr => by obtain ⟨a, _, rfl⟩ := List.mem_map.1 hr; rfl) k 1 (by omega), attr_rows]
  congr 1
  apply List.ext_getElem?
  intro i
  rw [List.getElem?_modify, List.getElem?_map, List.getElem?_map, List.getElem?_modify]
  cases l[i]? with
  | none => simp
  | some a => by_cases h : k = i <;> simp [h, attrCells]
theorem attrs_set_value (l : List AttrD) (k : Nat) (s : ByteArray) : (l.flatMap attrCells).set (k * 3 + 2) (.string s) = (l.modify k (fun a => (a.1, a.2.1, s))).flatMap attrCells := by
  rw [attr_rows, show k * 3 + 2 = 3 * k + 2 by omega, flatten_set _ (fun r hr => by obtain ⟨a, _, rfl⟩ := List.mem_map.1 hr; rfl) k 2 (by omega), attr_rows]
  congr 1
  apply List.ext_getElem?
  intro i
  rw [List.getElem?_modify, List.getElem?_map, List.getElem?_map, List.getElem?_modify]
  cases l[i]? with
  | none => simp
  | some a => by_cases h : k = i <;> simp [h, attrCells]
theorem mem_modify {α : Type} {l : List α} {k : Nat} {f : α → α} {x : α} (h : x ∈ l.modify k f) : x ∈ l ∨ ∃ y ∈ l, x = f y := by
  obtain ⟨i, hi⟩ := List.mem_iff_getElem?.1 h
  rw [List.getElem?_modify] at hi
  cases hq : l[i]? with
  | none => rw [hq] at hi; simp at hi
  | some q =>
    rw [hq] at hi
    have hm := List.mem_of_getElem? hq
    simp only [Option.map_eq_map, Option.map_some, Option.some.injEq] at hi
    split at hi
    · exact .inr ⟨q, hm, hi.symm⟩
    · have hi : q = x := hi
      rw [← hi]; exact .inl hm

theorem La.setName {w : World} {S : Nat → Prop} {av : Value} {len B : Nat} (h : La w S av len B) (b k : Nat) {s : ByteArray} (hs : s.size ≤ B + 1) : La (w.setCell ⟨b, k * 3 + 1, none⟩ (.string s)) S av len (B + 1) := by
  obtain ⟨l, h0, h1, h2, h3⟩ := h
  rcases h1.2 with ⟨rfl, hz⟩ | ⟨g, cap, cur, rfl, hb, hg, hn, hc, hsz, ht⟩
  · exact ⟨l, h0, ⟨h1.1, .inl ⟨rfl, hz⟩⟩, fun a ha => ⟨Nat.le_succ_of_le (h2 a ha).1, Nat.le_succ_of_le (h2 a ha).2⟩, h3⟩
  · by_cases hgb : g = b
    · subst hgb
      have := owns_set h1 (k * 3 + 1) (.string s)
      rw [attrs_set_name] at this
      refine ⟨_, by rw [List.length_modify]; exact h0, this, fun a ha => ?_, h3⟩
      rcases mem_modify ha with ha | ⟨y, hy, rfl⟩
      · exact ⟨Nat.le_succ_of_le (h2 a ha).1, Nat.le_succ_of_le (h2 a ha).2⟩
      · exact ⟨hs, Nat.le_succ_of_le (h2 y hy).2⟩
    · exact ⟨l, h0, ⟨h1.1, .inr ⟨g, cap, cur, rfl, hb, by rw [heap_set_other _ _ _ _ hgb]; exact hg, hn, hc, hsz, ht⟩⟩, fun a ha => ⟨Nat.le_succ_of_le (h2 a ha).1, Nat.le_succ_of_le (h2 a ha).2⟩, h3⟩
theorem LooseM.setName {w : World} {S : Nat → Prop} {v : Value} {m B : Nat} (h : LooseM w S v m B) {b : Nat} {cs : Array Value} (hb : w.heap[b]? = some (.cells cs 55 (0, 0))) (k : Nat) {s : ByteArray} (hs : s.size ≤ B + 1) : LooseM (w.setCell ⟨b, k * 3 + 1, none⟩ (.string s)) S v m (B + 1) := by
  obtain ⟨rows, h1, h2, h3, h4⟩ := h
  refine ⟨rows, owns_otherset h1 _ hb (by decide), h2, h3, fun r hr => ?_⟩
  obtain ⟨n, kv, av, e, q1, q2, q3, q4⟩ := h4 r hr
  exact ⟨n, kv, av, e, q1.set b _ _, q2.setName b k hs, q3, q4⟩

end Go.Proofs.Ytnfdcfagdidmhaa
