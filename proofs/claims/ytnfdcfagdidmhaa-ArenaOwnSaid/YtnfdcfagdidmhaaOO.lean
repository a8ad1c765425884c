/-
  Owned things that may be written: reads and stores.
-/
import Derived.Test.YtnfdcfagdidmhaaOM
namespace Go.Proofs.Ytnfdcfagdidmhaa
open Go.RowKit
set_option linter.unusedVariables false

theorem Lk.at {w : World} {S : Nat → Prop} {kv : Value} {len i : Nat} (h : Lk w S kv len) (hi : i < len) : ∃ (g c : Nat) (cs : Array Value), kv = .slice (some ⟨g, 0, none⟩) len c ∧ len ≤ c ∧ c ≤ maxLen ∧ S g ∧ w.heap[g]? = some (.cells cs 3 (0, 0)) ∧ (∃ u, w.cell? ⟨g, i, none⟩ = some u) ∧ ∀ j, w.frozen? ⟨g, j, none⟩ = false := by
  obtain ⟨xs, h1, h2⟩ := h
  have hx := h1.1
  rcases h1.2 with ⟨rfl, hz⟩ | ⟨g, cap, cur, rfl, hb, hg, hn, hc, hsz, ht⟩
  · omega
  · refine ⟨g, cap, cur, rfl, hn, hc, h2 g rfl, hg, ?_, fun j => frozen_of_row w g _ _ _ hg⟩
    rw [cell_of_row w g _ _ _ _ hg]
    exact ⟨_, Array.getElem?_eq_getElem (by omega)⟩
theorem La.at {w : World} {S : Nat → Prop} {av : Value} {len B i : Nat} (h : La w S av len B) (hi : i < len) : ∃ (g c : Nat) (cs : Array Value) (a : AttrD), av = .slice (some ⟨g, 0, none⟩) len c ∧ len ≤ c ∧ c ≤ maxLen ∧ S g ∧ w.heap[g]? = some (.cells cs 55 (0, 0)) ∧ w.cell? ⟨g, i * 3 + 1, none⟩ = some (.string a.2.1) ∧ w.cell? ⟨g, i * 3 + 2, none⟩ = some (.string a.2.2) ∧ a.2.1.size ≤ B ∧ a.2.2.size ≤ B ∧ ∀ j, w.frozen? ⟨g, j, none⟩ = false := by
  obtain ⟨l, h0, h1, h2, h3⟩ := h
  rcases owns_cases h1 with ⟨-, hz, -⟩ | ⟨g, c, rfl, hcell⟩
  · omega
  · rcases h1.2 with ⟨hq, hz⟩ | ⟨g', cap, cur, hq, hb, hg, hn, hc, hsz, ht⟩
    · omega
    · simp only [Value.slice.injEq, Option.some.injEq, Addr.mk.injEq, and_true, true_and] at hq
      obtain ⟨rfl, rfl⟩ := hq
      obtain ⟨a, ha⟩ : ∃ a, l[i]? = some a := ⟨_, List.getElem?_eq_getElem (by omega)⟩
      have hm := h2 a (List.mem_of_getElem? ha)
      refine ⟨g, c, cur, a, rfl, hn, hc, h3 g rfl, hg, ?_, ?_, hm.1, hm.2, fun j => frozen_of_row w g _ _ _ hg⟩
      · refine hcell _ _ ?_
        rw [show i * 3 + 1 = 3 * i + 1 by omega, attr_get ha 1 (by omega)]; rfl
      · refine hcell _ _ ?_
        rw [show i * 3 + 2 = 3 * i + 2 by omega, attr_get ha 2 (by omega)]; rfl
theorem LooseM.form {w : World} {S : Nat → Prop} {v : Value} {m B : Nat} (h : LooseM w S v m B) : ∃ a c, v = .slice a m c ∧ m ≤ c ∧ c ≤ maxLen := by
  obtain ⟨rows, h1, -⟩ := h
  rcases h1.2 with ⟨rfl, rfl⟩ | ⟨g, cap, cur, rfl, hb, hg, hn, hc, hsz, ht⟩
  · exact ⟨_, _, rfl, Nat.le_refl _, Nat.zero_le _⟩
  · exact ⟨_, _, rfl, hn, hc⟩
theorem Lk.form {w : World} {S : Nat → Prop} {v : Value} {m : Nat} (h : Lk w S v m) : ∃ a c, v = .slice a m c ∧ m ≤ c ∧ c ≤ maxLen := by
  obtain ⟨xs, h1, -⟩ := h
  rcases h1.2 with ⟨rfl, rfl⟩ | ⟨g, cap, cur, rfl, hb, hg, hn, hc, hsz, ht⟩
  · exact ⟨_, _, rfl, Nat.le_refl _, Nat.zero_le _⟩
  · exact ⟨_, _, rfl, hn, hc⟩
theorem La.form {w : World} {S : Nat → Prop} {v : Value} {m B : Nat} (h : La w S v m B) : ∃ a c, v = .slice a m c ∧ m ≤ c ∧ c ≤ maxLen := by
  obtain ⟨xs, -, h1, -⟩ := h
  rcases h1.2 with ⟨rfl, rfl⟩ | ⟨g, cap, cur, rfl, hb, hg, hn, hc, hsz, ht⟩
  · exact ⟨_, _, rfl, Nat.le_refl _, Nat.zero_le _⟩
  · exact ⟨_, _, rfl, hn, hc⟩
theorem LooseM.at {w : World} {S : Nat → Prop} {v : Value} {m B j : Nat} (h : LooseM w S v m B) (hj : j < m) : ∃ (g c : Nat) (n : Nd) (kv av : Value), v = .slice (some ⟨g, 0, none⟩) m c ∧ NodeF w g (j * 13) n kv av ∧ Lk w S kv n.kids.length ∧ La w S av n.attrs.length B ∧ n.kids.length ≤ 1000000 ∧ n.attrs.length ≤ 20 := by
  obtain ⟨rows, h1, h2, h3, h4⟩ := h
  rcases owns_cases h1 with ⟨-, hz, -⟩ | ⟨g, c, rfl, hcell⟩
  · omega
  · obtain ⟨r, hr⟩ : ∃ r, rows[j]? = some r := ⟨_, List.getElem?_eq_getElem (by omega)⟩
    obtain ⟨n, kv, av, rfl, q1, q2, q3, q4⟩ := h4 r (List.mem_of_getElem? hr)
    have h13 : ∀ r ∈ rows, r.length = 13 := fun r hr => by
      obtain ⟨n, kv, av, e, -⟩ := h4 r hr
      rw [e]; exact Nd.cells_length _ _ _
    have hc : ∀ q u, q < 13 → (n.cells kv av)[q]? = some u → w.cell? ⟨g, j * 13 + q, none⟩ = some u := fun q u hq hu => by
      refine hcell _ _ ?_
      rw [show j * 13 + q = 13 * j + q by omega, flatten_get h13 j q hq, hr]; exact hu
    exact ⟨g, c, n, kv, av, rfl, ⟨hc 0 _ (by omega) rfl, hc 1 _ (by omega) rfl, hc 2 _ (by omega) rfl, hc 3 _ (by omega) rfl, hc 4 _ (by omega) rfl, hc 5 _ (by omega) rfl, hc 6 _ (by omega) rfl, hc 7 _ (by omega) rfl, hc 8 _ (by omega) rfl, hc 9 _ (by omega) rfl, hc 10 _ (by omega) rfl, hc 11 _ (by omega) rfl, hc 12 _ (by omega) rfl⟩, q1, q2, q3, q4⟩

/-- A thing at the front is written inside its own blocks. -/
theorem Own.writ {w0 w : World} {D : Nat} {a a' : Asrt} {l : List Asrt} (o : Own w0 D (a :: l) w) (b j : Nat) (u : Value) (h : ∀ S, a.P w S → S b ∧ a'.P (w.setCell ⟨b, j, none⟩ u) S) : Own w0 D (a' :: l) (w.setCell ⟨b, j, none⟩ u) := by
  obtain ⟨S1, hP, hf⟩ := o.front
  obtain ⟨hb, hP'⟩ := h S1 hP
  exact hf _ _ ⟨S1, hP', (Upd.refl S1 w).setCell (p := ⟨b, j, none⟩) (.inr hb) u, fun _ _ hk => hk⟩
theorem Own.weak {w0 w : World} {D : Nat} {a a' : Asrt} {l : List Asrt} (o : Own w0 D (a :: l) w) (h : ∀ S, a.P w S → a'.P w S) : Own w0 D (a' :: l) w := by
  obtain ⟨S1, hP, hf⟩ := o.front
  exact hf _ _ ⟨S1, h S1 hP, Upd.refl S1 w, fun _ _ hk => hk⟩
theorem Own.frontP {w0 w : World} {D : Nat} {a : Asrt} {l : List Asrt} (o : Own w0 D (a :: l) w) : ∃ S, a.P w S := by
  obtain ⟨S1, hP, _⟩ := o.front
  exact ⟨S1, hP⟩
theorem Own.toLa {w0 w : World} {D : Nat} {v : Value} {al : List AttrD} {B : Nat} {l : List Asrt} (o : Own w0 D (.row 55 3 v al.length (al.flatMap attrCells) :: l) w) (hB : ∀ a ∈ al, a.2.1.size ≤ B ∧ a.2.2.size ≤ B) : Own w0 D (.la v al.length B :: l) w :=
  o.weak (fun S hP => ⟨fun k hk => (owns_block hP.1 k ((hP.2 k).1 hk)).2, al, rfl, hP.1, hB, fun g hg => (hP.2 g).2 hg⟩)
theorem Own.toLk {w0 w : World} {D : Nat} {v : Value} {x : List Int} {l : List Asrt} (o : Own w0 D (.ints v x :: l) w) : Own w0 D (.lk v x.length :: l) w :=
  o.weak (fun S hP => ⟨fun k hk => (owns_block hP.1 k ((hP.2 k).1 hk)).2, _, hP.1, fun g hg => (hP.2 g).2 hg⟩)
theorem La.setValue {w : World} {S : Nat → Prop} {av : Value} {len B : Nat} (h : La w S av len B) (b k : Nat) {s : ByteArray} (hs : s.size ≤ B + 1) : La (w.setCell ⟨b, k * 3 + 2, none⟩ (.string s)) S av len (B + 1) := by
  obtain ⟨l, h0, h1, h2, h3⟩ := h
  rcases h1.2 with ⟨rfl, hz⟩ | ⟨g, cap, cur, rfl, hb, hg, hn, hc, hsz, ht⟩
  · exact ⟨l, h0, ⟨h1.1, .inl ⟨rfl, hz⟩⟩, fun a ha => ⟨Nat.le_succ_of_le (h2 a ha).1, Nat.le_succ_of_le (h2 a ha).2⟩, h3⟩
  · by_cases hgb : g = b
    · subst hgb
      have := owns_set h1 (k * 3 + 2) (.string s)
      rw [attrs_set_value] at this
      refine ⟨_, by rw [List.length_modify]; exact h0, this, fun a ha => ?_, h3⟩
      rcases mem_modify ha with ha | ⟨y, hy, rfl⟩
      · exact ⟨Nat.le_succ_of_le (h2 a ha).1, Nat.le_succ_of_le (h2 a ha).2⟩
      · exact ⟨Nat.le_succ_of_le (h2 y hy).1, hs⟩
    · exact ⟨l, h0, ⟨h1.1, .inr ⟨g, cap, cur, rfl, hb, by rw [heap_set_other _ _ _ _ hgb]; exact hg, hn, hc, hsz, ht⟩⟩, fun a ha => ⟨Nat.le_succ_of_le (h2 a ha).1, Nat.le_succ_of_le (h2 a ha).2⟩, h3⟩
theorem Own.laValue {w0 w : World} {D B n g c k : Nat} {s : ByteArray} {l : List Asrt} (o : Own w0 D (.la (.slice (some ⟨g, 0, none⟩) n c) n B :: l) w) (hs : s.size ≤ B + 1) : Own w0 D (.la (.slice (some ⟨g, 0, none⟩) n c) n (B + 1) :: l) (w.setCell ⟨g, k * 3 + 2, none⟩ (.string s)) :=
  o.writ g _ _ (fun S hP => ⟨by obtain ⟨_, _, _, _, _, h3⟩ := hP; exact h3 g rfl, fun q hq => by simpa using hP.1 q hq, hP.2.setValue g k hs⟩)
theorem Own.lkSet {w0 w : World} {D n g c k : Nat} {u : Value} {l : List Asrt} (o : Own w0 D (.lk (.slice (some ⟨g, 0, none⟩) n c) n :: l) w) : Own w0 D (.lk (.slice (some ⟨g, 0, none⟩) n c) n :: l) (w.setCell ⟨g, k, none⟩ u) :=
  o.writ g _ _ (fun S hP => ⟨by obtain ⟨_, _, _, h3⟩ := hP; exact h3 g rfl, fun q hq => by simpa using hP.1 q hq, hP.2.set g k u⟩)

end Go.Proofs.Ytnfdcfagdidmhaa
