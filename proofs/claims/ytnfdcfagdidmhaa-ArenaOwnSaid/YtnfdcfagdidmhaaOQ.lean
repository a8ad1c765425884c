/-
  What Node and Nodes return, as things of the caller's own that may be written; a description appended to a list.
-/
import Derived.Test.YtnfdcfagdidmhaaOO
import Derived.Test.YtnfdcfagdidmhaaRD
namespace Go.Proofs.Ytnfdcfagdidmhaa
open Go.RowKit
set_option linter.unusedVariables false

theorem attrs_reads {w : World} {b : Nat} {v : Value} {l : List AttrD} (h : w.ownsRow b 55 3 v l.length (l.flatMap attrCells)) : RAttrs w v l :=
  (show ROwn w (fun _ => 0) 0 55 3 v l.length (l.flatMap attrCells) from ⟨owns_base h (Nat.zero_le _), fun _ _ => rfl⟩).reads
/-- The two lists of a description. -/
def Asrt.pair (kv av : Value) (n : Nd) (B : Nat) : Asrt where
  P w S := (∀ k, S k → k < w.heap.size) ∧ Lk w S kv n.kids.length ∧ La w S av n.attrs.length B
  upd := by
    rintro w w' S F ⟨h1, h2, h3⟩ hu hF
    exact ⟨fun k hk => Nat.lt_of_lt_of_le (h1 k hk) hu.size, h2.upd hu hF, h3.upd hu hF⟩
  lt := by
    rintro w S ⟨h1, _⟩ k hk
    exact h1 k hk
/-- Descriptions, and the two lists of one more. -/
def Asrt.mix (v : Value) (m : Nat) (kv av : Value) (n : Nd) (B : Nat) : Asrt where
  P w S := (∀ k, S k → k < w.heap.size) ∧ LooseM w S v m B ∧ Lk w S kv n.kids.length ∧ La w S av n.attrs.length B
  upd := by
    rintro w w' S F ⟨h1, h2, h3, h4⟩ hu hF
    exact ⟨fun k hk => Nat.lt_of_lt_of_le (h1 k hk) hu.size, h2.upd hu hF, h3.upd hu hF, h4.upd hu hF⟩
  lt := by
    rintro w S ⟨h1, _⟩ k hk
    exact h1 k hk
theorem LooseM.mono {w : World} {S T : Nat → Prop} {v : Value} {m B : Nat} (h : LooseM w S v m B) (hs : ∀ k, S k → T k) : LooseM w T v m B := by
  obtain ⟨rows, h1, h2, h3, h4⟩ := h
  refine ⟨rows, h1, h2, fun g hg => hs g (h3 g hg), fun r hr => ?_⟩
  obtain ⟨n, kv, av, e, q1, q2, q3, q4⟩ := h4 r hr
  exact ⟨n, kv, av, e, q1.mono hs, q2.mono hs (Nat.le_refl _), q3, q4⟩
theorem Own.merge {w0 w : World} {D : Nat} {a b c : Asrt} {l : List Asrt} (o : Own w0 D (a :: b :: l) w) (h : ∀ S T, a.P w S → b.P w T → c.P w (fun k => S k ∨ T k)) : Own w0 D (c :: l) w := by
  obtain ⟨⟨S, ⟨S1, S2, h1, ⟨S3, S4, h3, h4, h5, h6⟩, h7, h8⟩, hS⟩, hl, hs⟩ := o
  refine ⟨⟨S, ⟨fun k => S1 k ∨ S3 k, S4, h S1 S3 h1 h3, h4, fun k hk h4k => ?_, fun k => ?_⟩, hS⟩, hl, hs⟩
  · rcases hk with hk | hk
    · exact h7 k hk ((h6 k).2 (.inr h4k))
    · exact h5 k hk h4k
  · rw [h8 k, h6 k, or_assoc]
theorem Own.mix {w0 w : World} {D : Nat} {v kv av : Value} {m B : Nat} {n : Nd} {l : List Asrt} (o : Own w0 D (.loose v m B :: .pair kv av n B :: l) w) : Own w0 D (.mix v m kv av n B :: l) w :=
  o.merge (fun S T h1 h2 => ⟨fun k hk => hk.elim (h1.1 k) (h2.1 k), h1.2.mono (fun _ => .inl), h2.2.1.mono (fun _ => .inr), h2.2.2.mono (fun _ => .inr) (Nat.le_refl _)⟩)

theorem Node_loose {w0 w : World} {D b : Nat} {A : Ar} {l : List Asrt} {h : Int} (o : Own w0 D l w) (hm : Asrt.arena b A ∈ l) (hS : A.Short) (hI : A.Inv) (hA : A.SmallA) :
    Calls Try.prog 22 #[.pointer (some ⟨b, 0, none⟩), .int .i64 h] w fun e w' => ∃ (n : Nd) (ka : Option Addr) (kc : Nat) (aa : Option Addr) (ac : Nat) (er : Int), e = .returned (.tuple #[.agg (n.cells (.slice ka n.kids.length kc) (.slice aa n.attrs.length ac)).toArray, .int .i64 er]) ∧ n.kids.length ≤ 1000000 ∧ n.attrs.length ≤ 20 ∧
      Own w0 D (.pair (.slice ka n.kids.length kc) (.slice aa n.attrs.length ac) n 400 :: l) w' := by
  obtain ⟨ρ, hAm⟩ := o.arena hm
  refine (Node_any A ρ b h w hAm hS).mono ?_
  rintro e w' ⟨hB, kv, av, rfl, h1, h2⟩
  generalize hn : (if A.has h then A.get h else zeroNd) = n at *
  obtain ⟨ka, kc, rfl⟩ := ownsForm h1
  obtain ⟨aa, ac, rfl⟩ := ownsForm h2
  have hsz : n.kids.length ≤ 1000000 ∧ n.attrs.length ≤ 20 ∧ ∀ a ∈ n.attrs, attrSmall a := by
    by_cases hh : A.has h
    · rw [if_pos hh] at hn
      subst hn
      exact ⟨(hS.get hh).1, (hI.loc h hh).at3, hA _ (List.mem_of_getElem? (Ar.get_some hh))⟩
    · rw [if_neg hh] at hn
      subst hn
      exact ⟨by simp [zeroNd], by simp [zeroNd], fun a ha => by simp [zeroNd] at ha⟩
  refine ⟨n, ka, kc, aa, ac, _, rfl, hsz.1, hsz.2.1, o.fresh hB ⟨fun k => w.heap.size ≤ k ∧ k < w'.heap.size, ⟨fun k hk => hk.2, ⟨_, owns_base h1 (Nat.zero_le _), fun g hg => owns_block h1 g hg⟩, n.attrs, rfl, owns_base h2 (Nat.zero_le _), hsz.2.2, fun g hg => owns_block h2 g hg⟩, fun k hk => hk.1⟩⟩
theorem Nodes_loose {w0 w : World} {D b : Nat} {A : Ar} {l : List Asrt} (o : Own w0 D l w) (hm : Asrt.arena b A ∈ l) (hS : A.Short) (hI : A.Inv) (hA : A.SmallA) :
    Calls Try.prog 27 #[.pointer (some ⟨b, 0, none⟩)] w fun e w' => ∃ a c, e = .returned (.slice a A.ns.length c) ∧ Own w0 D (.loose (.slice a A.ns.length c) A.ns.length 400 :: l) w' := by
  obtain ⟨ρ, hAm⟩ := o.arena hm
  refine (Nodes_any A ρ b w hAm hS).mono ?_
  rintro e w' ⟨hB, a, c, rfl, rows, h1, h2, h3⟩
  refine ⟨a, c, rfl, o.fresh hB ⟨fun k => w.heap.size ≤ k ∧ k < w'.heap.size, ⟨fun k hk => hk.2, rows, owns_base h1 (Nat.zero_le _), h2, fun g hg => owns_block h1 g hg, fun r hr => ?_⟩, fun k hk => hk.1⟩⟩
  obtain ⟨i, hi⟩ := List.mem_iff_getElem?.1 hr
  have hil : i < A.ns.length := by have := (List.getElem?_eq_some_iff.1 hi).1; omega
  obtain ⟨n, hn⟩ : ∃ n, A.ns[i]? = some n := ⟨_, List.getElem?_eq_getElem hil⟩
  obtain ⟨kv, av, q1, q2, q3⟩ := h3 i n hn
  rw [hi] at q1
  injection q1 with q1
  have hmem := List.mem_of_getElem? hn
  have hh : A.has ((i : Int) + 1) := ⟨by omega, by unfold Ar.n; omega⟩
  have hget : A.get ((i : Int) + 1) = n := by
    have := Ar.get_some hh
    rw [show ((i : Int) + 1).toNat - 1 = i by omega, hn] at this
    injection this with this; exact this.symm
  have hloc := (hI.loc _ hh).at3
  rw [hget] at hloc
  exact ⟨n, kv, av, q1, ⟨_, owns_base q2 (Nat.zero_le _), fun g hg => owns_block q2 g hg⟩, ⟨n.attrs, rfl, owns_base q3 (Nat.zero_le _), hA n hmem, fun g hg => owns_block q3 g hg⟩, (hS.2 n hmem).1, hloc⟩

/-- The description is appended. -/
theorem LooseM.snoc {w w2 : World} {S T : Nat → Prop} {v v' kv av : Value} {m B : Nat} {n : Nd} {rows : List (List Value)} (h1 : w.ownsRow 0 36 13 v m rows.flatten) (h2 : rows.length = m)
    (h4 : ∀ r ∈ rows, ∃ (n : Nd) (kv av : Value), r = n.cells kv av ∧ Lk w S kv n.kids.length ∧ La w S av n.attrs.length B ∧ n.kids.length ≤ 1000000 ∧ n.attrs.length ≤ 20)
    (hk : Lk w S kv n.kids.length) (ha : La w S av n.attrs.length B) (hk1 : n.kids.length ≤ 1000000) (ha1 : n.attrs.length ≤ 20)
    (hg : w.grownBy w2 v.ownBlock) (ho : w2.ownsRow 0 36 13 v' (m + 1) (rows.flatten ++ n.cells kv av)) (hT : ∀ k, S k → T k) (hv' : ∀ g, v'.ownBlock = some g → T g) : LooseM w2 T v' (m + 1) B := by
  have hU : Upd (fun k => v.ownBlock = some k) w w2 := Upd.grown hg (fun k hk => hk)
  have keepK : ∀ {kv : Value} {len : Nat}, Lk w S kv len → Lk w2 T kv len := by
    rintro kv len ⟨xs, q1, q2⟩
    exact ⟨xs, owns_upd q1 hU (fun k hk hf => owns_apart q1 h1 (by decide) k hk hf), fun g hg => hT g (q2 g hg)⟩
  have keepA : ∀ {av : Value} {len : Nat}, La w S av len B → La w2 T av len B := by
    rintro av len ⟨l, q0, q1, q2, q3⟩
    exact ⟨l, q0, owns_upd q1 hU (fun k hk hf => owns_apart q1 h1 (by decide) k hk hf), q2, fun g hg => hT g (q3 g hg)⟩
  refine ⟨rows ++ [n.cells kv av], by simpa [List.flatten_append] using ho, by simp [h2], hv', fun r hr => ?_⟩
  rcases List.mem_append.1 hr with hr | hr
  · obtain ⟨n', kv', av', e, q1, q2, q3, q4⟩ := h4 r hr
    exact ⟨n', kv', av', e, keepK q1, keepA q2, q3, q4⟩
  · exact ⟨n, kv, av, List.mem_singleton.1 hr, keepK hk, keepA ha, hk1, ha1⟩

theorem LooseM.more {w : World} {S : Nat → Prop} {v : Value} {m B C : Nat} (h : LooseM w S v m B) (hb : B ≤ C) : LooseM w S v m C := by
  obtain ⟨rows, h1, h2, h3, h4⟩ := h
  refine ⟨rows, h1, h2, h3, fun r hr => ?_⟩
  obtain ⟨n, kv, av, e, q1, q2, q3, q4⟩ := h4 r hr
  exact ⟨n, kv, av, e, q1, q2.mono (fun _ h => h) hb, q3, q4⟩
theorem LooseM.blk {w : World} {S : Nat → Prop} {g m c B : Nat} (h : LooseM w S (.slice (some ⟨g, 0, none⟩) m c) m B) : ∃ cur, w.heap[g]? = some (.cells cur 36 (0, 0)) := by
  obtain ⟨rows, h1, -⟩ := h
  rcases h1.2 with ⟨hq, -⟩ | ⟨g', cap, cur, hq, -, hg, -⟩
  · cases hq
  · simp only [Value.slice.injEq, Option.some.injEq, Addr.mk.injEq, and_true, true_and] at hq
    obtain ⟨rfl, rfl⟩ := hq
    exact ⟨cur, hg⟩
theorem cell_apart {w : World} {g q b j : Nat} {c1 c2 : Array Value} {t1 t2 : TypeId} {u : Value} {x : Value} (h1 : w.heap[g]? = some (.cells c1 t1 (0, 0))) (h2 : w.heap[b]? = some (.cells c2 t2 (0, 0))) (hne : t1 ≠ t2) (hx : w.cell? ⟨g, q, none⟩ = some x) : (w.setCell ⟨b, j, none⟩ u).cell? ⟨g, q, none⟩ = some x := by
  have hgb : b ≠ g := by
    rintro rfl
    rw [h1] at h2
    simp at h2
    exact hne h2.2
  rw [World.cell?_setCell_other _ _ _ _ (fun e => hgb (congrArg Addr.block e))]
  exact hx
/-- The description is appended to the caller's list. -/
theorem Own.appended {w0 w w2 : World} {D : Nat} {v v' kv av : Value} {m B : Nat} {n : Nd} {l : List Asrt} {o : Obj} {S : Nat → Prop} {rows : List (List Value)} (hk1 : n.kids.length ≤ 1000000) (ha1 : n.attrs.length ≤ 20)
    (hF : ∀ (w' : World) (a' : Asrt), (∃ S', a'.P w' S' ∧ Upd S w w' ∧ ∀ k, k < w.heap.size → S' k → S k) → Own w0 D (a' :: l) w') (hPa : (Asrt.mix v m kv av n B).P (w.alloc o) S)
    (r1 : w2.ownsRow 0 36 13 v' (m + 1) (rows.flatten ++ n.cells kv av)) (r2 : (w.alloc o).ownsRow 0 36 13 v m rows.flatten) (r3 : rows.length = m) (r4 : ∀ g, v.ownBlock = some g → S g)
    (r5 : ∀ r ∈ rows, ∃ (n : Nd) (kv av : Value), r = n.cells kv av ∧ Lk (w.alloc o) S kv n.kids.length ∧ La (w.alloc o) S av n.attrs.length B ∧ n.kids.length ≤ 1000000 ∧ n.attrs.length ≤ 20)
    (hg : (w.alloc o).grownBy w2 v.ownBlock) (hat : v'.ownBlock = v.ownBlock ∨ v'.ownBlock = some (w.alloc o).heap.size) : Own w0 D (.loose v' (m + 1) B :: l) w2 := by
  have hsz := hg.size
  refine hF w2 _ ⟨fun k => S k ∨ v'.ownBlock = some k, ⟨fun k hk => ?_, ?_⟩, ?_, fun k hk hS => ?_⟩
  · rcases hk with hk | hk
    · exact Nat.lt_of_lt_of_le (hPa.1 k hk) hsz
    · exact (owns_block r1 k hk).2
  · exact LooseM.snoc r2 r3 r5 hPa.2.2.1 hPa.2.2.2 hk1 ha1 hg r1 (fun k hk => .inl hk) (fun g hg => .inr hg)
  · exact ((Upd.refl S w).alloc o).trans (Upd.grown hg (fun k hk => r4 k hk))
  · rcases hS with hS | hS
    · exact hS
    · rcases hat with h | h
      · exact r4 k (by rw [← h]; exact hS)
      · rw [hS] at h
        injection h with h
        simp at h
        omega

theorem LooseM.attrsAt {w : World} {S : Nat → Prop} {gg m c B j na ad : Nat} {ab : Option Addr} (h : LooseM w S (.slice (some ⟨gg, 0, none⟩) m c) m B) (hj : j < m) (h6 : w.cell? ⟨gg, j * 13 + 6, none⟩ = some (.slice ab na ad)) : La w S (.slice ab na ad) na B ∧ na ≤ 20 := by
  obtain ⟨g, c', n, kv, av, e, F, -, hLa, -, ha⟩ := h.at hj
  simp only [Value.slice.injEq, Option.some.injEq, Addr.mk.injEq, and_true, true_and] at e
  obtain ⟨rfl, rfl⟩ := e
  have e6 := F.c6
  rw [h6] at e6
  injection e6 with e6
  subst e6
  obtain ⟨a4, c4, e4, -, -⟩ := hLa.form
  simp only [Value.slice.injEq] at e4
  rw [← e4.2.1] at hLa ha
  exact ⟨hLa, ha⟩
theorem LooseM.kidsAt {w : World} {S : Nat → Prop} {gg m c B j nk kd : Nat} {kb : Option Addr} (h : LooseM w S (.slice (some ⟨gg, 0, none⟩) m c) m B) (hj : j < m) (h2 : w.cell? ⟨gg, j * 13 + 2, none⟩ = some (.slice kb nk kd)) : Lk w S (.slice kb nk kd) nk := by
  obtain ⟨g, c', n, kv, av, e, F, hLk, -, -, -⟩ := h.at hj
  simp only [Value.slice.injEq, Option.some.injEq, Addr.mk.injEq, and_true, true_and] at e
  obtain ⟨rfl, rfl⟩ := e
  have e2 := F.c2
  rw [h2] at e2
  injection e2 with e2
  subst e2
  obtain ⟨a4, c4, e4, -, -⟩ := hLk.form
  simp only [Value.slice.injEq] at e4
  rw [← e4.2.1] at hLk
  exact hLk
theorem Own.looseName {w0 w : World} {D gg m c B j na ad g5 i : Nat} {s : ByteArray} {l : List Asrt} (o : Own w0 D (.loose (.slice (some ⟨gg, 0, none⟩) m c) m B :: l) w) (hj : j < m) (h6 : w.cell? ⟨gg, j * 13 + 6, none⟩ = some (.slice (some ⟨g5, 0, none⟩) na ad)) (hi : i < na) (hs : s.size ≤ B + 1) :
    Own w0 D (.loose (.slice (some ⟨gg, 0, none⟩) m c) m (B + 1) :: l) (w.setCell ⟨g5, i * 3 + 1, none⟩ (.string s)) :=
  o.writ g5 _ _ (fun S hP => by
    obtain ⟨hLa, -⟩ := hP.2.attrsAt hj h6
    obtain ⟨g, cc, cs, a, e, -, -, hSg, hb, -⟩ := hLa.at hi
    simp only [Value.slice.injEq, Option.some.injEq, Addr.mk.injEq, and_true, true_and] at e
    obtain ⟨rfl, rfl⟩ := e
    exact ⟨hSg, fun q hq => by simpa using hP.1 q hq, hP.2.setName hb i hs⟩)
theorem Own.looseKid {w0 w : World} {D gg m c B j nk kd g5 i : Nat} {u : Value} {l : List Asrt} (o : Own w0 D (.loose (.slice (some ⟨gg, 0, none⟩) m c) m B :: l) w) (hj : j < m) (h2 : w.cell? ⟨gg, j * 13 + 2, none⟩ = some (.slice (some ⟨g5, 0, none⟩) nk kd)) (hi : i < nk) :
    Own w0 D (.loose (.slice (some ⟨gg, 0, none⟩) m c) m B :: l) (w.setCell ⟨g5, i, none⟩ u) :=
  o.writ g5 _ _ (fun S hP => by
    have hLk := hP.2.kidsAt hj h2
    obtain ⟨g, cc, cs, e, -, -, hSg, hb, -⟩ := hLk.at hi
    simp only [Value.slice.injEq, Option.some.injEq, Addr.mk.injEq, and_true, true_and] at e
    obtain ⟨rfl, rfl⟩ := e
    exact ⟨hSg, fun q hq => by simpa using hP.1 q hq, hP.2.setInt hb i u⟩)
theorem Own.looseMore {w0 w : World} {D m B C : Nat} {v : Value} {l : List Asrt} (o : Own w0 D (.loose v m B :: l) w) (h : B ≤ C) : Own w0 D (.loose v m C :: l) w :=
  o.weak (fun S hP => ⟨hP.1, hP.2.more h⟩)

end Go.Proofs.Ytnfdcfagdidmhaa
