/-
  slices.Insert of one number into a slice that owns its row.
-/
import Derived.Test.YtnfdcfagdidmhaaS1
namespace Go.Proofs.Ytnfdcfagdidmhaa
open Go.RowKit Go.Shelf

/-- What 'Insert' leaves. -/
def InsertR (ρ : Nat → Nat) (r : Nat) (l' : List Int) (w : World) (e : Ending) (w' : World) : Prop :=
  ∃ (g c : Nat) (ρ' : Nat → Nat), e = .returned (.slice (some ⟨g, 0, none⟩) l'.length c) ∧ Upd (fun k => ρ k = r) w w' ∧ (∀ k, k < w.heap.size → ρ' k = ρ k) ∧ (∀ k, ρ' k ≠ 0 → k < w'.heap.size) ∧
    ROwn w' ρ' r 3 1 (.slice (some ⟨g, 0, none⟩) l'.length c) l'.length (l'.map intv)

theorem ins_length {l : List Int} {i : Nat} {x : Int} (hi : i ≤ l.length) : (l.take i ++ x :: l.drop i).length = l.length + 1 := by simp; omega
theorem ins_get {l : List Int} {i : Nat} {x : Int} (hi : i ≤ l.length) (k : Nat) : (l.take i ++ x :: l.drop i)[k]? = if k < i then l[k]? else if k = i then some x else l[k - 1]? := by
  rw [List.getElem?_append]
  simp only [List.length_take, Nat.min_eq_left hi]
  by_cases hk : k < i
  · rw [if_pos hk, if_pos hk, List.getElem?_take, if_pos hk]
  · rw [if_neg hk, if_neg hk]
    by_cases hk2 : k = i
    · subst hk2; simp
    · rw [if_neg hk2, show k - i = (k - i - 1) + 1 from by omega, List.getElem?_cons_succ, List.getElem?_drop]
      congr 1; omega

/-- The cells of a row, known one by one, are the list's. -/
theorem owns_mk {w : World} {g cap : Nat} {cur : Array Value} {l : List Int} {t : TypeId} (hg : w.heap[g]? = some (.cells cur t (0, 0))) (hc : cap ≤ maxLen) (hs : cur.size = cap) (hn : l.length ≤ cap) (h : ∀ k, k < l.length → cur[k]? = some (intv (l[k]?.getD 0))) :
    w.ownsRow 0 t 1 (.slice (some ⟨g, 0, none⟩) l.length cap) l.length (l.map intv) := by
  refine ⟨by simp, .inr ⟨g, cap, cur, rfl, Nat.zero_le _, hg, hn, hc, by omega, ?_⟩⟩
  apply List.ext_getElem?
  intro k
  rw [List.getElem?_take, Array.getElem?_toList, Nat.mul_one]
  by_cases hk : k < l.length
  · rw [if_pos hk, h k hk]; simp [hk]
  · rw [if_neg hk, List.getElem?_eq_none (by simpa using hk)]

set_option maxHeartbeats 1000000 in
theorem Insert_own (ρ : Nat → Nat) (r : Nat) (v : Value) (l : List Int) (i : Nat) (x : Int) (vb : Nat) (w : World) (hρ : ∀ k, ρ k ≠ 0 → k < w.heap.size) (hv : ROwn w ρ r 3 1 v l.length (l.map intv)) (hi : i ≤ l.length)
    (hvb : w.heap[vb]? = some (.cells #[.int .i64 x] 3 (0, 0))) (hvr : ρ vb ≠ r) (hsmall : l.length ≤ 1000000) :
    Calls Try.prog 103 #[v, .int .i64 i, .slice (some ⟨vb, 0, none⟩) 1 1] w (InsertR ρ r (l.take i ++ x :: l.drop i) w) := by
  obtain ⟨⟨h1, h2⟩, h3⟩ := hv
  have hvs : ∀ (j : Nat) (u : Value), [intv x][j]? = some u → w.cell? ⟨vb, 0 + j, none⟩ = some u := by
    intro j u hu
    rw [cell_of_row w vb _ _ _ _ hvb, Nat.zero_add]
    simpa [intv] using hu
  have h1v : ∀ u ∈ [intv x], u.oneCell' = true := by intro u hu; simp at hu; subst hu; rfl
  have hl' := ins_length (x := x) hi
  have hnew : ∀ (w' : World) (cur : Array Value) (cap : Nat), w'.heap[w.heap.size]? = some (.cells cur 3 (0, 0)) → Upd (fun k => ρ k = r) w w' → cap ≤ maxLen → cur.size = cap → l.length + 1 ≤ cap →
      (∀ k, k < (l.take i ++ x :: l.drop i).length → cur[k]? = some (intv ((l.take i ++ x :: l.drop i)[k]?.getD 0))) → InsertR ρ r (l.take i ++ x :: l.drop i) w (.returned (.slice (some ⟨w.heap.size, 0, none⟩) (l.length + 1) cap)) w' := by
    intro w' cur cap hg hU hc hs hn h
    refine ⟨w.heap.size, cap, fun k => if k = w.heap.size then r else ρ k, by rw [hl'], hU, fun k hk => if_neg (by omega), fun k hk => ?_, owns_mk hg hc hs (by omega) h, fun g hg' => ?_⟩
    · dsimp only at hk
      split at hk
      · rename_i e; subst e; exact lt_of_block hg
      · exact Nat.lt_of_lt_of_le (hρ k hk) hU.size
    · simp [Value.ownBlock] at hg'; simp [hg']
  rcases h2 with ⟨rfl, h4⟩ | ⟨g, cap, cur, rfl, _, hg, hn, hc, hs, ht⟩
  · have hl : l = [] := List.length_eq_zero_iff.1 h4
    subst hl
    simp at hi
    subst hi
    refine (Any2.slices_Insert_int_end_grow lays21 none 0 0 vb 0 1 1 [] [intv x] w (by omega) (by omega) (by omega) (by omega) rfl rfl (fun _ => rfl) (fun a ha => by cases ha) hvs h1v).mono ?_
    rintro e w' ⟨rfl, rfl⟩
    refine hnew _ _ _ (heap_alloc_new w.drew _) (((Upd.refl _ w).drew).alloc _) (grownCap_le_maxLen w _ _ _ (by unfold maxLen; omega)) ?_ (grownCap_ge w _ _ _) ?_
    · have := grownCap_ge w 1 0 3
      simp [size_zeroCells]
      change 1 + (grownCap w 1 0 3 - 1) * _ = grownCap w 1 0 3
      simp [Value.cells]; omega
    · intro k hk
      simp at hk
      subst hk
      rw [Array.getElem?_append_left (by simp)]
      simp [intv]
  · have hgr := h3 g rfl
    have hgv : vb ≠ g := by intro e; subst e; exact hvr hgr
    have hcur : ∀ j, j < l.length → cur[j]? = some (intv (l[j]?.getD 0)) := by
      intro j hj
      have : (cur.toList.take (l.length * 1))[j]? = some (intv (l[j]?.getD 0)) := by rw [ht]; simp [hj]
      rw [List.getElem?_take, if_pos (by omega)] at this
      simpa using this
    have hcs : ∀ (j : Nat) (u : Value), (l.map intv)[j]? = some u → w.cell? ⟨g, 0 + j, none⟩ = some u := by
      intro j u hu
      have hj : j < l.length := by have := (List.getElem?_eq_some_iff.1 hu).1; simpa using this
      rw [cell_of_row w g _ _ _ _ hg, Nat.zero_add, hcur j hj, ← hu]; simp [hj]
    have hold : ∀ (w' : World) (cur' : Array Value), w'.heap[g]? = some (.cells cur' 3 (0, 0)) → Upd (fun k => ρ k = r) w w' → cur'.size = cap → l.length + 1 ≤ cap →
        (∀ k, k < (l.take i ++ x :: l.drop i).length → cur'[k]? = some (intv ((l.take i ++ x :: l.drop i)[k]?.getD 0))) → InsertR ρ r (l.take i ++ x :: l.drop i) w (.returned (.slice (some ⟨g, 0, none⟩) (l.length + 1) cap)) w' := by
      intro w' cur' hg' hU hs' hn' h
      exact ⟨g, cap, ρ, by rw [hl'], hU, fun _ _ => rfl, fun k hk => Nat.lt_of_lt_of_le (hρ k hk) hU.size, owns_mk hg' hc hs' (by omega) h, h3⟩
    by_cases hroom : l.length + 1 ≤ cap
    · by_cases hend : i = l.length
      · subst hend
        refine (Any2.slices_Insert_int_end_room lays21 g 0 l.length cap vb 0 1 1 [intv x] w (by omega) hroom hc rfl (fun j hj => ?_) (fun j _ => frozen_of_row w g _ _ _ hg) hvs h1v).mono ?_
        · rw [cell_of_row w g _ _ _ _ hg]; simp; omega
        · rintro e w' ⟨rfl, rfl⟩
          obtain ⟨cur', k1, k2, k3⟩ := setCells_block g 3 [intv x] (0 + l.length) w cur hg
          refine hold _ cur' k1 ((Upd.refl (fun k => ρ k = r) w).setCells (.inr hgr) _ _) (by omega) hroom (fun k hk => ?_)
          rw [k3 k, ins_get (Nat.le_refl _)]
          by_cases hk2 : k < l.length
          · rw [if_neg (by omega), if_pos hk2]; exact hcur k hk2
          · have : k = l.length := by omega
            subst this
            rw [if_pos (by simp; omega)]; simp
      · refine (Any2.slices_Insert_int_shift lays21 g 0 l.length cap i vb 0 1 1 (l.map intv) [intv x] w (by omega) (by omega) hroom hc hgv (by simp) rfl hcs (fun j hj => ?_) (fun j _ => frozen_of_row w g _ _ _ hg) hvs (oneInts l) h1v 3 3 1 cap (by simp [World.shape?, hvb]) (by simp [World.shape?, hg]; omega) (by omega) (frozen_of_row w vb _ _ _ hvb) (frozen_of_row w vb _ _ _ hvb)).mono ?_
        · rw [cell_of_row w g _ _ _ _ hg]; simp; omega
        · rintro e w' ⟨rfl, rfl⟩
          obtain ⟨cur1, k1, k2, k3⟩ := setCells_block g 3 ((l.map intv).drop i) (0 + (i + 1)) w.drew cur hg
          obtain ⟨cur', q1, q2, q3⟩ := setCells_block g 3 [intv x] (0 + i) _ cur1 k1
          refine hold _ cur' q1 ((((Upd.refl (fun k => ρ k = r) w).drew).setCells (.inr hgr) _ _).setCells (.inr hgr) _ _) (by omega) hroom (fun k hk => ?_)
          rw [q3 k, ins_get hi]
          by_cases hk1 : k < i
          · rw [if_neg (by omega), k3 k, if_neg (by omega), if_pos hk1]; exact hcur k (by omega)
          · by_cases hk2 : k = i
            · subst hk2
              rw [if_pos (by simp; omega)]; simp
            · rw [if_neg (by simp; omega), k3 k, if_pos (by simp; omega), if_neg hk1, if_neg hk2, List.getElem?_drop, show i + (k - (0 + (i + 1))) = k - 1 from by omega]
              have : k - 1 < l.length := by omega
              simp [this]
    · have hcap : cap = l.length := by omega
      by_cases hend : i = l.length
      · subst hend
        refine (Any2.slices_Insert_int_end_grow lays21 (some ⟨g, 0, none⟩) l.length cap vb 0 1 1 (l.map intv) [intv x] w (by omega) hn (by omega) (by omega) (by simp) rfl (fun h => by cases h) (fun a ha j u hu => ?_) hvs h1v).mono ?_
        · cases ha; rw [Addr.add_mid]; exact hcs j u hu
        · rintro e w' ⟨rfl, rfl⟩
          have hge := grownCap_ge w (l.length + 1) cap 3
          refine hnew _ _ _ (heap_alloc_new w.drew _) (((Upd.refl _ w).drew).alloc _) (grownCap_le_maxLen w _ _ _ (by unfold maxLen; omega)) ?_ hge ?_
          · simp [size_zeroCells, Value.cells]
            change l.length + 1 + (grownCap w (l.length + 1) cap 3 - (l.length + 1)) = grownCap w (l.length + 1) cap 3
            omega
          · intro k hk
            rw [ins_get (Nat.le_refl _)]
            rw [Array.getElem?_append_left (by simp; omega)]
            simp only [List.getElem?_toArray, List.getElem?_append, List.length_map]
            by_cases hk2 : k < l.length
            · rw [if_pos hk2, if_pos hk2]; simp [hk2]
            · have : k = l.length := by omega
              subst this; simp
      · refine (Any2.slices_Insert_int_grow lays21 g 0 l.length cap i vb 0 1 1 (l.map intv) [intv x] w (by omega) (by omega) hn (by omega) (by omega) (by simp) rfl hcs hvs (oneInts l) h1v).mono ?_
        rintro e w' ⟨rfl, rfl⟩
        have hge := grownCap_ge w (l.length + 1) cap 3
        obtain ⟨cur1, k1, k2, k3⟩ := setCells_block w.heap.size 3 [intv x] i ((w.alloc (.cells (((l.map intv).take i).toArray ++ Builtin.zeroCells (Value.int .i64 0).cells (l.length + 1 - i) ++ Builtin.zeroCells (Value.int .i64 0).cells (grownCap w (l.length + 1) cap 3 - (l.length + 1))) 3)).drew) _ (heap_alloc_new w _)
        obtain ⟨cur', q1, q2, q3⟩ := setCells_block w.heap.size 3 ((l.map intv).drop i) (i + 1) (World.drew (World.setCells (World.drew (World.alloc w _)) w.heap.size i [intv x])) cur1 k1
        have hsz0 : (((l.map intv).take i).toArray ++ Builtin.zeroCells (Value.int .i64 0).cells (l.length + 1 - i) ++ Builtin.zeroCells (Value.int .i64 0).cells (grownCap w (l.length + 1) cap 3 - (l.length + 1))).size = grownCap w (l.length + 1) cap 3 := by
          simp [size_zeroCells, Value.cells]; omega
        refine hnew _ cur' _ q1 ((((((Upd.refl _ w).alloc _).drew).setCells (.inl (Nat.le_refl _)) _ _).drew).setCells (.inl (Nat.le_refl _)) _ _) (grownCap_le_maxLen w _ _ _ (by unfold maxLen; omega)) (by rw [q2, k2]; exact hsz0) hge (fun k hk => ?_)
        rw [q3 k, k3 k, k2, hsz0, ins_get hi]
        by_cases hk1 : k < i
        · rw [if_neg (by omega), if_neg (by omega), if_pos hk1, Array.getElem?_append_left (by simp [size_zeroCells, Value.cells]; omega), Array.getElem?_append_left (by simp; omega)]
          simp only [List.getElem?_toArray, List.getElem?_take, if_pos hk1]
          have : k < l.length := by omega
          simp [this]
        · by_cases hk2 : k = i
          · subst hk2
            rw [if_neg (by omega), if_pos (by simp; omega)]; simp
          · rw [if_pos (by simp; omega), if_neg hk1, if_neg hk2, List.getElem?_drop, show i + (k - (i + 1)) = k - 1 from by omega]
            have : k - 1 < l.length := by omega
            simp [this]

end Go.Proofs.Ytnfdcfagdidmhaa
