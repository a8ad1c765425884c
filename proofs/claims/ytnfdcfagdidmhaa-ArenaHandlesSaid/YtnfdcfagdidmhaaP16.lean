/-
  slices.Clone.
-/
import Derived.Test.YtnfdcfagdidmhaaP15
namespace Go.Proofs.Ytnfdcfagdidmhaa
open Go.RowKit

theorem RCells.addr {w : World} {v : Value} {n size : Nat} {xs : List Value} (h : RCells w v n size xs) : (∃ c, v = .slice none n c ∧ n = 0) ∨ ∃ (ad : Addr) (c : Nat), v = .slice (some ad) n c ∧ ∀ (W : World), Below w.heap.size w W → ∀ j u, xs[j]? = some u → W.cell? (ad.add j) = some u := by
  obtain ⟨h1, a, c, h2, h3, h4, h5⟩ := h
  cases a with
  | none =>
    refine .inl ⟨c, h2, ?_⟩
    by_cases h : n = 0
    · exact h
    · obtain ⟨b, o, h6, _⟩ := h5 (by omega); cases h6
  | some ad =>
    refine .inr ⟨ad, c, h2, fun W hW j u hu => ?_⟩
    have hn : 0 < n := by
      have := (List.getElem?_eq_some_iff.1 hu).1
      cases n with
      | zero => rw [h1] at this; simp at this
      | succ n => omega
    obtain ⟨b, o, h6, h7⟩ := h5 hn
    cases h6
    rw [Addr.add_mid]
    exact Below.old hW (h7 j u hu)

theorem oneAttrs (l : List AttrD) : ∀ u ∈ l.flatMap attrCells, u.oneCell' = true := by
  intro u hu
  simp only [List.mem_flatMap, attrCells] at hu
  obtain ⟨x, _, hu⟩ := hu
  simp at hu
  rcases hu with rfl | rfl | rfl <;> rfl

/-- What a copy of a list leaves: its cells in a row of the call's own. -/
theorem Clone_int (v : Value) (l : List Int) (w : World) (hv : RInts w v l) (hsmall : l.length ≤ 1000000) :
    Calls Try.prog 88 #[v] w fun e w' => Below w.heap.size w w' ∧ ∃ v', e = .returned v' ∧ w'.ownsRow w.heap.size 3 1 v' l.length (l.map intv) := by
  obtain ⟨i0, hi, hz0, hz1, hz2⟩ := info_parts infoInt
  have hlen := hv.1
  rcases RCells.addr hv with ⟨c, rfl, hn⟩ | ⟨ad, c, rfl, hcell⟩
  · have hl : l = [] := List.length_eq_zero_iff.1 hn
    subst hl
    have hnil := fun W => Lib.run_eql_slice_nil (P := Try.prog) W 32 3 none 0 c 0 0 Try.underlying32
    go_enter Try.func88, Try.ntmps88
    go_wp2
    go_ret
    exact ⟨Below.refl _ _, _, rfl, World.ownsRow_nil _ _ _ _⟩
  · have hnil := fun W => Lib.run_eql_slice_nil (P := Try.prog) W 32 3 (some ad) l.length c 0 0 Try.underlying32
    have hnews := hcell (w.alloc (.cells #[] 3)) (below_alloc _ _)
    have hown : (w.alloc (.cells #[] 3)).ownsRow w.heap.size 3 1 (.slice (some ⟨w.heap.size, 0, none⟩) 0 0) 0 [] := World.ownsRow_made w #[] 0 (Nat.le_refl _) (by unfold maxLen; omega) (by simp)
    have HI := Lib.hid hi
    have HN := Lib.hid hnews
    have HL := Lib.hid hlen
    clear hcell hi hnews hlen
    go_enter Try.func88, Try.ntmps88
    go_wp2_with (at_builtin; refine wpList_append_own _ rfl _ _ 32 rfl w.heap.size 3 i0 _ 1 8 Try.underlying32 HI.out hz0 hz1 hz2 rfl (by decide) _ _ _ rfl hown ad l.length c (l.map intv) rfl HL.out HN.out (oneInts l) (by unfold maxLen; omega) (by omega) (by simp) ?_)
    intro v' w' hown' hgrow _
    have hB : Below w.heap.size w w' := (below_alloc w (.cells #[] 3)).grown hgrow (by simp) (fun k hk => by simp [Value.ownBlock] at hk; omega)
    try rw [Nat.zero_add] at hown'
    try rw [List.nil_append] at hown'
    have HO := Lib.hid hown'
    clear hown hown' hgrow
    go_wp2
    go_ret
    exact ⟨hB, _, rfl, HO.out⟩

/-- What a copy of a list leaves: its cells in a row of the call's own. -/
theorem Clone_attr (v : Value) (l : List AttrD) (w : World) (hv : RAttrs w v l) (hsmall : l.length ≤ 1000000) :
    Calls Try.prog 121 #[v] w fun e w' => Below w.heap.size w w' ∧ ∃ v', e = .returned v' ∧ w'.ownsRow w.heap.size 55 3 v' l.length (l.flatMap attrCells) := by
  obtain ⟨i0, hi, hz0, hz1, hz2⟩ := info_parts infoAttr
  have hlen := hv.1
  rcases RCells.addr hv with ⟨c, rfl, hn⟩ | ⟨ad, c, rfl, hcell⟩
  · have hl : l = [] := List.length_eq_zero_iff.1 hn
    subst hl
    have hnil := fun W => Lib.run_eql_slice_nil (P := Try.prog) W 34 55 none 0 c 0 0 Try.underlying34
    go_enter Try.func121, Try.ntmps121
    go_wp2
    go_ret
    exact ⟨Below.refl _ _, _, rfl, World.ownsRow_nil _ _ _ _⟩
  · have hnil := fun W => Lib.run_eql_slice_nil (P := Try.prog) W 34 55 (some ad) l.length c 0 0 Try.underlying34
    have hnews := hcell (w.alloc (.cells #[] 55)) (below_alloc _ _)
    have hown : (w.alloc (.cells #[] 55)).ownsRow w.heap.size 55 3 (.slice (some ⟨w.heap.size, 0, none⟩) 0 0) 0 [] := World.ownsRow_made w #[] 0 (Nat.le_refl _) (by unfold maxLen; omega) (by simp)
    have HI := Lib.hid hi
    have HN := Lib.hid hnews
    have HL := Lib.hid hlen
    clear hcell hi hnews hlen
    go_enter Try.func121, Try.ntmps121
    go_wp2_with (at_builtin; refine wpList_append_own _ rfl _ _ 34 rfl w.heap.size 55 i0 _ 3 40 Try.underlying34 HI.out hz0 hz1 hz2 rfl (by decide) _ _ _ rfl hown ad l.length c (l.flatMap attrCells) rfl HL.out HN.out (oneAttrs l) (by unfold maxLen; omega) (by omega) (by simp) ?_)
    intro v' w' hown' hgrow _
    have hB : Below w.heap.size w w' := (below_alloc w (.cells #[] 55)).grown hgrow (by simp) (fun k hk => by simp [Value.ownBlock] at hk; omega)
    try rw [Nat.zero_add] at hown'
    try rw [List.nil_append] at hown'
    have HO := Lib.hid hown'
    clear hown hown' hgrow
    go_wp2
    go_ret
    exact ⟨hB, _, rfl, HO.out⟩

end Go.Proofs.Ytnfdcfagdidmhaa
