/-
  The law ArenaMoves: what the calls answer. No walk here.
-/
import Derived.Test.YtnfdcfagdidmhaaGreatDoorT1
namespace Go.Proofs.YtnfdcfagdidmhaaGreatDoor
open Go.RowKit
set_option linter.unusedVariables false

def Ar.kidsOf (A : Ar) (h : Int) : List Int := if A.has h then (A.get h).kids else []
def Ar.parentOf (A : Ar) (h : Int) : Int := if A.has h then (A.get h).parent else 0

theorem without_no {l : List Int} {n : Int} (h : n ∉ l) : without l n = l := by
  unfold without
  exact List.filter_eq_self.2 (fun x hx => by simp; exact fun e => h (by rw [← e]; exact hx))
theorem without_put {kb : List Int} {n : Int} (i : Nat) (h : n ∉ kb) : without (kb.take i ++ n :: kb.drop i) n = kb := by
  unfold without
  rw [List.filter_append, List.filter_cons_of_neg (by simp), ← List.filter_append, List.take_append_drop]
  exact without_no h

theorem moves_law {A : Ar} (hI : A.Inv) {parent node before : Int} (h : (A.put parent node before).1 = 0) : ∃ (i : Nat) (kb : List Int) (A' : Ar), A.put parent node before = (0, A') ∧ A'.Inv ∧ A'.ns.length = A.ns.length ∧ A.has parent ∧ A.has node ∧ A'.has parent ∧ A'.has node ∧
    (A'.get node).parent = parent ∧ (A'.get parent).kids = kb.take i ++ node :: kb.drop i ∧ i ≤ kb.length ∧ node ∉ kb ∧ (before = 0 → i = kb.length) ∧ (before ≠ 0 → kb[i]? = some before) ∧
    without (A.get parent).kids node = kb ∧ (A.parentOf node ≠ parent → without (A.kidsOf (A.parentOf node)) node = A'.kidsOf (A.parentOf node)) := by
  have hput : A.put parent node before = (0, A.place parent node before) ∧ A.allowed parent node before (A.contains node parent) = 0 := by
    unfold Ar.put at h ⊢
    split at h
    · rename_i hn; exact absurd h hn
    · rename_i hn; rw [if_neg hn]; exact ⟨rfl, Classical.not_not.1 hn⟩
  obtain ⟨hput, hal⟩ := hput
  obtain ⟨hp, hn, hb, hk, hkn, hc⟩ := allowed_got hal
  have hne : parent ≠ node := fun e => by
    subst e
    have : A.contains parent parent = true := by simp [Ar.contains, hp, way_head (hI.wf.wayOf hp) hp]
    rw [this] at hc; exact absurd hc (by simp)
  have hI' : (A.place parent node before).Inv := by have := hI.put parent node before; rw [hput] at this; exact this
  have hhas : ∀ x, (A.place parent node before).has x ↔ A.has x := fun x => by unfold Ar.has; rw [Ar.place_n]
  have hB := Ar.InvX.cut hI hn
  have hnot : node ∉ ((A.cut node).get parent).kids := fun hm => by
    have h1 := (hB.wf.kids parent ((Ar.cut_has _ _ _).2 hp) node hm).2
    rw [Ar.cut_get hI hn hn] at h1
    simp at h1
    rw [← h1] at hp; exact has_zero A hp
  have hkids : ((A.place parent node before).get parent).kids = putIn ((A.cut node).get parent).kids node before := by
    rw [Ar.place_get hp hn hp hne]; simp
  have hnd := hB.wf.nodup parent ((Ar.cut_has _ _ _).2 hp)
  obtain ⟨f1, f2, f3, f4⟩ := Ar.put_facts hI.wf hp hn hb
  have hcut : ((A.cut node).get parent).kids = if parent = (A.get node).parent then without (A.get parent).kids node else (A.get parent).kids := by rw [Ar.cut_get hI hn hp]
  have hw : without (A.get parent).kids node = ((A.cut node).get parent).kids := by
    rw [hcut]
    split
    · rfl
    · rename_i e
      exact without_no (fun hm => e (hI.wf.kids parent hp node hm).2.symm)
  have hold : A.parentOf node ≠ parent → without (A.kidsOf (A.parentOf node)) node = (A.place parent node before).kidsOf (A.parentOf node) := by
    intro hne2
    have hpo : A.parentOf node = (A.get node).parent := if_pos hn
    rw [hpo] at hne2 ⊢
    by_cases hz : (A.get node).parent = 0
    · rw [hz]; unfold Ar.kidsOf; rw [if_neg (has_zero A), if_neg (has_zero _)]; rfl
    · have hpp := (hI.wf.link node hn hz).1
      unfold Ar.kidsOf
      rw [if_pos hpp, if_pos ((hhas _).2 hpp), Ar.place_get hp hn hpp hne]
      dsimp only [Nd.re]
      rw [if_neg hne2, Ar.cut_get hI hn hpp]
      dsimp only [Nd.re]
      rw [if_pos rfl]
  by_cases h0 : before = 0
  · refine ⟨((A.cut node).get parent).kids.length, ((A.cut node).get parent).kids, A.place parent node before, hput, hI', by have := Ar.place_n A parent node before; unfold Ar.n at this; omega, hp, hn, (hhas _).2 hp, (hhas _).2 hn, ?_, ?_, Nat.le_refl _, hnot, fun _ => rfl, fun e => absurd h0 e, hw, hold⟩
    · rw [Ar.place_get hp hn hn hne]; simp
    · rw [hkids, f4 h0]; simp
  · obtain ⟨i, hi, e⟩ := List.getElem_of_mem (f2 h0)
    have hi' : ((A.cut node).get parent).kids[i]? = some before := by rw [List.getElem?_eq_getElem hi, e]
    refine ⟨i, ((A.cut node).get parent).kids, A.place parent node before, hput, hI', by have := Ar.place_n A parent node before; unfold Ar.n at this; omega, hp, hn, (hhas _).2 hp, (hhas _).2 hn, ?_, ?_, by omega, hnot, fun e => absurd e h0, fun _ => hi', hw, hold⟩
    · rw [Ar.place_get hp hn hn hne]; simp
    · rw [hkids, f3 i h0 hi']

theorem index_put {A : Ar} {parent node : Int} {kb : List Int} {i : Nat} (hn : A.has node) (hp : A.has parent) (h1 : (A.get node).parent = parent) (h2 : (A.get parent).kids = kb.take i ++ node :: kb.drop i) (h3 : i ≤ kb.length) (h4 : node ∉ kb) : A.index node = i := by
  have hz : parent ≠ 0 := fun e => by rw [e] at hp; exact has_zero A hp
  unfold Ar.index
  rw [if_pos ⟨hn, by rw [h1]; exact hz⟩, h1, h2]
  have hl : (kb.take i).length = i := by simp; omega
  refine findI_hit (x := node) ?_ (by simp) (fun j y hj hy => ?_)
  · rw [List.getElem?_append_right (by omega), hl]; simp
  · rw [List.getElem?_append_left (by omega)] at hy
    have hm := List.mem_of_mem_take (List.mem_of_getElem? hy)
    simp; exact fun e => h4 (by rw [← e]; exact hm)

theorem ints_reads {w : World} {b : Nat} {v : Value} {l : List Int} (h : w.ownsRow b 3 1 v l.length (l.map intv)) : RInts w v l := by
  have h' : ROwn w (fun k => if v.ownBlock = some k then 1 else 0) 1 3 1 v l.length (l.map intv) := by
    refine ⟨⟨h.1, ?_⟩, fun g hg => by simp [hg]⟩
    rcases h.2 with h2 | ⟨g, cap, cur, h3, _, h4⟩
    · exact .inl h2
    · exact .inr ⟨g, cap, cur, h3, Nat.zero_le _, h4⟩
  exact h'.reads

/-- A list of integers in the call's own memory. -/
abbrev Asrt.ints (v : Value) (l : List Int) : Asrt := .row 3 1 v l.length (l.map intv)

theorem Own.ints {w0 w : World} {B : Nat} {v : Value} {x : List Int} {l : List Asrt} (h : Own w0 B l w) (hm : Asrt.ints v x ∈ l) : RInts w v x := ints_reads (h.row hm)

theorem Kids_own {w0 w : World} {B b : Nat} {A : Ar} {l : List Asrt} {h : Int} (o : Own w0 B l w) (hm : Asrt.arena b A ∈ l) (hS : A.Short) :
    Calls Tryz.prog 15 #[.pointer (some ⟨b, 0, none⟩), .int .i64 h] w fun e w' => ∃ a c, e = .returned (.slice a (A.kidsOf h).length c) ∧ Own w0 B (.ints (.slice a (A.kidsOf h).length c) (A.kidsOf h) :: l) w' := by
  obtain ⟨ρ, hA⟩ := o.arena hm
  refine (Kids_any A ρ b h w hA (fun hh => (hS.get hh).1)).mono ?_
  rintro e w' ⟨hB, v, rfl, ho⟩
  obtain ⟨a, c, rfl⟩ := ownsForm ho
  exact ⟨a, c, rfl, o.newRow hB ho⟩
theorem Parent_own {w0 w : World} {B b : Nat} {A : Ar} {l : List Asrt} {h : Int} (o : Own w0 B l w) (hm : Asrt.arena b A ∈ l) :
    Calls Tryz.prog 12 #[.pointer (some ⟨b, 0, none⟩), .int .i64 h] w fun e w' => e = .returned (.int .i64 (A.parentOf h)) ∧ w = w' := by
  obtain ⟨ρ, hA⟩ := o.arena hm
  exact Parent_any A ρ b h w hA
theorem Without_own {w0 w : World} {B : Nat} {v : Value} {x : List Int} {n : Int} {l : List Asrt} (o : Own w0 B l w) (hm : Asrt.ints v x ∈ l) (hs : x.length ≤ 1000000) {y : List Int} (hy : without x n = y) :
    Calls Tryz.prog 19 #[v, .int .i64 n] w fun e w' => ∃ a c, e = .returned (.slice a y.length c) ∧ Own w0 B (.ints (.slice a y.length c) y :: l) w' := by
  subst hy
  refine (Without_any v x n w (o.ints hm) hs).mono ?_
  rintro e w' ⟨hB, v', rfl, ho⟩
  obtain ⟨a, c, rfl⟩ := ownsForm ho
  exact ⟨a, c, rfl, o.newRow hB ho⟩
theorem SameInts_own {w0 w : World} {B : Nat} {v1 v2 : Value} {x y : List Int} {l : List Asrt} (o : Own w0 B l w) (h1 : Asrt.ints v1 x ∈ l) (h2 : Asrt.ints v2 y ∈ l) :
    Calls Tryz.prog 18 #[v1, v2] w fun e w' => e = .returned (.bool (decide (x = y))) ∧ Own w0 B l w' := by
  refine (SameInts_any v1 v2 x y w (o.ints h1) (o.ints h2)).mono ?_
  rintro e w' ⟨rfl, hB⟩
  exact ⟨rfl, o.read hB⟩

end Go.Proofs.YtnfdcfagdidmhaaGreatDoor
