/-
  The law ArenaInert: what the calls answer (plain), and the walk.
-/
import Derived.Test.YtnfdcfagdidmhaaGreatDoorGE
namespace Go.Proofs.YtnfdcfagdidmhaaGreatDoor
open Go.RowKit
set_option linter.unusedVariables false

def templB : ByteArray := ⟨#[116, 101, 109, 112, 108, 97, 116, 101]⟩

/-- What the law's calls answer. -/
theorem inert_law {A : Ar} (hI : A.Inv) {d : Int} (hd : A.ofDoc d = 0) : ∃ i A1 A2, A.inertCall d = ((i, 0), A1) ∧ A1.Inv ∧ A1.has i ∧ (A1.get i).kind = 1 ∧ (A1.get i).doc = i ∧ (A.n < i → (A1.get i).quirks = false) ∧
    A1.inertCall d = ((i, 0), A1) ∧ A1.inertCall i = ((i, 0), A1) ∧ A1.element d 1 templB [] = ((A1.n + 1, 0), A2) ∧ A2.Inv ∧ A2.has (A1.n + 1) ∧ (A2.get (A1.n + 1)).doc = d ∧ (A2.get (A1.n + 1)).contents = A1.n + 2 ∧
    A2.has (A1.n + 2) ∧ (A2.get (A1.n + 2)).doc = i ∧ (A2.get (A1.n + 2)).kind = 2 ∧ (A2.get (A1.n + 2)).host = A1.n + 1 ∧ A1.ns.length ≤ A.ns.length + 1 ∧ A2.ns.length ≤ A1.ns.length + 3 := by
  have hdh := ofDoc_has hd
  have hdk := ofDoc_kind hd
  have hI1 : (A.inertOf d).2.Inv := Ar.InvX.inertOf hI hdh
  obtain ⟨hi1, hi2⟩ := Ar.InvX.inertVal hI hdh
  have hcall : A.inertCall d = (((A.inertOf d).1, 0), (A.inertOf d).2) := by simp [Ar.inertCall, hd]
  obtain ⟨hg1, hg2⟩ := Ar.inertOf_get (d := d) hdh
  have hlen := (Ar.inertOf_len A d).2
  have hq : A.n < (A.inertOf d).1 → ((A.inertOf d).2.get (A.inertOf d).1).quirks = false := by
    unfold Ar.inertOf
    split
    · rename_i h
      intro hlt
      have := (hI.inert d h).2.1.2
      dsimp only at hlt; omega
    · intro _
      show ((A.document false).get (A.n + 1)).quirks = false
      rw [Ar.document, Ar.add_new]
  have hat : (A.inertOf d).2.inertAt d = (A.inertOf d).1 := by
    by_cases h : A.inertAt d ≠ 0
    · unfold Ar.inertOf; rw [if_pos h]
    · unfold Ar.inertOf; rw [if_neg h]
      have hl : (A.document false).inert.length = A.ns.length + 2 := by simp [Ar.document, Ar.add, hI.wf.inert]
      have h1 := hdh.1; have h2 := hdh.2; unfold Ar.n at h2
      show (((A.document false).inert.set d.toNat (A.n + 1)).set (A.n + 1).toNat (A.n + 1))[d.toNat]?.getD 0 = A.n + 1
      rw [set2_get (by omega) (by unfold Ar.n; omega)]
      split
      · rfl
      · rw [if_pos rfl]
  generalize hA1 : (A.inertOf d).2 = A1 at *
  generalize hi : (A.inertOf d).1 = i at *
  have hin : ∀ x, A1.has x → (A1.get x).kind = 1 → A1.inertAt x = i → A1.inertCall x = ((i, 0), A1) := fun x hx hk hxi => by
    have he : A1.ofDoc x = 0 := by unfold Ar.ofDoc; rw [if_neg (fun h => h hx), if_neg (fun h => h hk)]
    have hne : A1.inertAt x ≠ 0 := by rw [hxi]; intro e; rw [e] at hi1; exact has_zero A1 hi1
    have : A1.inertOf x = (i, A1) := by unfold Ar.inertOf; rw [if_pos hne, hxi]
    simp [Ar.inertCall, he, this]
  have hne : A1.inertAt d ≠ 0 := by rw [hat]; intro e; rw [e] at hi1; exact has_zero A1 hi1
  obtain ⟨-, -, -, hii⟩ := hI1.inert d hne
  rw [hat] at hii
  have hdk1 : (A1.get d).kind = 1 := by rw [hg1]; exact hdk
  have he1 : A1.ofDoc d = 0 := by unfold Ar.ofDoc; rw [if_neg (fun h => h hg2), if_neg (fun h => h hdk1)]
  have hT : isTemplate (elemNd d 1 templB []) := ⟨rfl, rfl, show templB.toList = templateL from by decide +kernel⟩
  have hel := elem_templ he1 (show inSpaces 1 ∧ attrSpaces [] from ⟨by decide, by decide⟩) hT
  have hio : (A1.add (elemNd d 1 templB [])).inertOf d = (i, A1.add (elemNd d 1 templB [])) := by
    unfold Ar.inertOf
    rw [Ar.add_inertAt hI1.wf.inert, if_pos hne, hat]
  rw [hio] at hel
  have hI2 := hI1.element d 1 templB [] (by simp)
  have hl2 : (A1.element d 1 templB []).2.ns.length ≤ A1.ns.length + 3 := by
    rw [hel]; simp only [mod_len, add_len]; omega
  have hn1 : (A1.add (elemNd d 1 templB [])).n = A1.n + 1 := Ar.add_n _ _
  dsimp only at hel
  rw [hn1] at hel
  refine ⟨i, A1, (A1.element d 1 templB []).2, hcall, hI1, hi1, hi2, hI1.docS i hi1 hi2, hq, hin d hg2 hdk1 hat, hin i hi1 hi2 hii, by rw [hel], hI2, ?_, ?_, ?_, ?_, ?_, ?_, ?_, hlen, hl2⟩
  all_goals rw [hel]; dsimp only
  all_goals
    have hx1 : (A1.add (elemNd d 1 templB [])).has (A1.n + 1) := (Ar.add_has _ _ _).2 (.inr rfl)
    have hx2 : ((A1.add (elemNd d 1 templB [])).add { zeroNd with kind := 2, host := A1.n + 1, doc := i }).has (A1.n + 1) := (Ar.add_has _ _ _).2 (.inl hx1)
    have hx3 : ((A1.add (elemNd d 1 templB [])).add { zeroNd with kind := 2, host := A1.n + 1, doc := i }).has (A1.n + 2) := (Ar.add_has _ _ _).2 (.inr (by rw [hn1]; omega))
    have hnn : A1.n + 2 = (A1.add (elemNd d 1 templB [])).n + 1 := by rw [hn1]; omega
  · exact (Ar.mod_has _ _ _ _).2 hx2
  · rw [show contNd (A1.n + 1) i = { zeroNd with kind := 2, host := A1.n + 1, doc := i } from rfl, Ar.mod_get _ hx2 hx2, if_pos rfl, Ar.add_old _ hx1, Ar.add_new]; rfl
  · rw [show contNd (A1.n + 1) i = { zeroNd with kind := 2, host := A1.n + 1, doc := i } from rfl, Ar.mod_get _ hx2 hx2, if_pos rfl]; dsimp only; omega
  · exact (Ar.mod_has _ _ _ _).2 hx3
  · rw [show contNd (A1.n + 1) i = { zeroNd with kind := 2, host := A1.n + 1, doc := i } from rfl, Ar.mod_get _ hx2 hx3, if_neg (by omega), hnn, Ar.add_new]
  · rw [show contNd (A1.n + 1) i = { zeroNd with kind := 2, host := A1.n + 1, doc := i } from rfl, Ar.mod_get _ hx2 hx3, if_neg (by omega), hnn, Ar.add_new]
  · rw [show contNd (A1.n + 1) i = { zeroNd with kind := 2, host := A1.n + 1, doc := i } from rfl, Ar.mod_get _ hx2 hx3, if_neg (by omega), hnn, Ar.add_new]

end Go.Proofs.YtnfdcfagdidmhaaGreatDoor
