/-
  What the calls of the chapter's first examples do, computed. No walk here.
-/
import Derived.Test.YtnfdcfagdidmhaaR1
namespace Go.Proofs.Ytnfdcfagdidmhaa

def kn1 : Ar := Ar.new.document false
def kn2 : Ar := (kn1.element 1 1 ⟨#[116, 101, 109, 112, 108, 97, 116, 101]⟩ []).2
def kn3 : Ar := (kn2.element 1 1 ⟨#[112]⟩ []).2
def kn4 : Ar := (kn3.put 4 5 0).2

theorem kn_a : Ar.new.n + 1 = 1 ∧ (kn1.element 1 1 ⟨#[116, 101, 109, 112, 108, 97, 116, 101]⟩ []).1 = (2, 0) := by decide +kernel
theorem kn_b : kn2.has 2 ∧ (kn2.get 2).contents = 4 ∧ kn2.has 4 ∧ (kn2.get 4).host = 2 ∧ (kn2.get 4).doc = 3 ∧ kn2.n = 4 := by decide +kernel
theorem kn_c : (kn2.element 1 1 ⟨#[112]⟩ []).1 = (5, 0) := by decide +kernel
theorem kn_d : (kn3.put 4 5 0).1 = 0 := by decide +kernel
theorem kn_e : (kn4.put 5 2 0).1 = 4 ∧ (kn4.put 4 2 0).1 = 4 := by decide +kernel
theorem kn_f : kn4.contains 2 5 = true ∧ kn4.root 5 = 4 := by decide +kernel
theorem kn_len : kn1.ns.length = 1 ∧ kn2.ns.length = 4 ∧ kn3.ns.length = 5 ∧ kn4.ns.length = 5 := by decide +kernel
theorem put_err {A : Ar} {p n b : Int} (h : (A.put p n b).1 ≠ 0) : (A.put p n b).2 = A := by
  unfold Ar.put at h ⊢
  split
  · rfl
  · rename_i h2; rw [if_neg h2] at h; exact absurd rfl h
theorem kn_i1 : kn1.Inv := Ar.InvX.document inv_new false
theorem kn_i2 : kn2.Inv := Ar.Inv.element kn_i1 _ _ _ _ (by simp)
theorem kn_i3 : kn3.Inv := Ar.Inv.element kn_i2 _ _ _ _ (by simp)
theorem kn_i4 : kn4.Inv := Ar.Inv.put kn_i3 _ _ _

theorem Ar.Inv.short {A : Ar} (hI : A.Inv) (h : A.ns.length ≤ 1000000) : A.Short := by
  refine ⟨h, fun n hn => ?_⟩
  obtain ⟨i, hi, rfl⟩ := List.getElem_of_mem hn
  have hh : A.has ((i : Int) + 1) := ⟨by omega, by unfold Ar.n; omega⟩
  have hg : A.get ((i : Int) + 1) = A.ns[i] := by
    simp [Ar.get, hi]
  rw [← hg]
  exact ⟨Nat.le_trans (Ar.kids_len hI.wf hh) h, Nat.le_trans (hI.loc _ hh).at3 (by omega)⟩

end Go.Proofs.Ytnfdcfagdidmhaa
