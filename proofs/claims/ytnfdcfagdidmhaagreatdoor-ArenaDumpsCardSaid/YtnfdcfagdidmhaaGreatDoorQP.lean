/-
  What Dump writes, as plain data: the lines of a tree. No program here.
-/
import Derived.Test.YtnfdcfagdidmhaaGreatDoorW1
import Derived.Test.YtnfdcfagdidmhaaGreatDoorQA
namespace Go.Proofs.YtnfdcfagdidmhaaGreatDoor
set_option linter.unusedVariables false
def dumpF (A : Ar) : Nat → Int → Nat → List UInt8
  | 0, _, _ => []
  | f + 1, h, d => lineD (A.get h) d ++ ((if (A.get h).contents ≠ 0 then dumpF A f (A.get h).contents (d + 1) else []) ++ (A.get h).kids.flatMap (fun k => dumpF A f k (d + 1)))
/-- The preorder of a node as text. -/
def Ar.dump (A : Ar) (h : Int) (d : Nat) : List UInt8 := if A.has h then dumpF A A.ns.length h d else []

theorem dumpF_fuel {A : Ar} (hI : A.Inv) : ∀ (f : Nat) (h : Int) (d : Nat), A.has h → A.ns.length + 1 ≤ f + A.depth h → dumpF A f h d = dumpF A (f + 1) h d
  | 0, h, d, hh, hf => by have := depth_le hI hh; omega
  | f + 1, h, d, hh, hf => by
    rw [dumpF, dumpF]
    congr 1
    congr 1
    · split
      · rename_i hc
        obtain ⟨h1, h2, _⟩ := contents_up hI hh hc
        exact dumpF_fuel hI f _ _ h1 (by rw [depth_link hI h1 hh h2]; omega)
      · rfl
    · refine flatMap_congr' (fun k hk => ?_)
      obtain ⟨h1, h2, _⟩ := kid_up hI hh hk
      exact dumpF_fuel hI f _ _ h1 (by rw [depth_link hI h1 hh h2]; omega)
theorem dump_eq {A : Ar} (hI : A.Inv) {h : Int} (hh : A.has h) (d : Nat) : A.dump h d = lineD (A.get h) d ++ ((if (A.get h).contents ≠ 0 then A.dump (A.get h).contents (d + 1) else []) ++ (A.get h).kids.flatMap (fun k => A.dump k (d + 1))) := by
  have h1 : A.dump h d = dumpF A A.ns.length h d := if_pos hh
  have hd := depth_pos hI hh
  rw [h1, dumpF_fuel hI _ h d hh (by omega), dumpF]
  congr 1
  congr 1
  · split
    · rename_i hc
      exact (if_pos (contents_up hI hh hc).1).symm
    · rfl
  · refine flatMap_congr' (fun k hk => ?_)
    exact (if_pos (kid_up hI hh hk).1).symm

theorem flat_bound {f : Int → List UInt8} {g : Int → List Int} {m : Nat} : ∀ (l : List Int), (∀ k ∈ l, (f k).length ≤ (g k).length * m) → (l.flatMap f).length ≤ (l.flatMap g).length * m
  | [], _ => by simp
  | k :: l, h => by
    have h1 := h k (by simp)
    have h2 := flat_bound l (fun x hx => h x (by simp [hx]))
    simp only [List.flatMap_cons, List.length_append, Nat.add_mul]; omega
/-- How long a dump is at most. -/
theorem dump_len {A : Ar} (hI : A.Inv) {M : Nat} (hM : ∀ x, A.has x → (lineL (A.get x)).length ≤ M) : ∀ h, A.has h → ∀ d, (A.dump h d).length ≤ (A.walk h).length * (2 * (d + (A.ns.length - A.depth h)) + M + 1) := by
  refine walk_ind hI (fun h hh hc hk d => ?_)
  have hd := depth_le hI hh
  rw [dump_eq hI hh, walk_eq hI hh]
  have hl : (lineD (A.get h) d).length ≤ 2 * (d + (A.ns.length - A.depth h)) + M + 1 := by
    have := hM h hh
    unfold lineD; simp only [List.length_append, List.length_replicate, List.length_cons, List.length_nil]; omega
  have h1 : (if (A.get h).contents ≠ 0 then A.dump (A.get h).contents (d + 1) else []).length ≤ (if (A.get h).contents ≠ 0 then A.walk (A.get h).contents else []).length * (2 * (d + (A.ns.length - A.depth h)) + M + 1) := by
    by_cases q : (A.get h).contents ≠ 0
    · obtain ⟨z1, z2, _⟩ := contents_up hI hh q
      have := hc q (d + 1)
      have e := depth_link hI z1 hh z2
      have e2 := depth_le hI z1
      rw [if_pos q, if_pos q]
      rw [show 2 * (d + 1 + (A.ns.length - A.depth (A.get h).contents)) + M + 1 = 2 * (d + (A.ns.length - A.depth h)) + M + 1 by omega] at this
      exact this
    · rw [if_neg q, if_neg q]; simp
  have h2 : ((A.get h).kids.flatMap (fun k => A.dump k (d + 1))).length ≤ ((A.get h).kids.flatMap A.walk).length * (2 * (d + (A.ns.length - A.depth h)) + M + 1) := by
    refine flat_bound _ (fun k hkk => ?_)
    obtain ⟨z1, z2, _⟩ := kid_up hI hh hkk
    have := hk k hkk (d + 1)
    have e := depth_link hI z1 hh z2
    have e2 := depth_le hI z1
    rw [show 2 * (d + 1 + (A.ns.length - A.depth k)) + M + 1 = 2 * (d + (A.ns.length - A.depth h)) + M + 1 by omega] at this
    exact this
  simp only [List.length_append, List.length_cons, Nat.add_mul, Nat.one_mul] at *
  omega
end Go.Proofs.YtnfdcfagdidmhaaGreatDoor
