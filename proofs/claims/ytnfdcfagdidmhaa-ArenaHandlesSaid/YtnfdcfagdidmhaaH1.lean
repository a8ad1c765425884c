/-
  The law ArenaHandles: what the calls do to the numbers. No walk here.
-/
import Derived.Test.YtnfdcfagdidmhaaArX
namespace Go.Proofs.Ytnfdcfagdidmhaa
set_option linter.unusedVariables false

theorem ofDoc_ne {A : Ar} {d : Int} (h : A.ofDoc d ≠ 0) : 0 < A.ofDoc d := by
  unfold Ar.ofDoc at h ⊢
  repeat' split
  all_goals simp_all
theorem mod_n' (A : Ar) (x : Int) (f : Nd → Nd) : (A.mod x f).ns.length = A.ns.length := by simp [Ar.mod]
theorem set_lens (A : Ar) (h d : Int) (s : ByteArray) (l : List AttrD) (q : Bool) : (A.setData h s).2.ns.length = A.ns.length ∧ (A.setAttrs h l).2.ns.length = A.ns.length ∧ (A.setQuirks h q).2.ns.length = A.ns.length ∧ (A.setDoc h d).2.ns.length = A.ns.length := by
  refine ⟨?_, ?_, ?_, ?_⟩
  · unfold Ar.setData; repeat' split
    all_goals first | rfl | exact mod_n' _ _ _
  · unfold Ar.setAttrs; repeat' split
    all_goals first | rfl | exact mod_n' _ _ _
  · unfold Ar.setQuirks; repeat' split
    all_goals first | rfl | exact mod_n' _ _ _
  · unfold Ar.setDoc; repeat' split
    all_goals first | rfl | exact mod_n' _ _ _

/-- Whether an operation has created a node. -/
def createdP (x : OpD) (e : Int) : Prop := 1 ≤ x.kind ∧ x.kind ≤ 6 ∧ e = 0

theorem make_handles (A : Ar) (d : Int) (n : Nd) : ((A.make d n).1.2 = 0 → (A.make d n).1.1 = A.n + 1 ∧ A.n + 1 ≤ (A.make d n).2.n) ∧ ((A.make d n).1.2 ≠ 0 → (A.make d n).2.ns.length = A.ns.length) := by
  unfold Ar.make
  split
  · rename_i h; exact ⟨fun e => absurd e h, fun _ => rfl⟩
  · exact ⟨fun _ => ⟨rfl, by rw [Ar.add_n]; exact Int.le_refl _⟩, fun e => absurd rfl e⟩
theorem inertOf_n_le (B : Ar) (d : Int) : B.n ≤ (B.inertOf d).2.n := by have := (Ar.ext_inertOf B d).le; unfold Ar.n; omega
theorem element_handles (A : Ar) (d s : Int) (nm : ByteArray) (l : List AttrD) : ((A.element d s nm l).1.2 = 0 → (A.element d s nm l).1.1 = A.n + 1 ∧ A.n + 1 ≤ (A.element d s nm l).2.n) ∧ ((A.element d s nm l).1.2 ≠ 0 → (A.element d s nm l).2.ns.length = A.ns.length) := by
  have hE := (Ar.ext_element A d s nm l)
  unfold Ar.element at hE ⊢
  split
  · rename_i h; exact ⟨fun e => absurd e h, fun _ => rfl⟩
  · split
    · exact ⟨fun e => absurd e (show (2:Int) ≠ 0 by decide), fun _ => rfl⟩
    · dsimp only
      split
      · refine ⟨fun _ => ⟨rfl, ?_⟩, fun e => absurd rfl e⟩
        rw [Ar.mod_n, Ar.add_n]
        refine Int.le_trans ?_ (Int.add_le_add_right (inertOf_n_le _ _) 1)
        rw [Ar.add_n]; omega
      · exact ⟨fun _ => ⟨rfl, by rw [Ar.add_n]; exact Int.le_refl _⟩, fun e => absurd rfl e⟩

theorem handles_law {A : Ar} (hI : A.Inv) (x : OpD) : (createdP x (A.step x).1.2 → (A.step x).1.1 = A.n + 1 ∧ A.n + 1 ≤ (A.step x).2.n) ∧ (¬ createdP x (A.step x).1.2 → x.kind ≠ 7 → (A.step x).2.ns.length = A.ns.length) := by
  refine step_rec (P := fun r => (createdP x r.1.2 → r.1.1 = A.n + 1 ∧ A.n + 1 ≤ r.2.n) ∧ (¬ createdP x r.1.2 → x.kind ≠ 7 → r.2.ns.length = A.ns.length)) ?_ ?_ ?_ ?_ ?_ ?_ ?_ ?_ ?_ ?_ ?_ ?_ ?_ ?_ <;> intro hk
  · exact ⟨fun _ => ⟨rfl, by unfold Ar.document; rw [Ar.add_n]; exact Int.le_refl _⟩, fun h => absurd ⟨by omega, by omega, rfl⟩ h⟩
  · exact ⟨fun h => (make_handles A _ _).1 h.2.2, fun h _ => (make_handles A _ _).2 (fun e => h ⟨by omega, by omega, e⟩)⟩
  · exact ⟨fun h => (element_handles A _ _ _ _).1 h.2.2, fun h _ => (element_handles A _ _ _ _).2 (fun e => h ⟨by omega, by omega, e⟩)⟩
  · exact ⟨fun h => (make_handles A _ _).1 h.2.2, fun h _ => (make_handles A _ _).2 (fun e => h ⟨by omega, by omega, e⟩)⟩
  · exact ⟨fun h => (make_handles A _ _).1 h.2.2, fun h _ => (make_handles A _ _).2 (fun e => h ⟨by omega, by omega, e⟩)⟩
  · exact ⟨fun h => (make_handles A _ _).1 h.2.2, fun h _ => (make_handles A _ _).2 (fun e => h ⟨by omega, by omega, e⟩)⟩
  · exact ⟨fun h => by have := h.2.1; omega, fun _ h => absurd hk h⟩
  · refine ⟨fun h => by have := h.2.1; omega, fun _ _ => ?_⟩
    dsimp only
    unfold Ar.put
    split
    · rfl
    · have := Ar.place_n A x.a x.b x.c; unfold Ar.n at this; dsimp only; omega
  · refine ⟨fun h => by have := h.2.1; omega, fun _ _ => ?_⟩
    dsimp only
    unfold Ar.cutCall
    split
    · exact Ar.cut_ns A _
    · rfl
  · exact ⟨fun h => by have := h.2.1; omega, fun _ _ => (set_lens A x.a 0 x.s [] false).1⟩
  · exact ⟨fun h => by have := h.2.1; omega, fun _ _ => (set_lens A x.a 0 x.s x.attrs false).2.1⟩
  · exact ⟨fun h => by have := h.2.1; omega, fun _ _ => (set_lens A x.a 0 x.s [] x.flag).2.2.1⟩
  · exact ⟨fun h => by have := h.2.1; omega, fun _ _ => (set_lens A x.a x.b x.s [] false).2.2.2⟩
  · refine ⟨fun h => ?_, fun _ _ => rfl⟩
    exact absurd rfl (hk x.kind h.1 (by have := h.2.1; omega))

theorem ext_kinds {A A' : Ar} (h : A.Ext A') {j : Nat} (hj : j < A.ns.length) : ∃ n n', A.ns[j]? = some n ∧ A'.ns[j]? = some n' ∧ n'.kind = n.kind := by
  have hh : A.has ((j : Int) + 1) := ⟨by omega, by unfold Ar.n; omega⟩
  have h1 := Ar.get_some hh
  have h2 := Ar.get_some (h.has hh)
  rw [show ((j : Int) + 1).toNat - 1 = j from by omega] at h1 h2
  exact ⟨_, _, h1, h2, h.kind _ hh⟩

end Go.Proofs.Ytnfdcfagdidmhaa
