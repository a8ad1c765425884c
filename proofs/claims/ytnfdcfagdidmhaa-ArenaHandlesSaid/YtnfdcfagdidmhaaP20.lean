/-
  Contracts of the program's arena: New, Inert, Element.
-/
import Derived.Test.YtnfdcfagdidmhaaP19
namespace Go.Proofs.Ytnfdcfagdidmhaa
open Go.RowKit

/-- The roles of a new arena. -/
def newRoles (b : Nat) : Nat → Nat := fun k => if k = b then 1 else 0

theorem AMem.new (w : World) : AMem (w.alloc (.cells #[.slice none 0 0, .map none] 92)) (newRoles w.heap.size) w.heap.size Ar.new := by
  refine ⟨fun k hk => ?_, by simp [newRoles], rfl, .slice none 0 0, .map none, heap_alloc_new _ _, ⟨[], ⟨World.ownsRow_nil _ _ _ _, fun g hg => by simp [Value.ownBlock] at hg⟩, rfl, fun i n hn => by simp [Ar.new] at hn⟩, [], fun k => ?_, List.nodup_nil, .inl ⟨rfl, rfl⟩⟩
  · unfold newRoles at hk
    split at hk
    · rename_i e; rw [e]; simp
    · exact absurd rfl hk
  · have : (Ar.new).inert[k.toNat]?.getD 0 = 0 := by
      simp only [Ar.new]
      cases h : ([(0 : Int)])[k.toNat]? with
      | none => rfl
      | some x => have := List.mem_of_getElem? h; simp at this; simp [this]
    simp [this]

theorem New_any (w : World) : Calls Try.prog 26 #[] w fun e w' => e = .returned (.pointer (some ⟨w.heap.size, 0, none⟩)) ∧ w' = w.alloc (.cells #[.slice none 0 0, .map none] 92) := by
  go_enter Try.func26, Try.ntmps26
  go_wp2
  go_ret
  exact ⟨rfl, rfl⟩

theorem Inert_any (A : Ar) (ρ : Nat → Nat) (b : Nat) (d : Int) (w : World) (hA : AMem w ρ b A) (hsmall : A.ns.length ≤ 1000000) :
    Calls Try.prog 21 #[.pointer (some ⟨b, 0, none⟩), .int .i64 d] w (AddR (A.inertCall d).2 ρ b w (pairV (A.inertCall d).1)) := by
  have HD := Lib.hid (document_any A ρ b d w hA)
  by_cases he : A.ofDoc d = 0
  · have hfin : A.inertCall d = (((A.inertOf d).1, 0), (A.inertOf d).2) := by simp [Ar.inertCall, he]
    rw [hfin]
    have HH := Lib.hid (ofDoc_has he)
    go_enter Try.func21, Try.ntmps21
    go_wp2_with fail
    refine HD.out.mono ?_
    rintro e w1 ⟨rfl, hB⟩
    rw [he]
    clear hfin he
    go_wp2_with fail
    refine (inertOf_any A ρ b d w1 (hA.below hB) HH.out hsmall).mono ?_
    rintro e w2 ⟨rfl, ρ', hA2, hT2⟩
    go_wp2
    go_ret2
    exact ⟨rfl, ρ', hA2, (Turn.below hB).trans hT2⟩
  · have hfin : A.inertCall d = ((0, A.ofDoc d), A) := by simp [Ar.inertCall, he]
    rw [hfin]
    have he1 : (A.ofDoc d != 0) = true := by simp [he]
    go_enter Try.func21, Try.ntmps21
    go_wp2_with fail
    refine HD.out.mono ?_
    rintro e w1 ⟨rfl, hB⟩
    go_wp2
    go_ret2
    exact ⟨rfl, ρ, hA.below hB, Turn.below hB⟩

end Go.Proofs.Ytnfdcfagdidmhaa
