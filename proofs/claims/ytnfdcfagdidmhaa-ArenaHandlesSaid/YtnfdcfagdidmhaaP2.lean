/-
  Contracts of the program's arena: document, template, spaces, once.
-/
import Derived.Test.YtnfdcfagdidmhaaP1
namespace Go.Proofs.Ytnfdcfagdidmhaa
open Go.RowKit

theorem document_any (A : Ar) (ρ : Nat → Nat) (b : Nat) (d : Int) (w : World) (hA : AMem w ρ b A) :
    Calls Try.prog 65 #[.pointer (some ⟨b, 0, none⟩), .int .i64 d] w fun e w' => e = .returned (.int .i64 (A.ofDoc d)) ∧ Below w.heap.size w w' := by
  obtain ⟨a, c, mv, h0, h1, hf, hlt, hm, hN⟩ := hA.head
  by_cases hh : A.has d
  · have hck : (checkL A [d] != 0) = false := by simp [checkL, hh]
    have hp := hh.1; have hq := hh.2; unfold Ar.n at hq
    obtain ⟨nb, rfl, hr, hnb, hfn, hNx⟩ := hN (by omega)
    obtain ⟨kv, av, F, -, -⟩ := hNx d hh
    have c0 := Below.old (below_alloc w (.cells #[.int .i64 d] 3)) F.c0
    have h0' := Below.old (below_alloc w (.cells #[.int .i64 d] 3)) h0
    by_cases hk : (A.get d).kind = 1
    · have hk1 : ((A.get d).kind != 1) = false := by simp [hk]
      have hfin : A.ofDoc d = 0 := by simp [Ar.ofDoc, hh, hk]
      have Hfin := Lib.hid hfin
      clear hfin hk F hNx hN hh
      go_enter Try.func65, Try.ntmps65
      go_wp2_with fail
      refine (check_any A b _ c _ [d] _ h0' (RInts_new1 _ _ _)).mono ?_
      rintro e w' ⟨rfl, rfl⟩
      go_wp2_with (go_at_call 68; refine (at_any b nb _ c d _ h0' hp hq hm).mono ?_; rintro e w' ⟨rfl, rfl⟩)
      go_ret
      exact ⟨ret_int Hfin.out.symm, below_alloc _ _⟩
    · have hk1 : ((A.get d).kind != 1) = true := by simp [hk]
      have hfin : A.ofDoc d = 9 := by simp [Ar.ofDoc, hh, hk]
      have Hfin := Lib.hid hfin
      clear hfin hk F hNx hN hh
      go_enter Try.func65, Try.ntmps65
      go_wp2_with fail
      refine (check_any A b _ c _ [d] _ h0' (RInts_new1 _ _ _)).mono ?_
      rintro e w' ⟨rfl, rfl⟩
      go_wp2_with (go_at_call 68; refine (at_any b nb _ c d _ h0' hp hq hm).mono ?_; rintro e w' ⟨rfl, rfl⟩)
      go_ret
      exact ⟨ret_int Hfin.out.symm, below_alloc _ _⟩
  · have hck0 : checkL A [d] = 3 := by simp [checkL, hh]
    have hfin : A.ofDoc d = 3 := by simp [Ar.ofDoc, hh]
    have Hfin := Lib.hid hfin
    clear hfin hN hh
    have h0' := Below.old (below_alloc w (.cells #[.int .i64 d] 3)) h0
    go_enter Try.func65, Try.ntmps65
    go_wp2_with fail
    refine (check_any A b _ c _ [d] _ h0' (RInts_new1 _ _ _)).mono ?_
    rintro e w' ⟨rfl, rfl⟩
    go_wp2
    go_ret
    exact ⟨ret_int Hfin.out.symm, below_alloc _ _⟩

/-- 'template' at a stored node (or at a description that lies in memory). -/
theorem template_any (nb o : Nat) (n : Nd) (kv av : Value) (w : World) (F : NodeF w nb o n kv av) :
    Calls Try.prog 73 #[.pointer (some ⟨nb, o, none⟩)] w fun e w' => e = .returned (.bool (decide (isTemplate n))) ∧ w = w' := by
  have c0 := F.c0; have c4 := F.c4; have c5 := F.c5
  clear F
  by_cases h1 : n.kind = 4
  · have e1 : (n.kind == 4) = true := by simp [h1]
    by_cases h2 : n.space = 1
    · have e2 : (n.space == 1) = true := by simp [h2]
      have hfin : decide (isTemplate n) = (n.name.toList == [116, 101, 109, 112, 108, 97, 116, 101]) := by rw [Bool.eq_iff_iff]; simp [isTemplate, h1, h2, templateL]
      have Hfin := Lib.hid hfin
      clear hfin h1 h2
      go_enter Try.func73, Try.ntmps73
      go_wp2
      go_ret
      exact ⟨ret_bool Hfin.out.symm, rfl⟩
    · have e2 : (n.space == 1) = false := by simp [h2]
      have hfin : decide (isTemplate n) = false := by simp [isTemplate, h2]
      have Hfin := Lib.hid hfin
      clear hfin h1 h2
      go_enter Try.func73, Try.ntmps73
      go_wp2
      go_ret
      exact ⟨ret_bool Hfin.out.symm, rfl⟩
  · have e1 : (n.kind == 4) = false := by simp [h1]
    have hfin : decide (isTemplate n) = false := by simp [isTemplate, h1]
    have Hfin := Lib.hid hfin
    clear hfin h1
    go_enter Try.func73, Try.ntmps73
    go_wp2
    go_ret
    exact ⟨ret_bool Hfin.out.symm, rfl⟩

end Go.Proofs.Ytnfdcfagdidmhaa
