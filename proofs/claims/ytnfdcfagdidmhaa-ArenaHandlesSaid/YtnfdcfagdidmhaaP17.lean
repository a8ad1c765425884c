/-
  Contracts of the program's arena: the calls that read.
-/
import Derived.Test.YtnfdcfagdidmhaaP16
namespace Go.Proofs.Ytnfdcfagdidmhaa
open Go.RowKit

theorem Parent_any (A : Ar) (ρ : Nat → Nat) (b : Nat) (h : Int) (w : World) (hA : AMem w ρ b A) :
    Calls Try.prog 43 #[.pointer (some ⟨b, 0, none⟩), .int .i64 h] w fun e w' => e = .returned (.int .i64 (if A.has h then (A.get h).parent else 0)) ∧ w = w' := by
  obtain ⟨a, c, mv, h0, -, -, -, hm, hN⟩ := hA.head
  by_cases hh : A.has h
  · have hp := hh.1; have hq := hh.2; unfold Ar.n at hq
    obtain ⟨nb, rfl, hr, hnb, hfn, hNx⟩ := hN (by omega)
    obtain ⟨kv, av, F, -, -⟩ := hNx h hh
    have c1 := F.c1
    rw [if_pos hh]
    have hd : decide (A.has h) = true := by simp [hh]
    clear F hNx hN hfn hh
    go_enter Try.func43, Try.ntmps43
    go_wp2_with fail
    refine (has_any A b _ c h _ h0).mono ?_
    rintro e w' ⟨rfl, rfl⟩
    rw [hd]
    go_wp2_with fail
    refine (at_any b nb _ c h _ h0 hp hq hm).mono ?_
    rintro e w' ⟨rfl, rfl⟩
    go_wp2
    go_ret
    exact ⟨rfl, rfl⟩
  · rw [if_neg hh]
    have hd : decide (A.has h) = false := by simp [hh]
    clear hN hh
    go_enter Try.func43, Try.ntmps43
    go_wp2_with fail
    refine (has_any A b _ c h _ h0).mono ?_
    rintro e w' ⟨rfl, rfl⟩
    rw [hd]
    go_wp2
    go_ret
    exact ⟨rfl, rfl⟩

theorem Kids_any (A : Ar) (ρ : Nat → Nat) (b : Nat) (h : Int) (w : World) (hA : AMem w ρ b A) (hsm : A.has h → (A.get h).kids.length ≤ 1000000) :
    Calls Try.prog 33 #[.pointer (some ⟨b, 0, none⟩), .int .i64 h] w fun e w' => Below w.heap.size w w' ∧ ∃ v, e = .returned v ∧ w'.ownsRow w.heap.size 3 1 v (if A.has h then (A.get h).kids else []).length ((if A.has h then (A.get h).kids else []).map intv) := by
  obtain ⟨a, c, mv, h0, -, -, -, hm, hN⟩ := hA.head
  by_cases hh : A.has h
  · have hp := hh.1; have hq := hh.2; unfold Ar.n at hq
    obtain ⟨nb, rfl, hr, hnb, hfn, hNx⟩ := hN (by omega)
    obtain ⟨kv, av, F, hK, -⟩ := hNx h hh
    have c2 := F.c2
    have HC := Lib.hid (Clone_int kv _ w hK.reads (hsm hh))
    rw [if_pos hh]
    have hd : decide (A.has h) = true := by simp [hh]
    clear F hNx hN hfn hh hsm
    go_enter Try.func33, Try.ntmps33
    go_wp2_with fail
    refine (has_any A b _ c h _ h0).mono ?_
    rintro e w' ⟨rfl, rfl⟩
    rw [hd]
    go_wp2_with fail
    refine (at_any b nb _ c h _ h0 hp hq hm).mono ?_
    rintro e w' ⟨rfl, rfl⟩
    go_wp2_with fail
    refine HC.out.mono ?_
    rintro e w' ⟨hB, v, rfl, ho⟩
    have HO := Lib.hid ho
    clear ho
    go_wp2
    go_ret
    exact ⟨hB, v, rfl, HO.out⟩
  · rw [if_neg hh]
    have hd : decide (A.has h) = false := by simp [hh]
    clear hN hh
    go_enter Try.func33, Try.ntmps33
    go_wp2_with fail
    refine (has_any A b _ c h _ h0).mono ?_
    rintro e w' ⟨rfl, rfl⟩
    rw [hd]
    go_wp2
    go_ret
    exact ⟨Below.refl _ _, _, rfl, World.ownsRow_nil _ _ _ _⟩

/-- The index of a node among the children of its parent, or -1. -/
def Ar.index (A : Ar) (h : Int) : Int := if A.has h ∧ (A.get h).parent ≠ 0 then findI (fun y => decide (y = h)) (A.get (A.get h).parent).kids else -1

theorem Index_arena (A : Ar) (ρ : Nat → Nat) (b : Nat) (h : Int) (w : World) (hA : AMem w ρ b A) (hp : A.has h → (A.get h).parent ≠ 0 → A.has (A.get h).parent) :
    Calls Try.prog 39 #[.pointer (some ⟨b, 0, none⟩), .int .i64 h] w fun e w' => e = .returned (.int .i64 (A.index h)) ∧ w = w' := by
  have HP := Lib.hid (Parent_any A ρ b h w hA)
  by_cases hi : A.has h ∧ (A.get h).parent ≠ 0
  · have hpar := hp hi.1 hi.2
    obtain ⟨a, c, mv, h0, -, -, -, hm, hN⟩ := hA.head
    have hp1 := hpar.1; have hq := hpar.2; unfold Ar.n at hq
    obtain ⟨nb, rfl, hr, hnb, hfn, hNx⟩ := hN (by omega)
    obtain ⟨kv, av, F, hK, -⟩ := hNx _ hpar
    have c2 := F.c2
    have HI := Lib.hid (Index_any kv _ h w hK.reads)
    have hfin : A.index h = findI (fun y => decide (y = h)) (A.get (A.get h).parent).kids := if_pos hi
    rw [hfin]
    have hz : ((A.get h).parent == 0) = false := by simp [hi.2]
    have HH := Lib.hid hi.1
    clear F hNx hN hfn hi hfin hp hpar
    go_enter Try.func39, Try.ntmps39
    go_wp2_with fail
    refine HP.out.mono ?_
    rintro e w' ⟨rfl, rfl⟩
    rw [if_pos HH.out]
    go_wp2_with fail
    refine (at_any b nb _ c _ _ h0 hp1 hq hm).mono ?_
    rintro e w' ⟨rfl, rfl⟩
    go_wp2_with fail
    refine HI.out.mono ?_
    rintro e w' ⟨rfl, rfl⟩
    go_wp2
    go_ret
    exact ⟨rfl, rfl⟩
  · have hz : (if A.has h then (A.get h).parent else 0) = 0 := by
      by_cases hh : A.has h
      · rw [if_pos hh]; exact Classical.not_not.1 (fun e => hi ⟨hh, e⟩)
      · rw [if_neg hh]
    have hfin : A.index h = -1 := if_neg hi
    rw [hfin]
    have HZ := Lib.hid hz
    clear hi hfin hz hp
    go_enter Try.func39, Try.ntmps39
    go_wp2_with fail
    refine HP.out.mono ?_
    rintro e w' ⟨rfl, rfl⟩
    rw [HZ.out]
    go_wp2
    go_ret
    exact ⟨rfl, rfl⟩

theorem Contains_no (A : Ar) (ρ : Nat → Nat) (b : Nat) (u h : Int) (w : World) (hA : AMem w ρ b A) (hno : ¬ (A.has u ∧ A.has h)) :
    Calls Try.prog 37 #[.pointer (some ⟨b, 0, none⟩), .int .i64 u, .int .i64 h] w fun e w' => e = .returned (.bool false) ∧ Below w.heap.size w w' := by
  obtain ⟨a, c, mv, h0, -, -, hlt, hm, -⟩ := hA.head
  have h0' := cell_old' (.cells #[.bool false] 4) (cell_old' (.cells #[.int .i64 u] 3) h0)
  have hB : Below w.heap.size w ((w.alloc (.cells #[.int .i64 u] 3)).alloc (.cells #[.bool false] 4)) := ((Below.refl _ w).alloc (Nat.le_refl _) _).alloc (by simp) _
  by_cases hu : A.has u
  · have hu1 : decide (A.has u) = true := by simp [hu]
    have hh1 : decide (A.has h) = false := by simp; exact fun e => hno ⟨hu, e⟩
    clear hno hu
    go_enter Try.func37, Try.ntmps37
    go_wp2_with fail
    refine (has_any A b a c u _ h0').mono ?_
    rintro e w2 ⟨rfl, rfl⟩
    rw [hu1]
    go_wp2_with fail
    refine (has_any A b a c h _ h0').mono ?_
    rintro e w2 ⟨rfl, rfl⟩
    rw [hh1]
    go_wp2
    refine bodyPost_ret (v := .bool false) ?_ rfl ⟨rfl, hB⟩
    simp [results, Try.f37, go_sem]
  · have hu1 : decide (A.has u) = false := by simp [hu]
    clear hno hu
    go_enter Try.func37, Try.ntmps37
    go_wp2_with fail
    refine (has_any A b a c u _ h0').mono ?_
    rintro e w2 ⟨rfl, rfl⟩
    rw [hu1]
    go_wp2
    refine bodyPost_ret (v := .bool false) ?_ rfl ⟨rfl, hB⟩
    simp [results, Try.f37, go_sem]

end Go.Proofs.Ytnfdcfagdidmhaa
