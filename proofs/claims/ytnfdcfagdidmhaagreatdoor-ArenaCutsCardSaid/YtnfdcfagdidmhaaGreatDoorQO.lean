/-
  sync.Once on memory of the call's own: the lock is free, nothing is done yet. (Turned from the kit's worked proofs over sync.Once.)
-/
import Derived.Test.YtnfdcfagdidmhaaGreatDoorQA
import Derived.Test.YtnfdcfagdidmhaaGreatDoorChecked
import Derived.Tactics
import Derived.Tactics2
import Derived.Defers
import Derived.Laws.Pointers
import Derived.Laws.LoneSync
import Derived.RegionTactic
import Derived.RegionCalls
import Derived.ChangeAlike
import Derived.BigRegion
import Derived.Lib.Hide
namespace Go.Proofs.YtnfdcfagdidmhaaGreatDoor
open Go.RowKit
set_option linter.unusedVariables false

theorem q_disable (w : World) : (callFunc 157 #[]).run Tryz.prog w = .ok (.value (.tuple #[])) w := run_call_mark0 Tryz.func157 (by kernel_rfl) (by kernel_rfl) (by kernel_rfl) .disable (by kernel_rfl) w
theorem q_enable (w : World) : (callFunc 159 #[]).run Tryz.prog w = .ok (.value (.tuple #[])) w := run_call_mark0 Tryz.func159 (by kernel_rfl) (by kernel_rfl) (by kernel_rfl) .enable (by kernel_rfl) w
theorem q_acquire (a : Addr) (w : World) : (callFunc 160 #[.pointer (some a)]).run Tryz.prog w = .ok (.value (.tuple #[])) w := run_call_marked Tryz.func160 (by kernel_rfl) (by kernel_rfl) (by kernel_rfl) .acquire (by kernel_rfl) a w
theorem q_releaseMerge (a : Addr) (w : World) : (callFunc 162 #[.pointer (some a)]).run Tryz.prog w = .ok (.value (.tuple #[])) w := run_call_marked Tryz.func162 (by kernel_rfl) (by kernel_rfl) (by kernel_rfl) .releaseMerge (by kernel_rfl) a w

theorem q_store_deferred (a : Addr) (x : Value) (u : FrameMode) (w : World) (hc : w.cell? a = some x) (hz : w.frozen? a = false) :
    CallsD Tryz.prog 146 #[.pointer (some a), .bool true] u w fun e u' w' => u' = u ∧ (e = .returned (.tuple #[]) ∧ w' = w.drew.setCell a (.int .u32 1)) := by
  have hc' : w.drew.cell? a = some x := by go_simp
  have hz' : w.drew.frozen? a = false := by go_simp
  have hst := run_call_store (P := Tryz.prog) Tryz.func153 (by kernel_rfl) (by kernel_rfl) (by kernel_rfl) (by kernel_rfl) (k := .u32) (y := 1) hc' hz'
  go_enter_d Tryz.func146, Tryz.ntmps146
  go_wp2
  go_region_calls
  all_goals (go_end0; exact ⟨rfl, rfl⟩)

set_option maxRecDepth 100000 in
set_option maxHeartbeats 1600000 in
theorem q_unlock_deferred (a : Addr) (u : FrameMode) (w : World) (hc : w.cell? a = some (.int .i32 1)) (hz : w.frozen? a = false) :
    CallsD Tryz.prog 145 #[.pointer (some a)] u w fun e u' w' => u' = u ∧ (e = .returned (.tuple #[]) ∧ w' = w.setCell a (.int .i32 0)) := by
  have hd := q_disable
  have he := q_enable
  have hr := q_releaseMerge
  have hadd := run_call_add (P := Tryz.prog) Tryz.func163 (by kernel_rfl) (by kernel_rfl) (by kernel_rfl) .i32 (by kernel_rfl) (y := -1) (s := 0) hc hz (by simp [go_sem]; rfl)
  have hcv := run_convert_to_unsafe (P := Tryz.prog) (src := 213) (dst := 141) Tryz.underlying213 Tryz.underlying141 (by kernel_rfl) hc
  go_enter_d Tryz.func145, Tryz.ntmps145
  go_wp2
  go_end0
  go_wp2
  go_end0
  exact ⟨rfl, rfl⟩

set_option maxRecDepth 100000 in
set_option maxHeartbeats 1600000 in
theorem q_lock_free (a : Addr) (w : World) (hc : w.cell? a = some (.int .i32 0)) (hz : w.frozen? a = false) :
    Calls Tryz.prog 144 #[.pointer (some a)] w fun e w' => e = .returned (.tuple #[]) ∧ w' = w.setCell a (.int .i32 1) := by
  have hd := q_disable
  have he := q_enable
  have ha := q_acquire
  have hcas := run_call_cas_hit (P := Tryz.prog) Tryz.func158 (by kernel_rfl) (by kernel_rfl) (by kernel_rfl) .i32 (by kernel_rfl) (y := 1) hc hz
  have hc' : (w.setCell a (.int .i32 1)).cell? a = some (.int .i32 1) := World.cell?_setCell_same w a _ hc
  have hcv := run_convert_to_unsafe (P := Tryz.prog) (src := 213) (dst := 141) Tryz.underlying213 Tryz.underlying141 (by kernel_rfl) hc'
  go_enter Tryz.func144, Tryz.ntmps144
  go_wp2
  first | go_end0 | (simp only [Exit.inBlock, Exit.then]; refine bodyPost_ret (results_none rfl _ _ _) rfl ?_) | refine bodyPost_ret (results_none rfl _ _ _) rfl ?_
  go_wp2
  go_end0
  exact ⟨rfl, rfl⟩

set_option maxRecDepth 100000 in
set_option maxHeartbeats 1600000 in
/-- '(*sync.Once).doSlow': the lock is taken, the function called, 'done' stored, the lock let go. -/
theorem q_slow (b : Nat) (w : World) (R : World → Prop)
    (h0 : w.cell? ⟨b, 0, none⟩ = some (.int .u32 0)) (h1 : w.cell? ⟨b, 1, none⟩ = some (.int .i32 0)) (f1 : w.frozen? ⟨b, 1, none⟩ = false)
    (hf : Calls Tryz.prog 130 #[.pointer (some ⟨b, 0, none⟩)] (w.setCell ⟨b, 1, none⟩ (.int .i32 1)) fun e W => e = .returned (.tuple #[]) ∧ R W)
    (hR : ∀ W, R W → W.cell? ⟨b, 0, none⟩ = some (.int .u32 0) ∧ W.frozen? ⟨b, 0, none⟩ = false ∧ W.cell? ⟨b, 1, none⟩ = some (.int .i32 1) ∧ W.frozen? ⟨b, 1, none⟩ = false) :
    Calls Tryz.prog 136 #[.pointer (some ⟨b, 0, none⟩), .func (.func 130) #[.pointer (some ⟨b, 0, none⟩)] #[]] w fun e w' => e = .returned (.tuple #[]) ∧
      ∃ W, R W ∧ w' = (W.drew.setCell ⟨b, 0, none⟩ (.int .u32 1)).setCell ⟨b, 1, none⟩ (.int .i32 0) := by
  have hl := run_call_load (P := Tryz.prog) Tryz.func143 (by kernel_rfl) (by kernel_rfl) (by kernel_rfl) .u32 (by kernel_rfl) (w := w.setCell ⟨b, 1, none⟩ (.int .i32 1)) (a := ⟨b, 0, none⟩) (x := 0) ((World.cell?_setCell_other _ ⟨b, 1, none⟩ ⟨b, 0, none⟩ _ (by simp)).trans h0)
  have hnot : ∀ (x : Bool) (w : World), (Op.unary .not (.bool x)).run Tryz.prog w = .ok (.bool (!x)) w := fun _ _ => rfl
  go_enter_defers Tryz.func136, Tryz.ntmps136
  go_wp2_with (first | (go_at_call 144; refine (q_lock_free ⟨b, 1, none⟩ _ (by go_simp) (by go_simp)).mono ?_; rintro e w' ⟨rfl, rfl⟩) | (go_at_call 130; refine hf.mono ?_; rintro e W ⟨rfl, hW⟩) | go_in)
  go_wp2
  obtain ⟨r0, r1, r2, r3⟩ := hR W hW
  refine leaves_cons (f := 146) (args := #[.pointer (some ⟨b, 0, none⟩), .bool true]) (by simp) (by simp [go_sem]) ?_
  refine (q_store_deferred ⟨b, 0, none⟩ (.int .u32 0) .returning _ r0 r1).mono ?_
  rintro e u' w'' ⟨rfl, rfl, rfl⟩
  refine leaves_cons (f := 145) (args := #[.pointer (some ⟨b, 1, none⟩)]) (by simp [settle]) (by simp [go_sem]) ?_
  refine (q_unlock_deferred ⟨b, 1, none⟩ _ _ ?_ (by simp [r3])).mono ?_
  · refine (World.cell?_setCell_other _ ⟨b, 0, none⟩ ⟨b, 1, none⟩ _ (by simp)).trans ?_
    rw [World.cell?_drew]
    exact r2
  rintro e u' w'' ⟨rfl, rfl, rfl⟩
  have hfin : ∃ W', R W' ∧ (W.drew.setCell ⟨b, 0, none⟩ (.int .u32 1)).setCell ⟨b, 1, none⟩ (.int .i32 0) = (W'.drew.setCell ⟨b, 0, none⟩ (.int .u32 1)).setCell ⟨b, 1, none⟩ (.int .i32 0) := ⟨W, hW, rfl⟩
  have HF := Lib.hid hfin
  clear hR hf hl h0 h1 hfin hW
  simp [Leaves, settle, results, Tryz.f136]
  exact HF.out

set_option maxRecDepth 100000 in
set_option maxHeartbeats 1600000 in
/-- '(*sync.Once).Do', the first time. -/
theorem q_do (b : Nat) (w : World) (R : World → Prop)
    (h0 : w.cell? ⟨b, 0, none⟩ = some (.int .u32 0)) (h1 : w.cell? ⟨b, 1, none⟩ = some (.int .i32 0)) (f1 : w.frozen? ⟨b, 1, none⟩ = false)
    (hf : Calls Tryz.prog 130 #[.pointer (some ⟨b, 0, none⟩)] (w.setCell ⟨b, 1, none⟩ (.int .i32 1)) fun e W => e = .returned (.tuple #[]) ∧ R W)
    (hR : ∀ W, R W → W.cell? ⟨b, 0, none⟩ = some (.int .u32 0) ∧ W.frozen? ⟨b, 0, none⟩ = false ∧ W.cell? ⟨b, 1, none⟩ = some (.int .i32 1) ∧ W.frozen? ⟨b, 1, none⟩ = false) :
    Calls Tryz.prog 129 #[.pointer (some ⟨b, 0, none⟩), .func (.func 130) #[.pointer (some ⟨b, 0, none⟩)] #[]] w fun e w' => e = .returned (.tuple #[]) ∧
      ∃ W, R W ∧ w' = (W.drew.setCell ⟨b, 0, none⟩ (.int .u32 1)).setCell ⟨b, 1, none⟩ (.int .i32 0) := by
  have hl := run_call_load (P := Tryz.prog) Tryz.func143 (by kernel_rfl) (by kernel_rfl) (by kernel_rfl) .u32 (by kernel_rfl) (w := w) (a := ⟨b, 0, none⟩) (x := 0) h0
  have hnot : ∀ (x : Bool) (w : World), (Op.unary .not (.bool x)).run Tryz.prog w = .ok (.bool (!x)) w := fun _ _ => rfl
  have HS := Lib.hid (q_slow b w R h0 h1 f1 hf hR)
  clear hf hR h0 h1 f1
  go_enter Tryz.func129, Tryz.ntmps129
  go_wp2_with (first | (go_at_call 136; refine HS.out.mono ?_; rintro e w' ⟨rfl, hw⟩) | go_in)
  go_wp2
  go_end0
  exact ⟨rfl, hw⟩

end Go.Proofs.YtnfdcfagdidmhaaGreatDoor
