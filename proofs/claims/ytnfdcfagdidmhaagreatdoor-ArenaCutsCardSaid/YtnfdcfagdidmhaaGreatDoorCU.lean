/-
  PROVED: thicketlaw04.ArenaCuts returns true for all readable arguments, and these read behind the call as before. Conditions: none.
-/
import Derived.Test.YtnfdcfagdidmhaaGreatDoorRows
import Derived.Test.YtnfdcfagdidmhaaGreatDoorC0
import Derived.Test.YtnfdcfagdidmhaaGreatDoorQW
import Derived.ProofKit
import Derived.OpenShut
import Derived.Test.YtnfdcfagdidmhaaGreatDoorTie
import Derived.Test.YtnfdcfagdidmhaaGreatDoorCards
import Derived.ChangeSame
import Derived.LaidMore
import Derived.Lay
import Derived.SevenTiedAt
import Derived.Stop.Joined
namespace Go.Proofs.YtnfdcfagdidmhaaGreatDoor
open Go.ChangeShapes Go.WideShapes Go.ChangeAt Go.RowKit
set_option linter.unusedVariables false

set_option maxRecDepth 100000 in
theorem arenaCuts_lifted (os : Os) (started : os.Started) (H : Type) (enc : TypeId × Value → H) :
    ReturnsInHanded {} Tryz.checked os 4 .any (fun w args => (Rows.arenaCutsSpec.pre enc Tryz.prog Tryz.f4 Rows.arenaCutsRow.domain false w args ∧ laidMetH Tryz.prog Rows.arenaCutsRow.laid w) ∧ sizedMet enc Tryz.prog Tryz.f4 (OpenSpec.ofChange Rows.arenaCutsSpec) false w args) (Rows.arenaCutsSpec.post enc Tryz.prog Tryz.f4 false true false false) := by
  refine returnsInHanded_of_change_and (C := Tryz.checked) (X := fun w _ => laidMetH Tryz.prog Rows.arenaCutsRow.laid w) (fun _ _ _ hh h => h.of_heap hh) own_knob started (by kernel_rfl) Tryz.func4
    (ChangeSpec.witness_shaped (enc := enc) (C := Tryz.checked) (os := os) (X := fun w _ => laidMetH Tryz.prog Rows.arenaCutsRow.laid w) false (World.laidAll Tryz.prog os Rows.arenaCutsRow.laid) #[.slice none 0 0, .int .i64 0] 8 (World.laidAll_os _ _ _)
      (World.shaped_of_ZipB (by kernel_rfl) (by kernel_rfl)) (by kernel_rfl) (by kernel_rfl) (by kernel_rfl)
      (by rw [MakeChecks.laidMetH_plain _ _ _ (by kernel_rfl)]; exact laidMet_laidAll _ (by kernel_rfl) (by kernel_rfl))) ?_
  intro W base args ds gs before hval0 hW hcnd _ hL _
  have hval : ∀ (j : Nat) t v, Tryz.f4.params[j]? = some t → args[j]? = some v → Value.okWide Tryz.prog W .any base t v := hval0
  have hW' := hW
  obtain ⟨p, q, hA0, hV, rfl, hfz, hnd⟩ := hW
  have hA : DataW.TrodAll enc Tryz.prog W 0 (fun _ => true) true Tryz.f4.params.toList args.toList ds p := hA0
  rw [Tryz.params4] at hA hval
  obtain ⟨v0, vs0, d0, ds0, p0, q0, hargs, rfl, rfl, h0, r0⟩ := trodAll_cons hA
  obtain ⟨v1, vs1, d1, ds1, p1, q1, rfl, rfl, rfl, h1, r1⟩ := trodAll_cons r0
  obtain ⟨rfl, rfl, rfl⟩ := trodAll_nil r1
  obtain rfl : args = #[v0, v1] := by cases args; simp_all
  obtain ⟨rfl, rfl⟩ := trodVars_none hV
  obtain ⟨l0, hl0⟩ := arg_ops (hval 0 22 v0 rfl rfl) h0
  obtain ⟨a1, rfl, rfl, rfl, w1⟩ := open_int Tryz.underlying3 (hval 1 3 v1 rfl rfl) h1
  clear hA0 hval0
  simp only [List.append_nil] at hW'
  have hlt : ∀ x, x.block < W.heap.size ∨ x ∉ p0 := fun x => by
    by_cases hx : x ∈ p0
    · exact .inl (by simpa using hW'.lt x (by simpa using hx))
    · exact .inr hx
  refine (ArenaCuts_any v0 l0 a1 W hl0).mono fun e W' ⟨he, hb⟩ => ?_
  subst he
  refine ⟨_, rfl, _, _, _, [], p0 ++ ([] ++ ([])), [], hW', trodAll_mk1 (shut_bool Tryz.underlying4 _), (trodAll_cons_mk (Below.trod laid_out (by kernel_rfl) (of_decide_eq_true (by kernel_rfl)) h0 hb (fun x hx => (hlt x).resolve_right (fun hn => hn (by simp [hx])))) (trodAll_cons_mk (shut_int Tryz.underlying3 w1) trodAll_mk0)), rfl, hb.frame _, fun h => by cases h⟩

theorem arenaCuts_holds : Rows.ArenaCutsSaid :=
  OpenClaim.holds_of_wide 4 Tryz.f4 rfl rfl rfl rfl rfl rfl rfl ⟨rfl, rfl, rfl, rfl, rfl⟩ rfl rfl rfl rfl rfl (by kernel_rfl) Tryz.func4 (by kernel_rfl)
    (of_decide_eq_true (by kernel_rfl)) (by unfold Func.isWrapper; first | (rw [if_pos (by decide +kernel)]; kernel_rfl) | (rw [if_neg (by decide +kernel)]; exact ⟨rfl, rfl⟩))
    (fun os started H enc _ => arenaCuts_lifted os started H enc)

theorem arenaCuts_card_holds : Rows.ArenaCutsCardSaid :=
  Claim7.holds_tied_plain_at .later [] [.data, .data, .data] true (true, "cd28615c2b9c66504a4da340e0453049cd773764ca74a92f329c76613e84b884") true arenaCuts_holds (fun _ h => by cases h) (by kernel_rfl) (fun _ h => by cases h) arenaCuts_row_tie rfl ⟨rfl, rfl⟩ (by kernel_rfl) rfl
    (fun f fn hf hfn => by
      obtain rfl : f = 4 := Option.some.inj ((show Tryz.prog.funcNamed "thicket/thicketlaw04.ArenaCuts" = some 4 by kernel_rfl).symm.trans hf) |>.symm
      obtain rfl : fn = Tryz.f4 := (Option.some.inj (Tryz.func4.symm.trans hfn)).symm
      exact ⟨by kernel_rfl, fun j t ht => by
        rw [Tryz.params4] at ht
        have hm : t ∈ [22, 3] := by simpa using Array.mem_of_getElem? ht
        have hall : ([22, 3].all fun u => !Tryz.prog.wantsStandIn u) = true := by kernel_rfl
        exact (show Tryz.prog.wantsStandIn t = false by simpa using List.all_eq_true.1 hall t hm)⟩)
    (by kernel_rfl)
#print axioms arenaCuts_holds
#print axioms arenaCuts_card_holds
end Go.Proofs.YtnfdcfagdidmhaaGreatDoor
