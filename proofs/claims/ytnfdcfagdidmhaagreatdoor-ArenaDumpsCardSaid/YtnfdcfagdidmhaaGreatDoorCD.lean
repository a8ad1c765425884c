/-
  PROVED: thicketlaw04.ArenaDumps returns true for all readable arguments, and these read behind the call as before. Conditions: none.
-/
import Derived.Test.YtnfdcfagdidmhaaGreatDoorRows
import Derived.Test.YtnfdcfagdidmhaaGreatDoorC0
import Derived.Test.YtnfdcfagdidmhaaGreatDoorQI
import Derived.ProofKit
import Derived.OpenShut
import Derived.Test.YtnfdcfagdidmhaaGreatDoorTie
import Derived.Test.YtnfdcfagdidmhaaGreatDoorCards
import Derived.ChangeSame
import Derived.LaidMore
import Derived.Lay
import Derived.SevenTiedAt
import Derived.Stop.Joined
namespace Go.Proofs.YtnfdcfagdidmhaaGreatDoor
open Go.ChangeShapes Go.WideShapes Go.ChangeAt Go.RowKit
set_option linter.unusedVariables false

set_option maxRecDepth 100000 in
theorem arenaDumps_lifted (os : Os) (started : os.Started) (H : Type) (enc : TypeId × Value → H) :
    ReturnsInHanded {} Tryz.checked os 3 .any (fun w args => (Rows.arenaDumpsSpec.pre enc Tryz.prog Tryz.f3 Rows.arenaDumpsRow.domain false w args ∧ laidMetH Tryz.prog Rows.arenaDumpsRow.laid w) ∧ sizedMet enc Tryz.prog Tryz.f3 (OpenSpec.ofChange Rows.arenaDumpsSpec) false w args) (Rows.arenaDumpsSpec.post enc Tryz.prog Tryz.f3 false true false false) := by
  refine returnsInHanded_of_change_and (C := Tryz.checked) (X := fun w _ => laidMetH Tryz.prog Rows.arenaDumpsRow.laid w) (fun _ _ _ hh h => h.of_heap hh) own_knob started (by kernel_rfl) Tryz.func3
    (ChangeSpec.witness_shaped (enc := enc) (C := Tryz.checked) (os := os) (X := fun w _ => laidMetH Tryz.prog Rows.arenaDumpsRow.laid w) false (World.laidAll Tryz.prog os Rows.arenaDumpsRow.laid) #[.slice none 0 0, .int .i64 0] 8 (World.laidAll_os _ _ _)
      (World.shaped_of_ZipB (by kernel_rfl) (by kernel_rfl)) (by kernel_rfl) (by kernel_rfl) (by kernel_rfl)
      (by rw [MakeChecks.laidMetH_plain _ _ _ (by kernel_rfl)]; exact laidMet_laidAll _ (by kernel_rfl) (by kernel_rfl))) ?_
  intro W base args ds gs before hval0 hW hcnd _ hL _
  have hval : ∀ (j : Nat) t v, Tryz.f3.params[j]? = some t → args[j]? = some v → Value.okWide Tryz.prog W .any base t v := hval0
  have hW' := hW
  obtain ⟨p, q, hA0, hV, rfl, hfz, hnd⟩ := hW
  have hA : DataW.TrodAll enc Tryz.prog W 0 (fun _ => true) true Tryz.f3.params.toList args.toList ds p := hA0
  rw [Tryz.params3] at hA hval
  obtain ⟨v0, vs0, d0, ds0, p0, q0, hargs, rfl, rfl, h0, r0⟩ := trodAll_cons hA
  obtain ⟨v1, vs1, d1, ds1, p1, q1, rfl, rfl, rfl, h1, r1⟩ := trodAll_cons r0
  obtain ⟨rfl, rfl, rfl⟩ := trodAll_nil r1
  obtain rfl : args = #[v0, v1] := by cases args; simp_all
  obtain ⟨rfl, rfl⟩ := trodVars_none hV
  obtain ⟨l0, hl0⟩ := arg_ops (hval 0 22 v0 rfl rfl) h0
  obtain ⟨a1, rfl, rfl, rfl, w1⟩ := open_int Tryz.underlying3 (hval 1 3 v1 rfl rfl) h1
  clear hA0 hval0
  simp only [List.append_nil] at hW'
  have hlt : ∀ x, x.block < W.heap.size ∨ x ∉ p0 := fun x => by
    by_cases hx : x ∈ p0
    · exact .inl (by simpa using hW'.lt x (by simpa using hx))
    · exact .inr hx
  refine (ArenaDumps_any v0 l0 a1 W hl0).mono fun e W' ⟨he, hb⟩ => ?_
  subst he
  refine ⟨_, rfl, _, _, _, [], p0 ++ ([] ++ ([])), [], hW', trodAll_mk1 (shut_bool Tryz.underlying4 _), (trodAll_cons_mk (Below.trod laid_out (by kernel_rfl) (of_decide_eq_true (by kernel_rfl)) h0 hb (fun x hx => (hlt x).resolve_right (fun hn => hn (by simp [hx])))) (trodAll_cons_mk (shut_int Tryz.underlying3 w1) trodAll_mk0)), rfl, hb.frame _, fun h => by cases h⟩

theorem arenaDumps_holds : Rows.ArenaDumpsSaid :=
  OpenClaim.holds_of_wide 3 Tryz.f3 rfl rfl rfl rfl rfl rfl rfl ⟨rfl, rfl, rfl, rfl, rfl⟩ rfl rfl rfl rfl rfl (by kernel_rfl) Tryz.func3 (by kernel_rfl)
    (of_decide_eq_true (by kernel_rfl)) (by unfold Func.isWrapper; first | (rw [if_pos (by decide +kernel)]; kernel_rfl) | (rw [if_neg (by decide +kernel)]; exact ⟨rfl, rfl⟩))
    (fun os started H enc _ => arenaDumps_lifted os started H enc)

theorem arenaDumps_card_holds : Rows.ArenaDumpsCardSaid :=
  Claim7.holds_tied_plain_at .later [] [.data, .data, .data] true (true, "cd28615c2b9c66504a4da340e0453049cd773764ca74a92f329c76613e84b884") true arenaDumps_holds (fun _ h => by cases h) (by kernel_rfl) (fun _ h => by cases h) arenaDumps_row_tie rfl ⟨rfl, rfl⟩ (by kernel_rfl) rfl
    (fun f fn hf hfn => by
      obtain rfl : f = 3 := Option.some.inj ((show Tryz.prog.funcNamed "thicket/thicketlaw04.ArenaDumps" = some 3 by kernel_rfl).symm.trans hf) |>.symm
      obtain rfl : fn = Tryz.f3 := (Option.some.inj (Tryz.func3.symm.trans hfn)).symm
      exact ⟨by kernel_rfl, fun j t ht => by
        rw [Tryz.params3] at ht
        have hm : t ∈ [22, 3] := by simpa using Array.mem_of_getElem? ht
        have hall : ([22, 3].all fun u => !Tryz.prog.wantsStandIn u) = true := by kernel_rfl
        exact (show Tryz.prog.wantsStandIn t = false by simpa using List.all_eq_true.1 hall t hm)⟩)
    (by kernel_rfl)
#print axioms arenaDumps_holds
#print axioms arenaDumps_card_holds
end Go.Proofs.YtnfdcfagdidmhaaGreatDoor
