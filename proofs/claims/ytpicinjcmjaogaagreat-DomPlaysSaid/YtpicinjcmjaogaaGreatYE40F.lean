/-
  The facts of the statement DomPlays that a computation over the program decides, one by one. No walk here.
-/
import Derived.Test.YtpicinjcmjaogaaGreatRows
import Derived.ProofKit
namespace Go.Proofs.YtpicinjcmjaogaaGreat
open Go.ChangeShapes Go.WideShapes Go.ChangeAt Go.RowKit
set_option linter.unusedVariables false

theorem both {a b : Bool} (h : a = true) (k : b = true) : (a && b) = true := by rw [h, k]; rfl
theorem domPlays_fact0 : (Rows.domPlaysRow.wf (OpenSpec.ofChange Rows.domPlaysSpec)) = true := by kernel_rfl
theorem domPlays_fact1 : (laidOutB (Tryz.pinned.checked.prog)) = true := by kernel_rfl
theorem domPlays_fact2 : (mapsRowed (Tryz.pinned.checked.prog)) = true := by kernel_rfl
theorem domPlays_fact3 : (Tryz.f9.params.all ((Tryz.pinned.checked.prog).readableRec ·)) = true := by kernel_rfl
theorem domPlays_fact4 : (namedTie (Tryz.pinned.checked.prog) Rows.domPlaysRow.named Rows.domPlaysSpec.vars) = true := by kernel_rfl
theorem domPlays_fact5 : ((Rows.domPlaysRow.stops == [])) = true := by kernel_rfl
theorem domPlays_fact6 : (((Tryz.pinned.checked.prog).stops == [])) = true := by kernel_rfl
theorem domPlays_fact7 : ((Rows.domPlaysRow.knobs == [])) = true := by kernel_rfl
theorem domPlays_fact8 : (((Tryz.pinned.checked.prog).stopKnobs == [])) = true := by kernel_rfl
theorem domPlays_fact9 : ((Rows.domPlaysRow.inPlace == (Tryz.pinned.checked.prog).inPlace 9)) = true := by kernel_rfl
theorem domPlays_fact10 : ((Rows.domPlaysRow.unfollowed == (Tryz.pinned.checked.prog).unfollowed 9)) = true := by kernel_rfl
theorem domPlays_fact11 : ((Rows.domPlaysRow.recurses == (Tryz.pinned.checked.prog).recurses 9)) = true := by kernel_rfl
theorem domPlays_fact12 : ((Rows.domPlaysRow.named == (Tryz.pinned.checked.prog).varsNamed 9)) = true := by kernel_rfl
theorem domPlays_fact13 : ((Rows.domPlaysRow.maps == (Tryz.f9.params.toList ++ Rows.domPlaysSpec.plain.varTypes (Tryz.pinned.checked.prog)).any ((Tryz.pinned.checked.prog).mapsRec ·))) = true := by kernel_rfl
theorem domPlays_fact14 : ((Rows.domPlaysRow.ifaces == (Tryz.f9.params.toList ++ Rows.domPlaysSpec.plain.varTypes (Tryz.pinned.checked.prog)).any ((Tryz.pinned.checked.prog).ifacesRec ·))) = true := by kernel_rfl
theorem domPlays_fact15 : ((Rows.domPlaysRow.mapsOut == (Tryz.pinned.checked.prog).mapsAmong Tryz.f9.resultTypes.toList)) = true := by kernel_rfl
theorem domPlays_fact16 : ((Rows.domPlaysRow.loops == (Tryz.f9.params.toList ++ Rows.domPlaysSpec.plain.varTypes (Tryz.pinned.checked.prog)).any ((Tryz.pinned.checked.prog).loopsFrom ·))) = true := by kernel_rfl
theorem domPlays_fact17 : ((Rows.domPlaysRow.wideKeys == (Tryz.f9.params.toList ++ Rows.domPlaysSpec.plain.varTypes (Tryz.pinned.checked.prog) ++ Tryz.f9.resultTypes.toList).any ((Tryz.pinned.checked.prog).wideKeysFrom ·))) = true := by kernel_rfl
theorem domPlays_fact18 : (Rows.domPlaysSpec.vars.all ((Tryz.pinned.checked.prog).varReadable ·)) = true := by kernel_rfl
theorem domPlays_fact19 : (Tryz.f9.resultTypes.all (fun t => (Tryz.pinned.checked.prog).readableRec t && decide (t < (Tryz.pinned.checked.prog).types.size))) = true := by kernel_rfl
theorem domPlays_fact20 : ((Rows.domPlaysRow.ifacesOut == Tryz.f9.resultTypes.toList.any ((Tryz.pinned.checked.prog).ifacesRec ·))) = true := by kernel_rfl
theorem domPlays_fact21 : ((Rows.domPlaysRow.loopsOut == Tryz.f9.resultTypes.toList.any ((Tryz.pinned.checked.prog).loopsFrom ·))) = true := by kernel_rfl
theorem domPlays_fact22 : ((Rows.domPlaysRow.plainKeys == (Tryz.pinned.checked.prog).plainKeys)) = true := by kernel_rfl
theorem domPlays_fact23 : (Rows.domPlaysRow.shortTexts.isNone) = true := by kernel_rfl
theorem domPlays_fact24 : ((Tryz.pinned.checked.prog).stopsHeard) = true := by kernel_rfl
theorem domPlays_fact25 : ((Tryz.pinned.checked.prog).mayEnter) = true := by kernel_rfl
theorem domPlays_fact26 : ((Rows.domPlaysRow.lifted == (Tryz.pinned.checked.prog).liftsFinal)) = true := by kernel_rfl
theorem domPlays_fact27 : (((Tryz.pinned.checked.prog).make == some Rows.domPlaysRow.make)) = true := by kernel_rfl
theorem domPlays_fact28 : ((Rows.domPlaysRow.kinds == (if Rows.domPlaysRow.domain.isEmpty then [] else Tryz.f9.params.toList.map fun t => match (Tryz.pinned.checked.prog).underlying t with | some (.int k) => some k | _ => none))) = true := by kernel_rfl
theorem domPlays_fact29 : ((Rows.domPlaysRow.pinned == Rows.domPlaysRow.pinnedBy)) = true := by kernel_rfl
theorem domPlays_fact30 : ((Rows.domPlaysRow.veiled == (Tryz.f9.params.toList ++ Rows.domPlaysSpec.plain.varTypes (Tryz.pinned.checked.prog) ++ Tryz.f9.resultTypes.toList).any ((Tryz.pinned.checked.prog).veiledRec ·))) = true := by kernel_rfl
theorem domPlays_fact31 : (Rows.domPlaysRow.veiledFits (Tryz.pinned.checked.prog) Tryz.f9.params.toList (Tryz.f9.params.toList ++ Rows.domPlaysSpec.plain.varTypes (Tryz.pinned.checked.prog) ++ Tryz.f9.resultTypes.toList)) = true := by kernel_rfl
set_option maxRecDepth 100000 in
theorem domPlays_facts : joinedFacts Tryz.pinned.checked.prog 9 Tryz.f9 Rows.domPlaysSpec Rows.domPlaysRow = true := by
  unfold joinedFacts
  exact both (both (both (both (both (both (both (both (both (both (both (both (both (both (both (both (both (both (both (both (both (both (both (both (both (both (both (both (both (both (both domPlays_fact0 domPlays_fact1) domPlays_fact2) domPlays_fact3) domPlays_fact4) domPlays_fact5) domPlays_fact6) domPlays_fact7) domPlays_fact8) domPlays_fact9) domPlays_fact10) domPlays_fact11) domPlays_fact12) domPlays_fact13) domPlays_fact14) domPlays_fact15) domPlays_fact16) domPlays_fact17) domPlays_fact18) domPlays_fact19) domPlays_fact20) domPlays_fact21) domPlays_fact22) domPlays_fact23) domPlays_fact24) domPlays_fact25) domPlays_fact26) domPlays_fact27) domPlays_fact28) domPlays_fact29) domPlays_fact30) domPlays_fact31

end Go.Proofs.YtpicinjcmjaogaaGreat
