/-
  The facts of the statement DomProper that a computation over the program decides, one by one. No walk here.
-/
import Derived.Test.YtpicinjcmjaogaaGreatRows
import Derived.ProofKit
namespace Go.Proofs.YtpicinjcmjaogaaGreat
open Go.ChangeShapes Go.WideShapes Go.ChangeAt Go.RowKit
set_option linter.unusedVariables false

theorem both {a b : Bool} (h : a = true) (k : b = true) : (a && b) = true := by rw [h, k]; rfl
theorem domProper_fact0 : (Rows.domProperRow.wf (OpenSpec.ofChange Rows.domProperSpec)) = true := by kernel_rfl
theorem domProper_fact1 : (laidOutB (Tryz.pinned.checked.prog)) = true := by kernel_rfl
theorem domProper_fact2 : (mapsRowed (Tryz.pinned.checked.prog)) = true := by kernel_rfl
theorem domProper_fact3 : (Tryz.f7.params.all ((Tryz.pinned.checked.prog).readableRec ·)) = true := by kernel_rfl
theorem domProper_fact4 : (namedTie (Tryz.pinned.checked.prog) Rows.domProperRow.named Rows.domProperSpec.vars) = true := by kernel_rfl
theorem domProper_fact5 : ((Rows.domProperRow.stops == [])) = true := by kernel_rfl
theorem domProper_fact6 : (((Tryz.pinned.checked.prog).stops == [])) = true := by kernel_rfl
theorem domProper_fact7 : ((Rows.domProperRow.knobs == [])) = true := by kernel_rfl
theorem domProper_fact8 : (((Tryz.pinned.checked.prog).stopKnobs == [])) = true := by kernel_rfl
theorem domProper_fact9 : ((Rows.domProperRow.inPlace == (Tryz.pinned.checked.prog).inPlace 7)) = true := by kernel_rfl
theorem domProper_fact10 : ((Rows.domProperRow.unfollowed == (Tryz.pinned.checked.prog).unfollowed 7)) = true := by kernel_rfl
theorem domProper_fact11 : ((Rows.domProperRow.recurses == (Tryz.pinned.checked.prog).recurses 7)) = true := by kernel_rfl
theorem domProper_fact12 : ((Rows.domProperRow.named == (Tryz.pinned.checked.prog).varsNamed 7)) = true := by kernel_rfl
theorem domProper_fact13 : ((Rows.domProperRow.maps == (Tryz.f7.params.toList ++ Rows.domProperSpec.plain.varTypes (Tryz.pinned.checked.prog)).any ((Tryz.pinned.checked.prog).mapsRec ·))) = true := by kernel_rfl
theorem domProper_fact14 : ((Rows.domProperRow.ifaces == (Tryz.f7.params.toList ++ Rows.domProperSpec.plain.varTypes (Tryz.pinned.checked.prog)).any ((Tryz.pinned.checked.prog).ifacesRec ·))) = true := by kernel_rfl
theorem domProper_fact15 : ((Rows.domProperRow.mapsOut == (Tryz.pinned.checked.prog).mapsAmong Tryz.f7.resultTypes.toList)) = true := by kernel_rfl
theorem domProper_fact16 : ((Rows.domProperRow.loops == (Tryz.f7.params.toList ++ Rows.domProperSpec.plain.varTypes (Tryz.pinned.checked.prog)).any ((Tryz.pinned.checked.prog).loopsFrom ·))) = true := by kernel_rfl
theorem domProper_fact17 : ((Rows.domProperRow.wideKeys == (Tryz.f7.params.toList ++ Rows.domProperSpec.plain.varTypes (Tryz.pinned.checked.prog) ++ Tryz.f7.resultTypes.toList).any ((Tryz.pinned.checked.prog).wideKeysFrom ·))) = true := by kernel_rfl
theorem domProper_fact18 : (Rows.domProperSpec.vars.all ((Tryz.pinned.checked.prog).varReadable ·)) = true := by kernel_rfl
theorem domProper_fact19 : (Tryz.f7.resultTypes.all (fun t => (Tryz.pinned.checked.prog).readableRec t && decide (t < (Tryz.pinned.checked.prog).types.size))) = true := by kernel_rfl
theorem domProper_fact20 : ((Rows.domProperRow.ifacesOut == Tryz.f7.resultTypes.toList.any ((Tryz.pinned.checked.prog).ifacesRec ·))) = true := by kernel_rfl
theorem domProper_fact21 : ((Rows.domProperRow.loopsOut == Tryz.f7.resultTypes.toList.any ((Tryz.pinned.checked.prog).loopsFrom ·))) = true := by kernel_rfl
theorem domProper_fact22 : ((Rows.domProperRow.plainKeys == (Tryz.pinned.checked.prog).plainKeys)) = true := by kernel_rfl
theorem domProper_fact23 : (Rows.domProperRow.shortTexts.isNone) = true := by kernel_rfl
theorem domProper_fact24 : ((Tryz.pinned.checked.prog).stopsHeard) = true := by kernel_rfl
theorem domProper_fact25 : ((Tryz.pinned.checked.prog).mayEnter) = true := by kernel_rfl
theorem domProper_fact26 : ((Rows.domProperRow.lifted == (Tryz.pinned.checked.prog).liftsFinal)) = true := by kernel_rfl
theorem domProper_fact27 : (((Tryz.pinned.checked.prog).make == some Rows.domProperRow.make)) = true := by kernel_rfl
theorem domProper_fact28 : ((Rows.domProperRow.kinds == (if Rows.domProperRow.domain.isEmpty then [] else Tryz.f7.params.toList.map fun t => match (Tryz.pinned.checked.prog).underlying t with | some (.int k) => some k | _ => none))) = true := by kernel_rfl
theorem domProper_fact29 : ((Rows.domProperRow.pinned == Rows.domProperRow.pinnedBy)) = true := by kernel_rfl
theorem domProper_fact30 : ((Rows.domProperRow.veiled == (Tryz.f7.params.toList ++ Rows.domProperSpec.plain.varTypes (Tryz.pinned.checked.prog) ++ Tryz.f7.resultTypes.toList).any ((Tryz.pinned.checked.prog).veiledRec ·))) = true := by kernel_rfl
theorem domProper_fact31 : (Rows.domProperRow.veiledFits (Tryz.pinned.checked.prog) Tryz.f7.params.toList (Tryz.f7.params.toList ++ Rows.domProperSpec.plain.varTypes (Tryz.pinned.checked.prog) ++ Tryz.f7.resultTypes.toList)) = true := by kernel_rfl
set_option maxRecDepth 100000 in
theorem domProper_facts : joinedFacts Tryz.pinned.checked.prog 7 Tryz.f7 Rows.domProperSpec Rows.domProperRow = true := by
  unfold joinedFacts
  exact both (both (both (both (both (both (both (both (both (both (both (both (both (both (both (both (both (both (both (both (both (both (both (both (both (both (both (both (both (both (both domProper_fact0 domProper_fact1) domProper_fact2) domProper_fact3) domProper_fact4) domProper_fact5) domProper_fact6) domProper_fact7) domProper_fact8) domProper_fact9) domProper_fact10) domProper_fact11) domProper_fact12) domProper_fact13) domProper_fact14) domProper_fact15) domProper_fact16) domProper_fact17) domProper_fact18) domProper_fact19) domProper_fact20) domProper_fact21) domProper_fact22) domProper_fact23) domProper_fact24) domProper_fact25) domProper_fact26) domProper_fact27) domProper_fact28) domProper_fact29) domProper_fact30) domProper_fact31

end Go.Proofs.YtpicinjcmjaogaaGreat
