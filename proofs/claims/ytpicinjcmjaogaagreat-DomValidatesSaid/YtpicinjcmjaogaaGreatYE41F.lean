/-
  The facts of the statement DomValidates that a computation over the program decides, one by one. No walk here.
-/
import Derived.Test.YtpicinjcmjaogaaGreatRows
import Derived.ProofKit
namespace Go.Proofs.YtpicinjcmjaogaaGreat
open Go.ChangeShapes Go.WideShapes Go.ChangeAt Go.RowKit
set_option linter.unusedVariables false

theorem both {a b : Bool} (h : a = true) (k : b = true) : (a && b) = true := by rw [h, k]; rfl
theorem domValidates_fact0 : (Rows.domValidatesRow.wf (OpenSpec.ofChange Rows.domValidatesSpec)) = true := by kernel_rfl
theorem domValidates_fact1 : (laidOutB (Tryz.pinned.checked.prog)) = true := by kernel_rfl
theorem domValidates_fact2 : (mapsRowed (Tryz.pinned.checked.prog)) = true := by kernel_rfl
theorem domValidates_fact3 : (Tryz.f6.params.all ((Tryz.pinned.checked.prog).readableRec ·)) = true := by kernel_rfl
theorem domValidates_fact4 : (namedTie (Tryz.pinned.checked.prog) Rows.domValidatesRow.named Rows.domValidatesSpec.vars) = true := by kernel_rfl
theorem domValidates_fact5 : ((Rows.domValidatesRow.stops == [])) = true := by kernel_rfl
theorem domValidates_fact6 : (((Tryz.pinned.checked.prog).stops == [])) = true := by kernel_rfl
theorem domValidates_fact7 : ((Rows.domValidatesRow.knobs == [])) = true := by kernel_rfl
theorem domValidates_fact8 : (((Tryz.pinned.checked.prog).stopKnobs == [])) = true := by kernel_rfl
theorem domValidates_fact9 : ((Rows.domValidatesRow.inPlace == (Tryz.pinned.checked.prog).inPlace 6)) = true := by kernel_rfl
theorem domValidates_fact10 : ((Rows.domValidatesRow.unfollowed == (Tryz.pinned.checked.prog).unfollowed 6)) = true := by kernel_rfl
theorem domValidates_fact11 : ((Rows.domValidatesRow.recurses == (Tryz.pinned.checked.prog).recurses 6)) = true := by kernel_rfl
theorem domValidates_fact12 : ((Rows.domValidatesRow.named == (Tryz.pinned.checked.prog).varsNamed 6)) = true := by kernel_rfl
theorem domValidates_fact13 : ((Rows.domValidatesRow.maps == (Tryz.f6.params.toList ++ Rows.domValidatesSpec.plain.varTypes (Tryz.pinned.checked.prog)).any ((Tryz.pinned.checked.prog).mapsRec ·))) = true := by kernel_rfl
theorem domValidates_fact14 : ((Rows.domValidatesRow.ifaces == (Tryz.f6.params.toList ++ Rows.domValidatesSpec.plain.varTypes (Tryz.pinned.checked.prog)).any ((Tryz.pinned.checked.prog).ifacesRec ·))) = true := by kernel_rfl
theorem domValidates_fact15 : ((Rows.domValidatesRow.mapsOut == (Tryz.pinned.checked.prog).mapsAmong Tryz.f6.resultTypes.toList)) = true := by kernel_rfl
theorem domValidates_fact16 : ((Rows.domValidatesRow.loops == (Tryz.f6.params.toList ++ Rows.domValidatesSpec.plain.varTypes (Tryz.pinned.checked.prog)).any ((Tryz.pinned.checked.prog).loopsFrom ·))) = true := by kernel_rfl
theorem domValidates_fact17 : ((Rows.domValidatesRow.wideKeys == (Tryz.f6.params.toList ++ Rows.domValidatesSpec.plain.varTypes (Tryz.pinned.checked.prog) ++ Tryz.f6.resultTypes.toList).any ((Tryz.pinned.checked.prog).wideKeysFrom ·))) = true := by kernel_rfl
theorem domValidates_fact18 : (Rows.domValidatesSpec.vars.all ((Tryz.pinned.checked.prog).varReadable ·)) = true := by kernel_rfl
theorem domValidates_fact19 : (Tryz.f6.resultTypes.all (fun t => (Tryz.pinned.checked.prog).readableRec t && decide (t < (Tryz.pinned.checked.prog).types.size))) = true := by kernel_rfl
theorem domValidates_fact20 : ((Rows.domValidatesRow.ifacesOut == Tryz.f6.resultTypes.toList.any ((Tryz.pinned.checked.prog).ifacesRec ·))) = true := by kernel_rfl
theorem domValidates_fact21 : ((Rows.domValidatesRow.loopsOut == Tryz.f6.resultTypes.toList.any ((Tryz.pinned.checked.prog).loopsFrom ·))) = true := by kernel_rfl
theorem domValidates_fact22 : ((Rows.domValidatesRow.plainKeys == (Tryz.pinned.checked.prog).plainKeys)) = true := by kernel_rfl
theorem domValidates_fact23 : (Rows.domValidatesRow.shortTexts.isNone) = true := by kernel_rfl
theorem domValidates_fact24 : ((Tryz.pinned.checked.prog).stopsHeard) = true := by kernel_rfl
theorem domValidates_fact25 : ((Tryz.pinned.checked.prog).mayEnter) = true := by kernel_rfl
theorem domValidates_fact26 : ((Rows.domValidatesRow.lifted == (Tryz.pinned.checked.prog).liftsFinal)) = true := by kernel_rfl
theorem domValidates_fact27 : (((Tryz.pinned.checked.prog).make == some Rows.domValidatesRow.make)) = true := by kernel_rfl
theorem domValidates_fact28 : ((Rows.domValidatesRow.kinds == (if Rows.domValidatesRow.domain.isEmpty then [] else Tryz.f6.params.toList.map fun t => match (Tryz.pinned.checked.prog).underlying t with | some (.int k) => some k | _ => none))) = true := by kernel_rfl
theorem domValidates_fact29 : ((Rows.domValidatesRow.pinned == Rows.domValidatesRow.pinnedBy)) = true := by kernel_rfl
theorem domValidates_fact30 : ((Rows.domValidatesRow.veiled == (Tryz.f6.params.toList ++ Rows.domValidatesSpec.plain.varTypes (Tryz.pinned.checked.prog) ++ Tryz.f6.resultTypes.toList).any ((Tryz.pinned.checked.prog).veiledRec ·))) = true := by kernel_rfl
theorem domValidates_fact31 : (Rows.domValidatesRow.veiledFits (Tryz.pinned.checked.prog) Tryz.f6.params.toList (Tryz.f6.params.toList ++ Rows.domValidatesSpec.plain.varTypes (Tryz.pinned.checked.prog) ++ Tryz.f6.resultTypes.toList)) = true := by kernel_rfl
set_option maxRecDepth 100000 in
theorem domValidates_facts : joinedFacts Tryz.pinned.checked.prog 6 Tryz.f6 Rows.domValidatesSpec Rows.domValidatesRow = true := by
  unfold joinedFacts
  exact both (both (both (both (both (both (both (both (both (both (both (both (both (both (both (both (both (both (both (both (both (both (both (both (both (both (both (both (both (both (both domValidates_fact0 domValidates_fact1) domValidates_fact2) domValidates_fact3) domValidates_fact4) domValidates_fact5) domValidates_fact6) domValidates_fact7) domValidates_fact8) domValidates_fact9) domValidates_fact10) domValidates_fact11) domValidates_fact12) domValidates_fact13) domValidates_fact14) domValidates_fact15) domValidates_fact16) domValidates_fact17) domValidates_fact18) domValidates_fact19) domValidates_fact20) domValidates_fact21) domValidates_fact22) domValidates_fact23) domValidates_fact24) domValidates_fact25) domValidates_fact26) domValidates_fact27) domValidates_fact28) domValidates_fact29) domValidates_fact30) domValidates_fact31

end Go.Proofs.YtpicinjcmjaogaaGreat
