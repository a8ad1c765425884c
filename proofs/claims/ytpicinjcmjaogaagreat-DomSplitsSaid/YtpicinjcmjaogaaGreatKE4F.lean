/-
  The facts of the statement DomSplits that a computation over the program decides. No walk here.
-/
import Derived.Test.YtpicinjcmjaogaaGreatRows
import Derived.ProofKit
namespace Go.Proofs.YtpicinjcmjaogaaGreat
open Go.ChangeShapes Go.WideShapes Go.ChangeAt Go.RowKit
set_option linter.unusedVariables false

theorem domSplits_facts : joinedFacts Tryz.pinned.checked.prog 5 Tryz.f5 Rows.domSplitsSpec Rows.domSplitsRow = true := by kernel_rfl

end Go.Proofs.YtpicinjcmjaogaaGreat
