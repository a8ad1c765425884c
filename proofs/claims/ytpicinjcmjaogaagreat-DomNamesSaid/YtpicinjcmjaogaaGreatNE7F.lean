/-
  The facts of the statement DomNames that a computation over the program decides. No walk here.
-/
import Derived.Test.YtpicinjcmjaogaaGreatRows
import Derived.ProofKit
namespace Go.Proofs.YtpicinjcmjaogaaGreat
open Go.ChangeShapes Go.WideShapes Go.ChangeAt Go.RowKit
set_option linter.unusedVariables false

theorem domNames_facts : joinedFacts Tryz.pinned.checked.prog 3 Tryz.f3 Rows.domNamesSpec Rows.domNamesRow = true := by kernel_rfl

end Go.Proofs.YtpicinjcmjaogaaGreat
