/-
  The facts of the statement DomOutside that a computation over the program decides. No walk here.
-/
import Derived.Test.YtpicinjcmjaogaaGreatRows
import Derived.ProofKit
namespace Go.Proofs.YtpicinjcmjaogaaGreat
open Go.ChangeShapes Go.WideShapes Go.ChangeAt Go.RowKit
set_option linter.unusedVariables false

theorem domOutside_facts : joinedFacts Tryz.pinned.checked.prog 8 Tryz.f8 Rows.domOutsideSpec Rows.domOutsideRow = true := by kernel_rfl

end Go.Proofs.YtpicinjcmjaogaaGreat
