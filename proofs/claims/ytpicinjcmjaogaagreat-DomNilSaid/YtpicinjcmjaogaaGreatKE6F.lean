/-
  The facts of the statement DomNil that a computation over the program decides. No walk here.
-/
import Derived.Test.YtpicinjcmjaogaaGreatRows
import Derived.ProofKit
namespace Go.Proofs.YtpicinjcmjaogaaGreat
open Go.ChangeShapes Go.WideShapes Go.ChangeAt Go.RowKit
set_option linter.unusedVariables false

theorem domNil_facts : joinedFacts Tryz.pinned.checked.prog 15 Tryz.f15 Rows.domNilSpec Rows.domNilRow = true := by kernel_rfl

end Go.Proofs.YtpicinjcmjaogaaGreat
