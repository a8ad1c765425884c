/-
  The facts of the statement DomReplaces that a computation over the program decides. No walk here.
-/
import Derived.Test.YtpicinjcmjaogaaGreatRows
import Derived.ProofKit
namespace Go.Proofs.YtpicinjcmjaogaaGreat
open Go.ChangeShapes Go.WideShapes Go.ChangeAt Go.RowKit
set_option linter.unusedVariables false

theorem domReplaces_facts : joinedFacts Tryz.pinned.checked.prog 4 Tryz.f4 Rows.domReplacesSpec Rows.domReplacesRow = true := by kernel_rfl

end Go.Proofs.YtpicinjcmjaogaaGreat
