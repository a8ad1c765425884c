/-
  The facts of the statement DomStays that a computation over the program decides. No walk here.
-/
import Derived.Test.YtpicinjcmjaogaaGreatRows
import Derived.ProofKit
namespace Go.Proofs.YtpicinjcmjaogaaGreat
open Go.ChangeShapes Go.WideShapes Go.ChangeAt Go.RowKit
set_option linter.unusedVariables false

theorem domStays_facts : joinedFacts Tryz.pinned.checked.prog 17 Tryz.f17 Rows.domStaysSpec Rows.domStaysRow = true := by kernel_rfl

end Go.Proofs.YtpicinjcmjaogaaGreat
