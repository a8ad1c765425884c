/-
  The facts of the statement DomClones that a computation over the program decides. No walk here.
-/
import Derived.Test.YtpicinjcmjaogaaGreatRows
import Derived.ProofKit
namespace Go.Proofs.YtpicinjcmjaogaaGreat
open Go.ChangeShapes Go.WideShapes Go.ChangeAt Go.RowKit
set_option linter.unusedVariables false

theorem domClones_facts : joinedFacts Tryz.pinned.checked.prog 16 Tryz.f16 Rows.domClonesSpec Rows.domClonesRow = true := by kernel_rfl

end Go.Proofs.YtpicinjcmjaogaaGreat
