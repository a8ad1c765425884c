/-
  The law ArenaPlays.
-/
import Derived.Test.YtnfdcfagdidmhaaGreatDoorPL1
import Derived.Test.YtnfdcfagdidmhaaGreatDoorPL2
import Derived.Test.YtnfdcfagdidmhaaGreatDoorT4
namespace Go.Proofs.YtnfdcfagdidmhaaGreatDoor
open Go.RowKit
set_option linter.unusedVariables false

end Go.Proofs.YtnfdcfagdidmhaaGreatDoor
