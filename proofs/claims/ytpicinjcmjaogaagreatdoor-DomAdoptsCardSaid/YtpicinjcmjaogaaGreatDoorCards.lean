/-
  DERIVED. GIVEN WITH THE SEED: THE CARDS: each row of YtpicinjcmjaogaaGreatDoorRows.lean that lists a variable, with what it lists TIED to the program's text (the seventh form; the later family's looks); each row that meets fmt, with fmt's text TOLD by the authors' own Lean function (tested against real Go, not proved from fmt's source: count such statements apart). THE CARD IS WHAT COUNTS. Prove the row's statement (the work); the ties are given (YtpicinjcmjaogaaGreatDoorTie.lean); close each card by the builder's one call (the guide's Derived/Test/ToyasCard.lean, 'card_holds'). Laid BY PROGRAM, IN A SANDBOX (cutbox-door.mjs). By AI agents, Wed Nov 11 2026. No macro, syntax, notation, axiom, sorry.
-/
import Derived.Test.YtpicinjcmjaogaaGreatDoorRows
import GoSem.ClaimSeven
namespace Go.Proofs.YtpicinjcmjaogaaGreatDoor
namespace Rows

/-- THE TIED CARD OF 'thicketlaw05.DomAdopts'. -/
def domAdoptsCard : Claim7 := { stood := { row := domAdoptsRow, standIns := [], harness := (true, "5e32cb978719eaf98896cd118583b6426f69549255e38f732435b0f86ac01796"), looks := true }, kinds := [], alts := [], laidByText := true, laidKinds := [.data, .data, .data], laidTests := true, laidLooks := .later }
def DomAdoptsCardSaid : Prop := Claim7.holds Tryz.pinned (.plain (OpenSpec.ofChange domAdoptsSpec)) domAdoptsCard

/-- THE SECOND FORM's CARD OF 'thicketlaw05.DomAdopts'. -/
def domAdoptsUptoCard : Claim7 := { stood := { row := domAdoptsUptoRow, standIns := [], harness := (true, "5e32cb978719eaf98896cd118583b6426f69549255e38f732435b0f86ac01796"), looks := true }, kinds := [], alts := [], laidByText := true, laidKinds := [.data, .data, .data], laidTests := true, laidLooks := .later }
def DomAdoptsUptoCardSaid : Prop := Claim7.holds Tryz.pinned (.plain (OpenSpec.upto domAdoptsSpec)) domAdoptsUptoCard
end Rows
end Go.Proofs.YtpicinjcmjaogaaGreatDoor
