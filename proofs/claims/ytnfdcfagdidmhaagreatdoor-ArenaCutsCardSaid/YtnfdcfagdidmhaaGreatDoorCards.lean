/-
  DERIVED. GIVEN WITH THE SEED: THE CARDS: each row of YtnfdcfagdidmhaaGreatDoorRows.lean that lists a variable, with what it lists TIED to the program's text (the seventh form; the later family's looks); each row that meets fmt, with fmt's text TOLD by the authors' own Lean function (tested against real Go, not proved from fmt's source: count such statements apart). THE CARD IS WHAT COUNTS. Prove the row's statement (the work); the ties are given (YtnfdcfagdidmhaaGreatDoorTie.lean); close each card by the builder's one call (the guide's Derived/Test/ToyasCard.lean, 'card_holds'). Laid BY PROGRAM, IN A SANDBOX (cutbox-door.mjs). By AI agents, Wed Nov 11 2026. No macro, syntax, notation, axiom, sorry.
-/
import Derived.Test.YtnfdcfagdidmhaaGreatDoorRows
import GoSem.ClaimSeven
namespace Go.Proofs.YtnfdcfagdidmhaaGreatDoor
namespace Rows

/-- THE TIED CARD OF 'thicketlaw04.ArenaDumps'. -/
def arenaDumpsCard : Claim7 := { stood := { row := arenaDumpsRow, standIns := [], harness := (true, "cd28615c2b9c66504a4da340e0453049cd773764ca74a92f329c76613e84b884"), looks := true }, kinds := [], alts := [], laidByText := true, laidKinds := [.data, .data, .data], laidTests := true, laidLooks := .later }
def ArenaDumpsCardSaid : Prop := Claim7.holds Tryz.pinned (.plain (OpenSpec.ofChange arenaDumpsSpec)) arenaDumpsCard

/-- THE TIED CARD OF 'thicketlaw04.ArenaCuts'. -/
def arenaCutsCard : Claim7 := { stood := { row := arenaCutsRow, standIns := [], harness := (true, "cd28615c2b9c66504a4da340e0453049cd773764ca74a92f329c76613e84b884"), looks := true }, kinds := [], alts := [], laidByText := true, laidKinds := [.data, .data, .data], laidTests := true, laidLooks := .later }
def ArenaCutsCardSaid : Prop := Claim7.holds Tryz.pinned (.plain (OpenSpec.ofChange arenaCutsSpec)) arenaCutsCard

/-- THE TIED CARD OF 'thicketlaw04.ArenaNil'. -/
def arenaNilCard : Claim7 := { stood := { row := arenaNilRow, standIns := [], harness := (true, "cd28615c2b9c66504a4da340e0453049cd773764ca74a92f329c76613e84b884"), looks := true }, kinds := [], alts := [], laidByText := true, laidKinds := [.data, .data, .data], laidTests := true, laidLooks := .later }
def ArenaNilCardSaid : Prop := Claim7.holds Tryz.pinned (.plain (OpenSpec.ofChange arenaNilSpec)) arenaNilCard

/-- THE SECOND FORM's CARD OF 'thicketlaw04.ArenaDumps'. -/
def arenaDumpsUptoCard : Claim7 := { stood := { row := arenaDumpsUptoRow, standIns := [], harness := (true, "cd28615c2b9c66504a4da340e0453049cd773764ca74a92f329c76613e84b884"), looks := true }, kinds := [], alts := [], laidByText := true, laidKinds := [.data, .data, .data], laidTests := true, laidLooks := .later }
def ArenaDumpsUptoCardSaid : Prop := Claim7.holds Tryz.pinned (.plain (OpenSpec.upto arenaDumpsSpec)) arenaDumpsUptoCard

/-- THE SECOND FORM's CARD OF 'thicketlaw04.ArenaCuts'. -/
def arenaCutsUptoCard : Claim7 := { stood := { row := arenaCutsUptoRow, standIns := [], harness := (true, "cd28615c2b9c66504a4da340e0453049cd773764ca74a92f329c76613e84b884"), looks := true }, kinds := [], alts := [], laidByText := true, laidKinds := [.data, .data, .data], laidTests := true, laidLooks := .later }
def ArenaCutsUptoCardSaid : Prop := Claim7.holds Tryz.pinned (.plain (OpenSpec.upto arenaCutsSpec)) arenaCutsUptoCard

/-- THE SECOND FORM's CARD OF 'thicketlaw04.ArenaNil'. -/
def arenaNilUptoCard : Claim7 := { stood := { row := arenaNilUptoRow, standIns := [], harness := (true, "cd28615c2b9c66504a4da340e0453049cd773764ca74a92f329c76613e84b884"), looks := true }, kinds := [], alts := [], laidByText := true, laidKinds := [.data, .data, .data], laidTests := true, laidLooks := .later }
def ArenaNilUptoCardSaid : Prop := Claim7.holds Tryz.pinned (.plain (OpenSpec.upto arenaNilSpec)) arenaNilUptoCard
end Rows
end Go.Proofs.YtnfdcfagdidmhaaGreatDoor
