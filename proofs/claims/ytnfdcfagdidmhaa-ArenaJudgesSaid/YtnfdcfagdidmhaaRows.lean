/-
  No cell of these rows narrows 'for every input' (looked for: loops, veiled, ifaces, maps, wideKeys, modest, calm, conditions, laid).
  DERIVED. THE GIVEN ROWS OF THIS SEAT. 14 by the template 'for every input the law returns true; each argument reads behind the call as it read before'; 0 by the template 'total and deterministic' (their statements: YtnfdcfagdidmhaaTotals.lean).
  GIVEN WITH THE SEED: the statements are not yours to turn. If you find one false, say at which input.
  Laid BY PROGRAM, IN A SANDBOX (cutbox-rows.mjs): the forced cells as the released guide's own fill.sh prints them over the translation 69ef11da2bc316fe… (all of the seat's roots in one cut). By AI agents, Wed Nov 11 2026. No macro, syntax, notation, axiom, sorry.
-/
import Derived.Test.YtnfdcfagdidmhaaChecked
import GoSem.Claim
import GoSem.ClaimJoined
import GoSem.ClaimMapViews
import Derived.JoinedTies
import Derived.KernelRfl
namespace Go.Proofs.Ytnfdcfagdidmhaa
/- THE CELL 'sum', in the pinned program and in every row, IS THE sha256 OF THE DUMP (.gsa) THAT YtnfdcfagdidmhaaProg.lean LOADS. Nothing in Lean hashes anything: it is a label: what it is worth is what the hold of that sum in a sandbox is worth. -/
noncomputable def Try.pinned : Pinned := { name := "ytnfdcfagdidmhaa", sum := "69ef11da2bc316fe73db9baf283fab23dfa4be2694afa806bbff61063bc04ece", checked := Try.checked }
namespace Rows
def none {H : Type} : Left H := { results := [], args := [] }

/-- 'thicketlaw04.ArenaInert': WHATEVER THE INPUT: true; the input reads as it did. -/
def arenaInertSpec : ChangeSpec := { name := "arenaInert", fn := fun _ => fun
  | [d1, d2] => { results := [.lit (.bool true)], args := [d1, d2] }
  | _ => none }
def arenaInertRow : OpenClaim := { program := "ytnfdcfagdidmhaa", sum := "69ef11da2bc316fe73db9baf283fab23dfa4be2694afa806bbff61063bc04ece", func := "thicket/thicketlaw04.ArenaInert", spec := "arenaInert", inPlace := ["slices.overlaps[int]"], unfollowed := true, recurses := true, apart := false }
def ArenaInertSaid : Prop := arenaInertRow.holds Try.pinned (OpenSpec.ofChange arenaInertSpec)

/-- ITS FALSE NEIGHBOUR: 'it returns false'. Refute it at one input. -/
def arenaInertWrong : ChangeSpec := { name := "arenaInert", fn := fun _ => fun
  | [d1, d2] => { results := [.lit (.bool false)], args := [d1, d2] }
  | _ => none }
def ArenaInertWrongFalsely : Prop := arenaInertRow.holds Try.pinned (OpenSpec.ofChange arenaInertWrong)

/-- 'thicketlaw04.ArenaPlays': WHATEVER THE INPUT: true; the input reads as it did. -/
def arenaPlaysSpec : ChangeSpec := { name := "arenaPlays", fn := fun _ => fun
  | [d] => { results := [.lit (.bool true)], args := [d] }
  | _ => none }
def arenaPlaysRow : OpenClaim := { program := "ytnfdcfagdidmhaa", sum := "69ef11da2bc316fe73db9baf283fab23dfa4be2694afa806bbff61063bc04ece", func := "thicket/thicketlaw04.ArenaPlays", spec := "arenaPlays", inPlace := ["slices.overlaps[int]"], unfollowed := true, recurses := true, apart := false }
def ArenaPlaysSaid : Prop := arenaPlaysRow.holds Try.pinned (OpenSpec.ofChange arenaPlaysSpec)

/-- ITS FALSE NEIGHBOUR: 'it returns false'. Refute it at one input. -/
def arenaPlaysWrong : ChangeSpec := { name := "arenaPlays", fn := fun _ => fun
  | [d] => { results := [.lit (.bool false)], args := [d] }
  | _ => none }
def ArenaPlaysWrongFalsely : Prop := arenaPlaysRow.holds Try.pinned (OpenSpec.ofChange arenaPlaysWrong)

/-- 'thicketlaw04.ArenaHandles': WHATEVER THE INPUT: true; the input reads as it did. -/
def arenaHandlesSpec : ChangeSpec := { name := "arenaHandles", fn := fun _ => fun
  | [d] => { results := [.lit (.bool true)], args := [d] }
  | _ => none }
def arenaHandlesRow : OpenClaim := { program := "ytnfdcfagdidmhaa", sum := "69ef11da2bc316fe73db9baf283fab23dfa4be2694afa806bbff61063bc04ece", func := "thicket/thicketlaw04.ArenaHandles", spec := "arenaHandles", inPlace := ["slices.overlaps[int]"], unfollowed := true, recurses := true, apart := false }
def ArenaHandlesSaid : Prop := arenaHandlesRow.holds Try.pinned (OpenSpec.ofChange arenaHandlesSpec)

/-- ITS FALSE NEIGHBOUR: 'it returns false'. Refute it at one input. -/
def arenaHandlesWrong : ChangeSpec := { name := "arenaHandles", fn := fun _ => fun
  | [d] => { results := [.lit (.bool false)], args := [d] }
  | _ => none }
def ArenaHandlesWrongFalsely : Prop := arenaHandlesRow.holds Try.pinned (OpenSpec.ofChange arenaHandlesWrong)

/-- 'thicketlaw04.ArenaOwn': WHATEVER THE INPUT: true; the input reads as it did. -/
def arenaOwnSpec : ChangeSpec := { name := "arenaOwn", fn := fun _ => fun
  | [d1, d2, d3] => { results := [.lit (.bool true)], args := [d1, d2, d3] }
  | _ => none }
def arenaOwnRow : OpenClaim := { program := "ytnfdcfagdidmhaa", sum := "69ef11da2bc316fe73db9baf283fab23dfa4be2694afa806bbff61063bc04ece", func := "thicket/thicketlaw04.ArenaOwn", spec := "arenaOwn", inPlace := ["slices.overlaps[int]"], unfollowed := true, recurses := true, apart := false }
def ArenaOwnSaid : Prop := arenaOwnRow.holds Try.pinned (OpenSpec.ofChange arenaOwnSpec)

/-- ITS FALSE NEIGHBOUR: 'it returns false'. Refute it at one input. -/
def arenaOwnWrong : ChangeSpec := { name := "arenaOwn", fn := fun _ => fun
  | [d1, d2, d3] => { results := [.lit (.bool false)], args := [d1, d2, d3] }
  | _ => none }
def ArenaOwnWrongFalsely : Prop := arenaOwnRow.holds Try.pinned (OpenSpec.ofChange arenaOwnWrong)

/-- 'thicketlaw04.ArenaJudges': WHATEVER THE INPUT: true; the input reads as it did. -/
def arenaJudgesSpec : ChangeSpec := { name := "arenaJudges", fn := fun _ => fun
  | [d] => { results := [.lit (.bool true)], args := [d] }
  | _ => none }
def arenaJudgesRow : OpenClaim := { program := "ytnfdcfagdidmhaa", sum := "69ef11da2bc316fe73db9baf283fab23dfa4be2694afa806bbff61063bc04ece", func := "thicket/thicketlaw04.ArenaJudges", spec := "arenaJudges", inPlace := ["slices.overlaps[int]"], unfollowed := true, recurses := true, apart := false }
def ArenaJudgesSaid : Prop := arenaJudgesRow.holds Try.pinned (OpenSpec.ofChange arenaJudgesSpec)

/-- ITS FALSE NEIGHBOUR: 'it returns false'. Refute it at one input. -/
def arenaJudgesWrong : ChangeSpec := { name := "arenaJudges", fn := fun _ => fun
  | [d] => { results := [.lit (.bool false)], args := [d] }
  | _ => none }
def ArenaJudgesWrongFalsely : Prop := arenaJudgesRow.holds Try.pinned (OpenSpec.ofChange arenaJudgesWrong)

/-- 'thicketlaw04.ArenaReads': WHATEVER THE INPUT: true; the input reads as it did. -/
def arenaReadsSpec : ChangeSpec := { name := "arenaReads", fn := fun _ => fun
  | [d1, d2, d3] => { results := [.lit (.bool true)], args := [d1, d2, d3] }
  | _ => none }
def arenaReadsRow : OpenClaim := { program := "ytnfdcfagdidmhaa", sum := "69ef11da2bc316fe73db9baf283fab23dfa4be2694afa806bbff61063bc04ece", func := "thicket/thicketlaw04.ArenaReads", spec := "arenaReads", inPlace := ["slices.overlaps[int]"], unfollowed := true, recurses := true, apart := false }
def ArenaReadsSaid : Prop := arenaReadsRow.holds Try.pinned (OpenSpec.ofChange arenaReadsSpec)

/-- ITS FALSE NEIGHBOUR: 'it returns false'. Refute it at one input. -/
def arenaReadsWrong : ChangeSpec := { name := "arenaReads", fn := fun _ => fun
  | [d1, d2, d3] => { results := [.lit (.bool false)], args := [d1, d2, d3] }
  | _ => none }
def ArenaReadsWrongFalsely : Prop := arenaReadsRow.holds Try.pinned (OpenSpec.ofChange arenaReadsWrong)

/-- 'thicketlaw04.ArenaMoves': WHATEVER THE INPUT: true; the input reads as it did. -/
def arenaMovesSpec : ChangeSpec := { name := "arenaMoves", fn := fun _ => fun
  | [d1, d2, d3, d4] => { results := [.lit (.bool true)], args := [d1, d2, d3, d4] }
  | _ => none }
def arenaMovesRow : OpenClaim := { program := "ytnfdcfagdidmhaa", sum := "69ef11da2bc316fe73db9baf283fab23dfa4be2694afa806bbff61063bc04ece", func := "thicket/thicketlaw04.ArenaMoves", spec := "arenaMoves", inPlace := ["slices.overlaps[int]"], unfollowed := true, recurses := true, apart := false }
def ArenaMovesSaid : Prop := arenaMovesRow.holds Try.pinned (OpenSpec.ofChange arenaMovesSpec)

/-- ITS FALSE NEIGHBOUR: 'it returns false'. Refute it at one input. -/
def arenaMovesWrong : ChangeSpec := { name := "arenaMoves", fn := fun _ => fun
  | [d1, d2, d3, d4] => { results := [.lit (.bool false)], args := [d1, d2, d3, d4] }
  | _ => none }
def ArenaMovesWrongFalsely : Prop := arenaMovesRow.holds Try.pinned (OpenSpec.ofChange arenaMovesWrong)

/-- 'thicketlaw04.ArenaWalks': WHATEVER THE INPUT: true; the input reads as it did. -/
def arenaWalksSpec : ChangeSpec := { name := "arenaWalks", fn := fun _ => fun
  | [d1, d2, d3] => { results := [.lit (.bool true)], args := [d1, d2, d3] }
  | _ => none }
def arenaWalksRow : OpenClaim := { program := "ytnfdcfagdidmhaa", sum := "69ef11da2bc316fe73db9baf283fab23dfa4be2694afa806bbff61063bc04ece", func := "thicket/thicketlaw04.ArenaWalks", spec := "arenaWalks", inPlace := ["slices.overlaps[int]"], unfollowed := true, recurses := true, apart := false }
def ArenaWalksSaid : Prop := arenaWalksRow.holds Try.pinned (OpenSpec.ofChange arenaWalksSpec)

/-- ITS FALSE NEIGHBOUR: 'it returns false'. Refute it at one input. -/
def arenaWalksWrong : ChangeSpec := { name := "arenaWalks", fn := fun _ => fun
  | [d1, d2, d3] => { results := [.lit (.bool false)], args := [d1, d2, d3] }
  | _ => none }
def ArenaWalksWrongFalsely : Prop := arenaWalksRow.holds Try.pinned (OpenSpec.ofChange arenaWalksWrong)

/-- 'thicketlaw04.ArenaVisits': WHATEVER THE INPUT: true; the input reads as it did. -/
def arenaVisitsSpec : ChangeSpec := { name := "arenaVisits", fn := fun _ => fun
  | [d1, d2] => { results := [.lit (.bool true)], args := [d1, d2] }
  | _ => none }
def arenaVisitsRow : OpenClaim := { program := "ytnfdcfagdidmhaa", sum := "69ef11da2bc316fe73db9baf283fab23dfa4be2694afa806bbff61063bc04ece", func := "thicket/thicketlaw04.ArenaVisits", spec := "arenaVisits", inPlace := ["slices.overlaps[int]"], unfollowed := true, recurses := true, apart := false }
def ArenaVisitsSaid : Prop := arenaVisitsRow.holds Try.pinned (OpenSpec.ofChange arenaVisitsSpec)

/-- ITS FALSE NEIGHBOUR: 'it returns false'. Refute it at one input. -/
def arenaVisitsWrong : ChangeSpec := { name := "arenaVisits", fn := fun _ => fun
  | [d1, d2] => { results := [.lit (.bool false)], args := [d1, d2] }
  | _ => none }
def ArenaVisitsWrongFalsely : Prop := arenaVisitsRow.holds Try.pinned (OpenSpec.ofChange arenaVisitsWrong)

/-- 'thicketlaw04.ArenaKeeps': WHATEVER THE INPUT: true; the input reads as it did. -/
def arenaKeepsSpec : ChangeSpec := { name := "arenaKeeps", fn := fun _ => fun
  | [d1, d2, d3] => { results := [.lit (.bool true)], args := [d1, d2, d3] }
  | _ => none }
def arenaKeepsRow : OpenClaim := { program := "ytnfdcfagdidmhaa", sum := "69ef11da2bc316fe73db9baf283fab23dfa4be2694afa806bbff61063bc04ece", func := "thicket/thicketlaw04.ArenaKeeps", spec := "arenaKeeps", inPlace := ["slices.overlaps[int]"], unfollowed := true, recurses := true, apart := false }
def ArenaKeepsSaid : Prop := arenaKeepsRow.holds Try.pinned (OpenSpec.ofChange arenaKeepsSpec)

/-- ITS FALSE NEIGHBOUR: 'it returns false'. Refute it at one input. -/
def arenaKeepsWrong : ChangeSpec := { name := "arenaKeeps", fn := fun _ => fun
  | [d1, d2, d3] => { results := [.lit (.bool false)], args := [d1, d2, d3] }
  | _ => none }
def ArenaKeepsWrongFalsely : Prop := arenaKeepsRow.holds Try.pinned (OpenSpec.ofChange arenaKeepsWrong)

/-- 'thicketlaw04.ArenaSame': WHATEVER THE INPUT: true; the input reads as it did. -/
def arenaSameSpec : ChangeSpec := { name := "arenaSame", fn := fun _ => fun
  | [d1, d2, d3, d4] => { results := [.lit (.bool true)], args := [d1, d2, d3, d4] }
  | _ => none }
def arenaSameRow : OpenClaim := { program := "ytnfdcfagdidmhaa", sum := "69ef11da2bc316fe73db9baf283fab23dfa4be2694afa806bbff61063bc04ece", func := "thicket/thicketlaw04.ArenaSame", spec := "arenaSame", inPlace := ["slices.overlaps[int]"], unfollowed := true, recurses := true, apart := false }
def ArenaSameSaid : Prop := arenaSameRow.holds Try.pinned (OpenSpec.ofChange arenaSameSpec)

/-- ITS FALSE NEIGHBOUR: 'it returns false'. Refute it at one input. -/
def arenaSameWrong : ChangeSpec := { name := "arenaSame", fn := fun _ => fun
  | [d1, d2, d3, d4] => { results := [.lit (.bool false)], args := [d1, d2, d3, d4] }
  | _ => none }
def ArenaSameWrongFalsely : Prop := arenaSameRow.holds Try.pinned (OpenSpec.ofChange arenaSameWrong)

/-- 'thicketlaw04.ArenaStays': WHATEVER THE INPUT: true; the input reads as it did. -/
def arenaStaysSpec : ChangeSpec := { name := "arenaStays", fn := fun _ => fun
  | [d1, d2] => { results := [.lit (.bool true)], args := [d1, d2] }
  | _ => none }
def arenaStaysRow : OpenClaim := { program := "ytnfdcfagdidmhaa", sum := "69ef11da2bc316fe73db9baf283fab23dfa4be2694afa806bbff61063bc04ece", func := "thicket/thicketlaw04.ArenaStays", spec := "arenaStays", inPlace := ["slices.overlaps[int]", "maps.clone"], unfollowed := true, recurses := true, apart := false }
def ArenaStaysSaid : Prop := arenaStaysRow.holds Try.pinned (OpenSpec.ofChange arenaStaysSpec)

/-- ITS FALSE NEIGHBOUR: 'it returns false'. Refute it at one input. -/
def arenaStaysWrong : ChangeSpec := { name := "arenaStays", fn := fun _ => fun
  | [d1, d2] => { results := [.lit (.bool false)], args := [d1, d2] }
  | _ => none }
def ArenaStaysWrongFalsely : Prop := arenaStaysRow.holds Try.pinned (OpenSpec.ofChange arenaStaysWrong)

/-- 'thicketlaw04.ArenaApart': WHATEVER THE INPUT: true; the input reads as it did. -/
def arenaApartSpec : ChangeSpec := { name := "arenaApart", fn := fun _ => fun
  | [d1, d2] => { results := [.lit (.bool true)], args := [d1, d2] }
  | _ => none }
def arenaApartRow : OpenClaim := { program := "ytnfdcfagdidmhaa", sum := "69ef11da2bc316fe73db9baf283fab23dfa4be2694afa806bbff61063bc04ece", func := "thicket/thicketlaw04.ArenaApart", spec := "arenaApart", inPlace := ["slices.overlaps[int]", "maps.clone"], unfollowed := true, recurses := true, apart := false }
def ArenaApartSaid : Prop := arenaApartRow.holds Try.pinned (OpenSpec.ofChange arenaApartSpec)

/-- ITS FALSE NEIGHBOUR: 'it returns false'. Refute it at one input. -/
def arenaApartWrong : ChangeSpec := { name := "arenaApart", fn := fun _ => fun
  | [d1, d2] => { results := [.lit (.bool false)], args := [d1, d2] }
  | _ => none }
def ArenaApartWrongFalsely : Prop := arenaApartRow.holds Try.pinned (OpenSpec.ofChange arenaApartWrong)

/-- 'thicketlaw04.ArenaSound': WHATEVER THE INPUT: true; the input reads as it did. -/
def arenaSoundSpec : ChangeSpec := { name := "arenaSound", fn := fun _ => fun
  | [d] => { results := [.lit (.bool true)], args := [d] }
  | _ => none }
def arenaSoundRow : OpenClaim := { program := "ytnfdcfagdidmhaa", sum := "69ef11da2bc316fe73db9baf283fab23dfa4be2694afa806bbff61063bc04ece", func := "thicket/thicketlaw04.ArenaSound", spec := "arenaSound", inPlace := ["slices.overlaps[int]"], unfollowed := true, recurses := true, apart := false }
def ArenaSoundSaid : Prop := arenaSoundRow.holds Try.pinned (OpenSpec.ofChange arenaSoundSpec)

/-- ITS FALSE NEIGHBOUR: 'it returns false'. Refute it at one input. -/
def arenaSoundWrong : ChangeSpec := { name := "arenaSound", fn := fun _ => fun
  | [d] => { results := [.lit (.bool false)], args := [d] }
  | _ => none }
def ArenaSoundWrongFalsely : Prop := arenaSoundRow.holds Try.pinned (OpenSpec.ofChange arenaSoundWrong)

/- THE SECOND FORM. 'bulk': how many values and letters a reading holds, each counted each time it is reached (what is shared counts as often as it is met; a slice's spare places count too). A statement '..UptoSaid' is the law's where the arguments, and the package variables that the reading takes, are together of bulk at most 1048576: NARROWER than '..Said'. Prove '..Said' where nothing that the law and all that it calls make is longer than what came in: it says more and counts as full. Else prove '..UptoSaid'. A law counts once. -/
mutual
def uptoBulk {H : Type} : DataW H → Nat
  | .lit (.string bytes) => bytes.length + 1
  | .lit _ => 1
  | .nil => 1
  | .ptr d => uptoBulk d + 1
  | .slice elems spare => uptoBulkAll elems + uptoBulkAll spare + 1
  | .agg parts => uptoBulkAll parts + 1
  | .iface _ d => uptoBulk d + 1
  | .map entries => uptoBulkEntries entries + 1
  | .held _ => 1
def uptoBulkAll {H : Type} : List (DataW H) → Nat
  | [] => 0
  | d :: r => uptoBulk d + uptoBulkAll r
def uptoBulkEntries {H : Type} : List (Lit × DataW H) → Nat
  | [] => 0
  | x :: r => uptoBulkEntry x + uptoBulkEntries r
def uptoBulkEntry {H : Type} : Lit × DataW H → Nat
  | (.string bytes, d) => bytes.length + uptoBulk d + 1
  | (_, d) => uptoBulk d + 1
 end
def uptoSmall : (H : Type) → List (DataW H) → Bool := fun _ ds => decide (uptoBulkAll ds ≤ 1048576)
def OpenSpec.upto (s : _root_.Go.ChangeSpec) : _root_.Go.OpenSpec := { _root_.Go.OpenSpec.ofChange s with cond := some uptoSmall }

/-- 'thicketlaw04.ArenaInert', WHERE WHAT IT READS IS OF BULK AT MOST 1048576: true; the input reads as it did. -/
def arenaInertUptoRow : OpenClaim := { program := "ytnfdcfagdidmhaa", sum := "69ef11da2bc316fe73db9baf283fab23dfa4be2694afa806bbff61063bc04ece", func := "thicket/thicketlaw04.ArenaInert", spec := "arenaInert", inPlace := ["slices.overlaps[int]"], unfollowed := true, recurses := true, apart := false, narrowed := true }
def ArenaInertUptoSaid : Prop := arenaInertUptoRow.holds Try.pinned (OpenSpec.upto arenaInertSpec)

/-- 'thicketlaw04.ArenaPlays', WHERE WHAT IT READS IS OF BULK AT MOST 1048576: true; the input reads as it did. -/
def arenaPlaysUptoRow : OpenClaim := { program := "ytnfdcfagdidmhaa", sum := "69ef11da2bc316fe73db9baf283fab23dfa4be2694afa806bbff61063bc04ece", func := "thicket/thicketlaw04.ArenaPlays", spec := "arenaPlays", inPlace := ["slices.overlaps[int]"], unfollowed := true, recurses := true, apart := false, narrowed := true }
def ArenaPlaysUptoSaid : Prop := arenaPlaysUptoRow.holds Try.pinned (OpenSpec.upto arenaPlaysSpec)

/-- 'thicketlaw04.ArenaHandles', WHERE WHAT IT READS IS OF BULK AT MOST 1048576: true; the input reads as it did. -/
def arenaHandlesUptoRow : OpenClaim := { program := "ytnfdcfagdidmhaa", sum := "69ef11da2bc316fe73db9baf283fab23dfa4be2694afa806bbff61063bc04ece", func := "thicket/thicketlaw04.ArenaHandles", spec := "arenaHandles", inPlace := ["slices.overlaps[int]"], unfollowed := true, recurses := true, apart := false, narrowed := true }
def ArenaHandlesUptoSaid : Prop := arenaHandlesUptoRow.holds Try.pinned (OpenSpec.upto arenaHandlesSpec)

/-- 'thicketlaw04.ArenaOwn', WHERE WHAT IT READS IS OF BULK AT MOST 1048576: true; the input reads as it did. -/
def arenaOwnUptoRow : OpenClaim := { program := "ytnfdcfagdidmhaa", sum := "69ef11da2bc316fe73db9baf283fab23dfa4be2694afa806bbff61063bc04ece", func := "thicket/thicketlaw04.ArenaOwn", spec := "arenaOwn", inPlace := ["slices.overlaps[int]"], unfollowed := true, recurses := true, apart := false, narrowed := true }
def ArenaOwnUptoSaid : Prop := arenaOwnUptoRow.holds Try.pinned (OpenSpec.upto arenaOwnSpec)

/-- 'thicketlaw04.ArenaJudges', WHERE WHAT IT READS IS OF BULK AT MOST 1048576: true; the input reads as it did. -/
def arenaJudgesUptoRow : OpenClaim := { program := "ytnfdcfagdidmhaa", sum := "69ef11da2bc316fe73db9baf283fab23dfa4be2694afa806bbff61063bc04ece", func := "thicket/thicketlaw04.ArenaJudges", spec := "arenaJudges", inPlace := ["slices.overlaps[int]"], unfollowed := true, recurses := true, apart := false, narrowed := true }
def ArenaJudgesUptoSaid : Prop := arenaJudgesUptoRow.holds Try.pinned (OpenSpec.upto arenaJudgesSpec)

/-- 'thicketlaw04.ArenaReads', WHERE WHAT IT READS IS OF BULK AT MOST 1048576: true; the input reads as it did. -/
def arenaReadsUptoRow : OpenClaim := { program := "ytnfdcfagdidmhaa", sum := "69ef11da2bc316fe73db9baf283fab23dfa4be2694afa806bbff61063bc04ece", func := "thicket/thicketlaw04.ArenaReads", spec := "arenaReads", inPlace := ["slices.overlaps[int]"], unfollowed := true, recurses := true, apart := false, narrowed := true }
def ArenaReadsUptoSaid : Prop := arenaReadsUptoRow.holds Try.pinned (OpenSpec.upto arenaReadsSpec)

/-- 'thicketlaw04.ArenaMoves', WHERE WHAT IT READS IS OF BULK AT MOST 1048576: true; the input reads as it did. -/
def arenaMovesUptoRow : OpenClaim := { program := "ytnfdcfagdidmhaa", sum := "69ef11da2bc316fe73db9baf283fab23dfa4be2694afa806bbff61063bc04ece", func := "thicket/thicketlaw04.ArenaMoves", spec := "arenaMoves", inPlace := ["slices.overlaps[int]"], unfollowed := true, recurses := true, apart := false, narrowed := true }
def ArenaMovesUptoSaid : Prop := arenaMovesUptoRow.holds Try.pinned (OpenSpec.upto arenaMovesSpec)

/-- 'thicketlaw04.ArenaWalks', WHERE WHAT IT READS IS OF BULK AT MOST 1048576: true; the input reads as it did. -/
def arenaWalksUptoRow : OpenClaim := { program := "ytnfdcfagdidmhaa", sum := "69ef11da2bc316fe73db9baf283fab23dfa4be2694afa806bbff61063bc04ece", func := "thicket/thicketlaw04.ArenaWalks", spec := "arenaWalks", inPlace := ["slices.overlaps[int]"], unfollowed := true, recurses := true, apart := false, narrowed := true }
def ArenaWalksUptoSaid : Prop := arenaWalksUptoRow.holds Try.pinned (OpenSpec.upto arenaWalksSpec)

/-- 'thicketlaw04.ArenaVisits', WHERE WHAT IT READS IS OF BULK AT MOST 1048576: true; the input reads as it did. -/
def arenaVisitsUptoRow : OpenClaim := { program := "ytnfdcfagdidmhaa", sum := "69ef11da2bc316fe73db9baf283fab23dfa4be2694afa806bbff61063bc04ece", func := "thicket/thicketlaw04.ArenaVisits", spec := "arenaVisits", inPlace := ["slices.overlaps[int]"], unfollowed := true, recurses := true, apart := false, narrowed := true }
def ArenaVisitsUptoSaid : Prop := arenaVisitsUptoRow.holds Try.pinned (OpenSpec.upto arenaVisitsSpec)

/-- 'thicketlaw04.ArenaKeeps', WHERE WHAT IT READS IS OF BULK AT MOST 1048576: true; the input reads as it did. -/
def arenaKeepsUptoRow : OpenClaim := { program := "ytnfdcfagdidmhaa", sum := "69ef11da2bc316fe73db9baf283fab23dfa4be2694afa806bbff61063bc04ece", func := "thicket/thicketlaw04.ArenaKeeps", spec := "arenaKeeps", inPlace := ["slices.overlaps[int]"], unfollowed := true, recurses := true, apart := false, narrowed := true }
def ArenaKeepsUptoSaid : Prop := arenaKeepsUptoRow.holds Try.pinned (OpenSpec.upto arenaKeepsSpec)

/-- 'thicketlaw04.ArenaSame', WHERE WHAT IT READS IS OF BULK AT MOST 1048576: true; the input reads as it did. -/
def arenaSameUptoRow : OpenClaim := { program := "ytnfdcfagdidmhaa", sum := "69ef11da2bc316fe73db9baf283fab23dfa4be2694afa806bbff61063bc04ece", func := "thicket/thicketlaw04.ArenaSame", spec := "arenaSame", inPlace := ["slices.overlaps[int]"], unfollowed := true, recurses := true, apart := false, narrowed := true }
def ArenaSameUptoSaid : Prop := arenaSameUptoRow.holds Try.pinned (OpenSpec.upto arenaSameSpec)

/-- 'thicketlaw04.ArenaStays', WHERE WHAT IT READS IS OF BULK AT MOST 1048576: true; the input reads as it did. -/
def arenaStaysUptoRow : OpenClaim := { program := "ytnfdcfagdidmhaa", sum := "69ef11da2bc316fe73db9baf283fab23dfa4be2694afa806bbff61063bc04ece", func := "thicket/thicketlaw04.ArenaStays", spec := "arenaStays", inPlace := ["slices.overlaps[int]", "maps.clone"], unfollowed := true, recurses := true, apart := false, narrowed := true }
def ArenaStaysUptoSaid : Prop := arenaStaysUptoRow.holds Try.pinned (OpenSpec.upto arenaStaysSpec)

/-- 'thicketlaw04.ArenaApart', WHERE WHAT IT READS IS OF BULK AT MOST 1048576: true; the input reads as it did. -/
def arenaApartUptoRow : OpenClaim := { program := "ytnfdcfagdidmhaa", sum := "69ef11da2bc316fe73db9baf283fab23dfa4be2694afa806bbff61063bc04ece", func := "thicket/thicketlaw04.ArenaApart", spec := "arenaApart", inPlace := ["slices.overlaps[int]", "maps.clone"], unfollowed := true, recurses := true, apart := false, narrowed := true }
def ArenaApartUptoSaid : Prop := arenaApartUptoRow.holds Try.pinned (OpenSpec.upto arenaApartSpec)

/-- 'thicketlaw04.ArenaSound', WHERE WHAT IT READS IS OF BULK AT MOST 1048576: true; the input reads as it did. -/
def arenaSoundUptoRow : OpenClaim := { program := "ytnfdcfagdidmhaa", sum := "69ef11da2bc316fe73db9baf283fab23dfa4be2694afa806bbff61063bc04ece", func := "thicket/thicketlaw04.ArenaSound", spec := "arenaSound", inPlace := ["slices.overlaps[int]"], unfollowed := true, recurses := true, apart := false, narrowed := true }
def ArenaSoundUptoSaid : Prop := arenaSoundUptoRow.holds Try.pinned (OpenSpec.upto arenaSoundSpec)

end Rows
end Go.Proofs.Ytnfdcfagdidmhaa
