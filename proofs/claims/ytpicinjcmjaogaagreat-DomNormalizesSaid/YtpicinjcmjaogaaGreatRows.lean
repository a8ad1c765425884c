/-
  No cell of these rows narrows 'for every input' (looked for: loops, veiled, ifaces, maps, wideKeys, modest, calm, conditions, laid).
  DERIVED. THE GIVEN ROWS OF THIS SEAT. 16 by the template 'for every input the law returns true; each argument reads behind the call as it read before'; 0 by the template 'total and deterministic' (their statements: YtpicinjcmjaogaaGreatTotals.lean).
  GIVEN WITH THE SEED: the statements are not yours to turn. If you find one false, say at which input.
  Laid BY PROGRAM, IN A SANDBOX (cutbox-rows.mjs): the forced cells as the released guide's own fill.sh prints them over the translation 3d9448ed4ab35526… (all of the seat's roots in one cut). By AI agents, Wed Nov 11 2026. No macro, syntax, notation, axiom, sorry.
-/
import Derived.Test.YtpicinjcmjaogaaGreatChecked
import GoSem.Claim
import GoSem.ClaimJoined
import GoSem.ClaimMapViews
import Derived.JoinedTies
import Derived.KernelRfl
namespace Go.Proofs.YtpicinjcmjaogaaGreat
/- THE CELL 'sum', in the pinned program and in every row, IS THE sha256 OF THE DUMP (.gsa) THAT YtpicinjcmjaogaaGreatProg.lean LOADS. Nothing in Lean hashes anything: it is a label: what it is worth is what the hold of that sum in a sandbox is worth. -/
noncomputable def Tryz.pinned : Pinned := { name := "ytpicinjcmjaogaagreat", sum := "3d9448ed4ab35526ed94c4c50130911a4d2f7e23058400e5ebc004e34c9d9ae1", checked := Tryz.checked }
namespace Rows
def none {H : Type} : Left H := { results := [], args := [] }

/-- 'thicketlaw05.DomNames': WHATEVER THE INPUT: true; the input reads as it did. -/
def domNamesSpec : ChangeSpec := { name := "domNames", fn := fun _ => fun
  | [d] => { results := [.lit (.bool true)], args := [d] }
  | _ => none }
def domNamesRow : OpenClaim := { program := "ytpicinjcmjaogaagreat", sum := "3d9448ed4ab35526ed94c4c50130911a4d2f7e23058400e5ebc004e34c9d9ae1", func := "thicket/thicketlaw05.DomNames", spec := "domNames", inPlace := ["slices.overlaps[int]", "internal/bytealg.IndexByteString"], unfollowed := true, recurses := true, apart := false }
def DomNamesSaid : Prop := domNamesRow.holds Tryz.pinned (OpenSpec.ofChange domNamesSpec)

/-- ITS FALSE NEIGHBOUR: 'it returns false'. Refute it at one input. -/
def domNamesWrong : ChangeSpec := { name := "domNames", fn := fun _ => fun
  | [d] => { results := [.lit (.bool false)], args := [d] }
  | _ => none }
def DomNamesWrongFalsely : Prop := domNamesRow.holds Tryz.pinned (OpenSpec.ofChange domNamesWrong)

/-- 'thicketlaw05.DomReplaces': WHATEVER THE INPUT: true; the input reads as it did. -/
def domReplacesSpec : ChangeSpec := { name := "domReplaces", fn := fun _ => fun
  | [d1, d2, d3, d4] => { results := [.lit (.bool true)], args := [d1, d2, d3, d4] }
  | _ => none }
def domReplacesRow : OpenClaim := { program := "ytpicinjcmjaogaagreat", sum := "3d9448ed4ab35526ed94c4c50130911a4d2f7e23058400e5ebc004e34c9d9ae1", func := "thicket/thicketlaw05.DomReplaces", spec := "domReplaces", inPlace := ["slices.overlaps[int]", "internal/bytealg.IndexByteString"], unfollowed := true, recurses := true, apart := false }
def DomReplacesSaid : Prop := domReplacesRow.holds Tryz.pinned (OpenSpec.ofChange domReplacesSpec)

/-- ITS FALSE NEIGHBOUR: 'it returns false'. Refute it at one input. -/
def domReplacesWrong : ChangeSpec := { name := "domReplaces", fn := fun _ => fun
  | [d1, d2, d3, d4] => { results := [.lit (.bool false)], args := [d1, d2, d3, d4] }
  | _ => none }
def DomReplacesWrongFalsely : Prop := domReplacesRow.holds Tryz.pinned (OpenSpec.ofChange domReplacesWrong)

/-- 'thicketlaw05.DomSplits': WHATEVER THE INPUT: true; the input reads as it did. -/
def domSplitsSpec : ChangeSpec := { name := "domSplits", fn := fun _ => fun
  | [d1, d2, d3] => { results := [.lit (.bool true)], args := [d1, d2, d3] }
  | _ => none }
def domSplitsRow : OpenClaim := { program := "ytpicinjcmjaogaagreat", sum := "3d9448ed4ab35526ed94c4c50130911a4d2f7e23058400e5ebc004e34c9d9ae1", func := "thicket/thicketlaw05.DomSplits", spec := "domSplits", inPlace := ["slices.overlaps[int]", "internal/bytealg.IndexByteString"], unfollowed := true, recurses := true, apart := false }
def DomSplitsSaid : Prop := domSplitsRow.holds Tryz.pinned (OpenSpec.ofChange domSplitsSpec)

/-- ITS FALSE NEIGHBOUR: 'it returns false'. Refute it at one input. -/
def domSplitsWrong : ChangeSpec := { name := "domSplits", fn := fun _ => fun
  | [d1, d2, d3] => { results := [.lit (.bool false)], args := [d1, d2, d3] }
  | _ => none }
def DomSplitsWrongFalsely : Prop := domSplitsRow.holds Tryz.pinned (OpenSpec.ofChange domSplitsWrong)

/-- 'thicketlaw05.DomValidates': WHATEVER THE INPUT: true; the input reads as it did. -/
def domValidatesSpec : ChangeSpec := { name := "domValidates", fn := fun _ => fun
  | [d1, d2, d3, d4] => { results := [.lit (.bool true)], args := [d1, d2, d3, d4] }
  | _ => none }
def domValidatesRow : OpenClaim := { program := "ytpicinjcmjaogaagreat", sum := "3d9448ed4ab35526ed94c4c50130911a4d2f7e23058400e5ebc004e34c9d9ae1", func := "thicket/thicketlaw05.DomValidates", spec := "domValidates", inPlace := ["slices.overlaps[int]", "internal/bytealg.IndexByteString"], unfollowed := true, recurses := true, apart := false }
def DomValidatesSaid : Prop := domValidatesRow.holds Tryz.pinned (OpenSpec.ofChange domValidatesSpec)

/-- ITS FALSE NEIGHBOUR: 'it returns false'. Refute it at one input. -/
def domValidatesWrong : ChangeSpec := { name := "domValidates", fn := fun _ => fun
  | [d1, d2, d3, d4] => { results := [.lit (.bool false)], args := [d1, d2, d3, d4] }
  | _ => none }
def DomValidatesWrongFalsely : Prop := domValidatesRow.holds Tryz.pinned (OpenSpec.ofChange domValidatesWrong)

/-- 'thicketlaw05.DomProper': WHATEVER THE INPUT: true; the input reads as it did. -/
def domProperSpec : ChangeSpec := { name := "domProper", fn := fun _ => fun
  | [d] => { results := [.lit (.bool true)], args := [d] }
  | _ => none }
def domProperRow : OpenClaim := { program := "ytpicinjcmjaogaagreat", sum := "3d9448ed4ab35526ed94c4c50130911a4d2f7e23058400e5ebc004e34c9d9ae1", func := "thicket/thicketlaw05.DomProper", spec := "domProper", inPlace := ["slices.overlaps[int]", "internal/bytealg.IndexByteString"], unfollowed := true, recurses := true, apart := false }
def DomProperSaid : Prop := domProperRow.holds Tryz.pinned (OpenSpec.ofChange domProperSpec)

/-- ITS FALSE NEIGHBOUR: 'it returns false'. Refute it at one input. -/
def domProperWrong : ChangeSpec := { name := "domProper", fn := fun _ => fun
  | [d] => { results := [.lit (.bool false)], args := [d] }
  | _ => none }
def DomProperWrongFalsely : Prop := domProperRow.holds Tryz.pinned (OpenSpec.ofChange domProperWrong)

/-- 'thicketlaw05.DomOutside': WHATEVER THE INPUT: true; the input reads as it did. -/
def domOutsideSpec : ChangeSpec := { name := "domOutside", fn := fun _ => fun
  | [d1, d2, d3, d4] => { results := [.lit (.bool true)], args := [d1, d2, d3, d4] }
  | _ => none }
def domOutsideRow : OpenClaim := { program := "ytpicinjcmjaogaagreat", sum := "3d9448ed4ab35526ed94c4c50130911a4d2f7e23058400e5ebc004e34c9d9ae1", func := "thicket/thicketlaw05.DomOutside", spec := "domOutside", inPlace := ["slices.overlaps[int]", "internal/bytealg.IndexByteString"], unfollowed := true, recurses := true, apart := false }
def DomOutsideSaid : Prop := domOutsideRow.holds Tryz.pinned (OpenSpec.ofChange domOutsideSpec)

/-- ITS FALSE NEIGHBOUR: 'it returns false'. Refute it at one input. -/
def domOutsideWrong : ChangeSpec := { name := "domOutside", fn := fun _ => fun
  | [d1, d2, d3, d4] => { results := [.lit (.bool false)], args := [d1, d2, d3, d4] }
  | _ => none }
def DomOutsideWrongFalsely : Prop := domOutsideRow.holds Tryz.pinned (OpenSpec.ofChange domOutsideWrong)

/-- 'thicketlaw05.DomPlays': WHATEVER THE INPUT: true; the input reads as it did. -/
def domPlaysSpec : ChangeSpec := { name := "domPlays", fn := fun _ => fun
  | [d] => { results := [.lit (.bool true)], args := [d] }
  | _ => none }
def domPlaysRow : OpenClaim := { program := "ytpicinjcmjaogaagreat", sum := "3d9448ed4ab35526ed94c4c50130911a4d2f7e23058400e5ebc004e34c9d9ae1", func := "thicket/thicketlaw05.DomPlays", spec := "domPlays", inPlace := ["slices.overlaps[int]", "internal/bytealg.IndexByteString"], unfollowed := true, recurses := true, apart := false }
def DomPlaysSaid : Prop := domPlaysRow.holds Tryz.pinned (OpenSpec.ofChange domPlaysSpec)

/-- ITS FALSE NEIGHBOUR: 'it returns false'. Refute it at one input. -/
def domPlaysWrong : ChangeSpec := { name := "domPlays", fn := fun _ => fun
  | [d] => { results := [.lit (.bool false)], args := [d] }
  | _ => none }
def DomPlaysWrongFalsely : Prop := domPlaysRow.holds Tryz.pinned (OpenSpec.ofChange domPlaysWrong)

/-- 'thicketlaw05.DomTexts': WHATEVER THE INPUT: true; the input reads as it did. -/
def domTextsSpec : ChangeSpec := { name := "domTexts", fn := fun _ => fun
  | [d1, d2, d3] => { results := [.lit (.bool true)], args := [d1, d2, d3] }
  | _ => none }
def domTextsRow : OpenClaim := { program := "ytpicinjcmjaogaagreat", sum := "3d9448ed4ab35526ed94c4c50130911a4d2f7e23058400e5ebc004e34c9d9ae1", func := "thicket/thicketlaw05.DomTexts", spec := "domTexts", inPlace := ["slices.overlaps[int]", "internal/bytealg.IndexByteString"], unfollowed := true, recurses := true, apart := false }
def DomTextsSaid : Prop := domTextsRow.holds Tryz.pinned (OpenSpec.ofChange domTextsSpec)

/-- ITS FALSE NEIGHBOUR: 'it returns false'. Refute it at one input. -/
def domTextsWrong : ChangeSpec := { name := "domTexts", fn := fun _ => fun
  | [d1, d2, d3] => { results := [.lit (.bool false)], args := [d1, d2, d3] }
  | _ => none }
def DomTextsWrongFalsely : Prop := domTextsRow.holds Tryz.pinned (OpenSpec.ofChange domTextsWrong)

/-- 'thicketlaw05.DomAttributes': WHATEVER THE INPUT: true; the input reads as it did. -/
def domAttributesSpec : ChangeSpec := { name := "domAttributes", fn := fun _ => fun
  | [d1, d2, d3, d4, d5] => { results := [.lit (.bool true)], args := [d1, d2, d3, d4, d5] }
  | _ => none }
def domAttributesRow : OpenClaim := { program := "ytpicinjcmjaogaagreat", sum := "3d9448ed4ab35526ed94c4c50130911a4d2f7e23058400e5ebc004e34c9d9ae1", func := "thicket/thicketlaw05.DomAttributes", spec := "domAttributes", inPlace := ["slices.overlaps[int]", "internal/bytealg.IndexByteString"], unfollowed := true, recurses := true, apart := false }
def DomAttributesSaid : Prop := domAttributesRow.holds Tryz.pinned (OpenSpec.ofChange domAttributesSpec)

/-- ITS FALSE NEIGHBOUR: 'it returns false'. Refute it at one input. -/
def domAttributesWrong : ChangeSpec := { name := "domAttributes", fn := fun _ => fun
  | [d1, d2, d3, d4, d5] => { results := [.lit (.bool false)], args := [d1, d2, d3, d4, d5] }
  | _ => none }
def DomAttributesWrongFalsely : Prop := domAttributesRow.holds Tryz.pinned (OpenSpec.ofChange domAttributesWrong)

/-- 'thicketlaw05.DomOrders': WHATEVER THE INPUT: true; the input reads as it did. -/
def domOrdersSpec : ChangeSpec := { name := "domOrders", fn := fun _ => fun
  | [d1, d2, d3, d4] => { results := [.lit (.bool true)], args := [d1, d2, d3, d4] }
  | _ => none }
def domOrdersRow : OpenClaim := { program := "ytpicinjcmjaogaagreat", sum := "3d9448ed4ab35526ed94c4c50130911a4d2f7e23058400e5ebc004e34c9d9ae1", func := "thicket/thicketlaw05.DomOrders", spec := "domOrders", inPlace := ["slices.overlaps[int]", "internal/bytealg.IndexByteString"], unfollowed := true, recurses := true, apart := false }
def DomOrdersSaid : Prop := domOrdersRow.holds Tryz.pinned (OpenSpec.ofChange domOrdersSpec)

/-- ITS FALSE NEIGHBOUR: 'it returns false'. Refute it at one input. -/
def domOrdersWrong : ChangeSpec := { name := "domOrders", fn := fun _ => fun
  | [d1, d2, d3, d4] => { results := [.lit (.bool false)], args := [d1, d2, d3, d4] }
  | _ => none }
def DomOrdersWrongFalsely : Prop := domOrdersRow.holds Tryz.pinned (OpenSpec.ofChange domOrdersWrong)

/-- 'thicketlaw05.DomFinds': WHATEVER THE INPUT: true; the input reads as it did. -/
def domFindsSpec : ChangeSpec := { name := "domFinds", fn := fun _ => fun
  | [d1, d2, d3, d4] => { results := [.lit (.bool true)], args := [d1, d2, d3, d4] }
  | _ => none }
def domFindsRow : OpenClaim := { program := "ytpicinjcmjaogaagreat", sum := "3d9448ed4ab35526ed94c4c50130911a4d2f7e23058400e5ebc004e34c9d9ae1", func := "thicket/thicketlaw05.DomFinds", spec := "domFinds", inPlace := ["slices.overlaps[int]", "internal/bytealg.IndexByteString"], unfollowed := true, recurses := true, apart := false }
def DomFindsSaid : Prop := domFindsRow.holds Tryz.pinned (OpenSpec.ofChange domFindsSpec)

/-- ITS FALSE NEIGHBOUR: 'it returns false'. Refute it at one input. -/
def domFindsWrong : ChangeSpec := { name := "domFinds", fn := fun _ => fun
  | [d1, d2, d3, d4] => { results := [.lit (.bool false)], args := [d1, d2, d3, d4] }
  | _ => none }
def DomFindsWrongFalsely : Prop := domFindsRow.holds Tryz.pinned (OpenSpec.ofChange domFindsWrong)

/-- 'thicketlaw05.DomImports': WHATEVER THE INPUT: true; the input reads as it did. -/
def domImportsSpec : ChangeSpec := { name := "domImports", fn := fun _ => fun
  | [d1, d2, d3, d4] => { results := [.lit (.bool true)], args := [d1, d2, d3, d4] }
  | _ => none }
def domImportsRow : OpenClaim := { program := "ytpicinjcmjaogaagreat", sum := "3d9448ed4ab35526ed94c4c50130911a4d2f7e23058400e5ebc004e34c9d9ae1", func := "thicket/thicketlaw05.DomImports", spec := "domImports", inPlace := ["slices.overlaps[int]", "internal/bytealg.IndexByteString"], unfollowed := true, recurses := true, apart := false }
def DomImportsSaid : Prop := domImportsRow.holds Tryz.pinned (OpenSpec.ofChange domImportsSpec)

/-- ITS FALSE NEIGHBOUR: 'it returns false'. Refute it at one input. -/
def domImportsWrong : ChangeSpec := { name := "domImports", fn := fun _ => fun
  | [d1, d2, d3, d4] => { results := [.lit (.bool false)], args := [d1, d2, d3, d4] }
  | _ => none }
def DomImportsWrongFalsely : Prop := domImportsRow.holds Tryz.pinned (OpenSpec.ofChange domImportsWrong)

/-- 'thicketlaw05.DomNil': WHATEVER THE INPUT: true; the input reads as it did. -/
def domNilSpec : ChangeSpec := { name := "domNil", fn := fun _ => fun
  | [d1, d2] => { results := [.lit (.bool true)], args := [d1, d2] }
  | _ => none }
def domNilRow : OpenClaim := { program := "ytpicinjcmjaogaagreat", sum := "3d9448ed4ab35526ed94c4c50130911a4d2f7e23058400e5ebc004e34c9d9ae1", func := "thicket/thicketlaw05.DomNil", spec := "domNil", inPlace := ["slices.overlaps[int]", "internal/bytealg.IndexByteString"], unfollowed := true, recurses := true, apart := false }
def DomNilSaid : Prop := domNilRow.holds Tryz.pinned (OpenSpec.ofChange domNilSpec)

/-- ITS FALSE NEIGHBOUR: 'it returns false'. Refute it at one input. -/
def domNilWrong : ChangeSpec := { name := "domNil", fn := fun _ => fun
  | [d1, d2] => { results := [.lit (.bool false)], args := [d1, d2] }
  | _ => none }
def DomNilWrongFalsely : Prop := domNilRow.holds Tryz.pinned (OpenSpec.ofChange domNilWrong)

/-- 'thicketlaw05.DomClones': WHATEVER THE INPUT: true; the input reads as it did. -/
def domClonesSpec : ChangeSpec := { name := "domClones", fn := fun _ => fun
  | [d1, d2] => { results := [.lit (.bool true)], args := [d1, d2] }
  | _ => none }
def domClonesRow : OpenClaim := { program := "ytpicinjcmjaogaagreat", sum := "3d9448ed4ab35526ed94c4c50130911a4d2f7e23058400e5ebc004e34c9d9ae1", func := "thicket/thicketlaw05.DomClones", spec := "domClones", inPlace := ["slices.overlaps[int]", "internal/bytealg.IndexByteString"], unfollowed := true, recurses := true, apart := false }
def DomClonesSaid : Prop := domClonesRow.holds Tryz.pinned (OpenSpec.ofChange domClonesSpec)

/-- ITS FALSE NEIGHBOUR: 'it returns false'. Refute it at one input. -/
def domClonesWrong : ChangeSpec := { name := "domClones", fn := fun _ => fun
  | [d1, d2] => { results := [.lit (.bool false)], args := [d1, d2] }
  | _ => none }
def DomClonesWrongFalsely : Prop := domClonesRow.holds Tryz.pinned (OpenSpec.ofChange domClonesWrong)

/-- 'thicketlaw05.DomStays': WHATEVER THE INPUT: true; the input reads as it did. -/
def domStaysSpec : ChangeSpec := { name := "domStays", fn := fun _ => fun
  | [d1, d2] => { results := [.lit (.bool true)], args := [d1, d2] }
  | _ => none }
def domStaysRow : OpenClaim := { program := "ytpicinjcmjaogaagreat", sum := "3d9448ed4ab35526ed94c4c50130911a4d2f7e23058400e5ebc004e34c9d9ae1", func := "thicket/thicketlaw05.DomStays", spec := "domStays", inPlace := ["slices.overlaps[int]", "internal/bytealg.IndexByteString", "maps.clone"], unfollowed := true, recurses := true, apart := false }
def DomStaysSaid : Prop := domStaysRow.holds Tryz.pinned (OpenSpec.ofChange domStaysSpec)

/-- ITS FALSE NEIGHBOUR: 'it returns false'. Refute it at one input. -/
def domStaysWrong : ChangeSpec := { name := "domStays", fn := fun _ => fun
  | [d1, d2] => { results := [.lit (.bool false)], args := [d1, d2] }
  | _ => none }
def DomStaysWrongFalsely : Prop := domStaysRow.holds Tryz.pinned (OpenSpec.ofChange domStaysWrong)

/-- 'thicketlaw05.DomNormalizes': WHATEVER THE INPUT: true; the input reads as it did. -/
def domNormalizesSpec : ChangeSpec := { name := "domNormalizes", fn := fun _ => fun
  | [d1, d2] => { results := [.lit (.bool true)], args := [d1, d2] }
  | _ => none }
def domNormalizesRow : OpenClaim := { program := "ytpicinjcmjaogaagreat", sum := "3d9448ed4ab35526ed94c4c50130911a4d2f7e23058400e5ebc004e34c9d9ae1", func := "thicket/thicketlaw05.DomNormalizes", spec := "domNormalizes", inPlace := ["slices.overlaps[int]", "internal/bytealg.IndexByteString", "maps.clone"], unfollowed := true, recurses := true, apart := false }
def DomNormalizesSaid : Prop := domNormalizesRow.holds Tryz.pinned (OpenSpec.ofChange domNormalizesSpec)

/-- ITS FALSE NEIGHBOUR: 'it returns false'. Refute it at one input. -/
def domNormalizesWrong : ChangeSpec := { name := "domNormalizes", fn := fun _ => fun
  | [d1, d2] => { results := [.lit (.bool false)], args := [d1, d2] }
  | _ => none }
def DomNormalizesWrongFalsely : Prop := domNormalizesRow.holds Tryz.pinned (OpenSpec.ofChange domNormalizesWrong)

/- THE SECOND FORM. 'bulk': how many values and letters a reading holds, each counted each time it is reached (what is shared counts as often as it is met; a slice's spare places count too). A statement '..UptoSaid' is the law's where the arguments, and the package variables that the reading takes, are together of bulk at most 1048576: NARROWER than '..Said'. Prove '..Said' where nothing that the law and all that it calls make is longer than what came in: it says more and counts as full. Else prove '..UptoSaid'. A law counts once. -/
mutual
def uptoBulk {H : Type} : DataW H → Nat
  | .lit (.string bytes) => bytes.length + 1
  | .lit _ => 1
  | .nil => 1
  | .ptr d => uptoBulk d + 1
  | .slice elems spare => uptoBulkAll elems + uptoBulkAll spare + 1
  | .agg parts => uptoBulkAll parts + 1
  | .iface _ d => uptoBulk d + 1
  | .map entries => uptoBulkEntries entries + 1
  | .held _ => 1
def uptoBulkAll {H : Type} : List (DataW H) → Nat
  | [] => 0
  | d :: r => uptoBulk d + uptoBulkAll r
def uptoBulkEntries {H : Type} : List (Lit × DataW H) → Nat
  | [] => 0
  | x :: r => uptoBulkEntry x + uptoBulkEntries r
def uptoBulkEntry {H : Type} : Lit × DataW H → Nat
  | (.string bytes, d) => bytes.length + uptoBulk d + 1
  | (_, d) => uptoBulk d + 1
 end
def uptoSmall : (H : Type) → List (DataW H) → Bool := fun _ ds => decide (uptoBulkAll ds ≤ 1048576)
def OpenSpec.upto (s : _root_.Go.ChangeSpec) : _root_.Go.OpenSpec := { _root_.Go.OpenSpec.ofChange s with cond := some uptoSmall }

/-- 'thicketlaw05.DomNames', WHERE WHAT IT READS IS OF BULK AT MOST 1048576: true; the input reads as it did. -/
def domNamesUptoRow : OpenClaim := { program := "ytpicinjcmjaogaagreat", sum := "3d9448ed4ab35526ed94c4c50130911a4d2f7e23058400e5ebc004e34c9d9ae1", func := "thicket/thicketlaw05.DomNames", spec := "domNames", inPlace := ["slices.overlaps[int]", "internal/bytealg.IndexByteString"], unfollowed := true, recurses := true, apart := false, narrowed := true }
def DomNamesUptoSaid : Prop := domNamesUptoRow.holds Tryz.pinned (OpenSpec.upto domNamesSpec)

/-- 'thicketlaw05.DomReplaces', WHERE WHAT IT READS IS OF BULK AT MOST 1048576: true; the input reads as it did. -/
def domReplacesUptoRow : OpenClaim := { program := "ytpicinjcmjaogaagreat", sum := "3d9448ed4ab35526ed94c4c50130911a4d2f7e23058400e5ebc004e34c9d9ae1", func := "thicket/thicketlaw05.DomReplaces", spec := "domReplaces", inPlace := ["slices.overlaps[int]", "internal/bytealg.IndexByteString"], unfollowed := true, recurses := true, apart := false, narrowed := true }
def DomReplacesUptoSaid : Prop := domReplacesUptoRow.holds Tryz.pinned (OpenSpec.upto domReplacesSpec)

/-- 'thicketlaw05.DomSplits', WHERE WHAT IT READS IS OF BULK AT MOST 1048576: true; the input reads as it did. -/
def domSplitsUptoRow : OpenClaim := { program := "ytpicinjcmjaogaagreat", sum := "3d9448ed4ab35526ed94c4c50130911a4d2f7e23058400e5ebc004e34c9d9ae1", func := "thicket/thicketlaw05.DomSplits", spec := "domSplits", inPlace := ["slices.overlaps[int]", "internal/bytealg.IndexByteString"], unfollowed := true, recurses := true, apart := false, narrowed := true }
def DomSplitsUptoSaid : Prop := domSplitsUptoRow.holds Tryz.pinned (OpenSpec.upto domSplitsSpec)

/-- 'thicketlaw05.DomValidates', WHERE WHAT IT READS IS OF BULK AT MOST 1048576: true; the input reads as it did. -/
def domValidatesUptoRow : OpenClaim := { program := "ytpicinjcmjaogaagreat", sum := "3d9448ed4ab35526ed94c4c50130911a4d2f7e23058400e5ebc004e34c9d9ae1", func := "thicket/thicketlaw05.DomValidates", spec := "domValidates", inPlace := ["slices.overlaps[int]", "internal/bytealg.IndexByteString"], unfollowed := true, recurses := true, apart := false, narrowed := true }
def DomValidatesUptoSaid : Prop := domValidatesUptoRow.holds Tryz.pinned (OpenSpec.upto domValidatesSpec)

/-- 'thicketlaw05.DomProper', WHERE WHAT IT READS IS OF BULK AT MOST 1048576: true; the input reads as it did. -/
def domProperUptoRow : OpenClaim := { program := "ytpicinjcmjaogaagreat", sum := "3d9448ed4ab35526ed94c4c50130911a4d2f7e23058400e5ebc004e34c9d9ae1", func := "thicket/thicketlaw05.DomProper", spec := "domProper", inPlace := ["slices.overlaps[int]", "internal/bytealg.IndexByteString"], unfollowed := true, recurses := true, apart := false, narrowed := true }
def DomProperUptoSaid : Prop := domProperUptoRow.holds Tryz.pinned (OpenSpec.upto domProperSpec)

/-- 'thicketlaw05.DomOutside', WHERE WHAT IT READS IS OF BULK AT MOST 1048576: true; the input reads as it did. -/
def domOutsideUptoRow : OpenClaim := { program := "ytpicinjcmjaogaagreat", sum := "3d9448ed4ab35526ed94c4c50130911a4d2f7e23058400e5ebc004e34c9d9ae1", func := "thicket/thicketlaw05.DomOutside", spec := "domOutside", inPlace := ["slices.overlaps[int]", "internal/bytealg.IndexByteString"], unfollowed := true, recurses := true, apart := false, narrowed := true }
def DomOutsideUptoSaid : Prop := domOutsideUptoRow.holds Tryz.pinned (OpenSpec.upto domOutsideSpec)

/-- 'thicketlaw05.DomPlays', WHERE WHAT IT READS IS OF BULK AT MOST 1048576: true; the input reads as it did. -/
def domPlaysUptoRow : OpenClaim := { program := "ytpicinjcmjaogaagreat", sum := "3d9448ed4ab35526ed94c4c50130911a4d2f7e23058400e5ebc004e34c9d9ae1", func := "thicket/thicketlaw05.DomPlays", spec := "domPlays", inPlace := ["slices.overlaps[int]", "internal/bytealg.IndexByteString"], unfollowed := true, recurses := true, apart := false, narrowed := true }
def DomPlaysUptoSaid : Prop := domPlaysUptoRow.holds Tryz.pinned (OpenSpec.upto domPlaysSpec)

/-- 'thicketlaw05.DomTexts', WHERE WHAT IT READS IS OF BULK AT MOST 1048576: true; the input reads as it did. -/
def domTextsUptoRow : OpenClaim := { program := "ytpicinjcmjaogaagreat", sum := "3d9448ed4ab35526ed94c4c50130911a4d2f7e23058400e5ebc004e34c9d9ae1", func := "thicket/thicketlaw05.DomTexts", spec := "domTexts", inPlace := ["slices.overlaps[int]", "internal/bytealg.IndexByteString"], unfollowed := true, recurses := true, apart := false, narrowed := true }
def DomTextsUptoSaid : Prop := domTextsUptoRow.holds Tryz.pinned (OpenSpec.upto domTextsSpec)

/-- 'thicketlaw05.DomAttributes', WHERE WHAT IT READS IS OF BULK AT MOST 1048576: true; the input reads as it did. -/
def domAttributesUptoRow : OpenClaim := { program := "ytpicinjcmjaogaagreat", sum := "3d9448ed4ab35526ed94c4c50130911a4d2f7e23058400e5ebc004e34c9d9ae1", func := "thicket/thicketlaw05.DomAttributes", spec := "domAttributes", inPlace := ["slices.overlaps[int]", "internal/bytealg.IndexByteString"], unfollowed := true, recurses := true, apart := false, narrowed := true }
def DomAttributesUptoSaid : Prop := domAttributesUptoRow.holds Tryz.pinned (OpenSpec.upto domAttributesSpec)

/-- 'thicketlaw05.DomOrders', WHERE WHAT IT READS IS OF BULK AT MOST 1048576: true; the input reads as it did. -/
def domOrdersUptoRow : OpenClaim := { program := "ytpicinjcmjaogaagreat", sum := "3d9448ed4ab35526ed94c4c50130911a4d2f7e23058400e5ebc004e34c9d9ae1", func := "thicket/thicketlaw05.DomOrders", spec := "domOrders", inPlace := ["slices.overlaps[int]", "internal/bytealg.IndexByteString"], unfollowed := true, recurses := true, apart := false, narrowed := true }
def DomOrdersUptoSaid : Prop := domOrdersUptoRow.holds Tryz.pinned (OpenSpec.upto domOrdersSpec)

/-- 'thicketlaw05.DomFinds', WHERE WHAT IT READS IS OF BULK AT MOST 1048576: true; the input reads as it did. -/
def domFindsUptoRow : OpenClaim := { program := "ytpicinjcmjaogaagreat", sum := "3d9448ed4ab35526ed94c4c50130911a4d2f7e23058400e5ebc004e34c9d9ae1", func := "thicket/thicketlaw05.DomFinds", spec := "domFinds", inPlace := ["slices.overlaps[int]", "internal/bytealg.IndexByteString"], unfollowed := true, recurses := true, apart := false, narrowed := true }
def DomFindsUptoSaid : Prop := domFindsUptoRow.holds Tryz.pinned (OpenSpec.upto domFindsSpec)

/-- 'thicketlaw05.DomImports', WHERE WHAT IT READS IS OF BULK AT MOST 1048576: true; the input reads as it did. -/
def domImportsUptoRow : OpenClaim := { program := "ytpicinjcmjaogaagreat", sum := "3d9448ed4ab35526ed94c4c50130911a4d2f7e23058400e5ebc004e34c9d9ae1", func := "thicket/thicketlaw05.DomImports", spec := "domImports", inPlace := ["slices.overlaps[int]", "internal/bytealg.IndexByteString"], unfollowed := true, recurses := true, apart := false, narrowed := true }
def DomImportsUptoSaid : Prop := domImportsUptoRow.holds Tryz.pinned (OpenSpec.upto domImportsSpec)

/-- 'thicketlaw05.DomNil', WHERE WHAT IT READS IS OF BULK AT MOST 1048576: true; the input reads as it did. -/
def domNilUptoRow : OpenClaim := { program := "ytpicinjcmjaogaagreat", sum := "3d9448ed4ab35526ed94c4c50130911a4d2f7e23058400e5ebc004e34c9d9ae1", func := "thicket/thicketlaw05.DomNil", spec := "domNil", inPlace := ["slices.overlaps[int]", "internal/bytealg.IndexByteString"], unfollowed := true, recurses := true, apart := false, narrowed := true }
def DomNilUptoSaid : Prop := domNilUptoRow.holds Tryz.pinned (OpenSpec.upto domNilSpec)

/-- 'thicketlaw05.DomClones', WHERE WHAT IT READS IS OF BULK AT MOST 1048576: true; the input reads as it did. -/
def domClonesUptoRow : OpenClaim := { program := "ytpicinjcmjaogaagreat", sum := "3d9448ed4ab35526ed94c4c50130911a4d2f7e23058400e5ebc004e34c9d9ae1", func := "thicket/thicketlaw05.DomClones", spec := "domClones", inPlace := ["slices.overlaps[int]", "internal/bytealg.IndexByteString"], unfollowed := true, recurses := true, apart := false, narrowed := true }
def DomClonesUptoSaid : Prop := domClonesUptoRow.holds Tryz.pinned (OpenSpec.upto domClonesSpec)

/-- 'thicketlaw05.DomStays', WHERE WHAT IT READS IS OF BULK AT MOST 1048576: true; the input reads as it did. -/
def domStaysUptoRow : OpenClaim := { program := "ytpicinjcmjaogaagreat", sum := "3d9448ed4ab35526ed94c4c50130911a4d2f7e23058400e5ebc004e34c9d9ae1", func := "thicket/thicketlaw05.DomStays", spec := "domStays", inPlace := ["slices.overlaps[int]", "internal/bytealg.IndexByteString", "maps.clone"], unfollowed := true, recurses := true, apart := false, narrowed := true }
def DomStaysUptoSaid : Prop := domStaysUptoRow.holds Tryz.pinned (OpenSpec.upto domStaysSpec)

/-- 'thicketlaw05.DomNormalizes', WHERE WHAT IT READS IS OF BULK AT MOST 1048576: true; the input reads as it did. -/
def domNormalizesUptoRow : OpenClaim := { program := "ytpicinjcmjaogaagreat", sum := "3d9448ed4ab35526ed94c4c50130911a4d2f7e23058400e5ebc004e34c9d9ae1", func := "thicket/thicketlaw05.DomNormalizes", spec := "domNormalizes", inPlace := ["slices.overlaps[int]", "internal/bytealg.IndexByteString", "maps.clone"], unfollowed := true, recurses := true, apart := false, narrowed := true }
def DomNormalizesUptoSaid : Prop := domNormalizesUptoRow.holds Tryz.pinned (OpenSpec.upto domNormalizesSpec)

end Rows
end Go.Proofs.YtpicinjcmjaogaaGreat
