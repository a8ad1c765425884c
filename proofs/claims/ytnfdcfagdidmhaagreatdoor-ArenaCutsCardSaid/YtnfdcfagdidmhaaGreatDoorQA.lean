/-
  What Dump writes, as plain data: a quoted string, the line of a node. No program here.
-/
import Derived.Test.YtnfdcfagdidmhaaGreatDoorGA
import Derived.Lib.ItoaNum
namespace Go.Proofs.YtnfdcfagdidmhaaGreatDoor
set_option linter.unusedVariables false

/-- A byte of a quoted string. -/
def escB (c : UInt8) : List UInt8 := if c = 10 then [92, 110] else if c = 34 ∨ c = 92 then [92, c] else [c]
/-- A quoted string. -/
def quoteL (l : List UInt8) : List UInt8 := 34 :: (l.flatMap escB ++ [34])
def quoteS (s : ByteArray) : List UInt8 := quoteL s.toList
theorem escB_len (c : UInt8) : (escB c).length ≤ 2 := by
  unfold escB; split
  · simp
  · split <;> simp
theorem esc_len : ∀ l : List UInt8, (l.flatMap escB).length ≤ 2 * l.length
  | [] => by simp
  | c :: l => by
    have h1 := escB_len c
    have h2 := esc_len l
    simp only [List.flatMap_cons, List.length_append, List.length_cons]; omega
theorem quoteL_len (l : List UInt8) : (quoteL l).length ≤ 2 * l.length + 2 := by
  have := esc_len l
  unfold quoteL; simp only [List.length_cons, List.length_append, List.length_nil]; omega

/-- The line of an attribute. -/
def attrL (x : AttrD) : List UInt8 := [32] ++ (Lib.decDigits x.1.toNat ++ ([58] ++ (quoteS x.2.1 ++ ([61] ++ quoteS x.2.2))))
def attrsL (l : List AttrD) : List UInt8 := l.flatMap attrL
/-- The head of an element's line. -/
def elemL (n : Nd) : List UInt8 := [101, 108, 101, 109, 101, 110, 116, 32] ++ (Lib.decDigits n.space.toNat ++ ([32] ++ quoteS n.name))
/-- The text of one node. -/
def lineL (n : Nd) : List UInt8 :=
  if n.kind = 1 then (if n.quirks = true then [100, 111, 99, 117, 109, 101, 110, 116, 32, 113, 117, 105, 114, 107, 115] else [100, 111, 99, 117, 109, 101, 110, 116])
  else if n.kind = 2 then (if n.host ≠ 0 then [99, 111, 110, 116, 101, 110, 116, 115] else [102, 114, 97, 103, 109, 101, 110, 116])
  else if n.kind = 3 then [100, 111, 99, 116, 121, 112, 101, 32] ++ (quoteS n.name ++ ([32] ++ (quoteS n.pub ++ ([32] ++ quoteS n.sys))))
  else if n.kind = 5 then [116, 101, 120, 116, 32] ++ quoteS n.data
  else if n.kind = 6 then [99, 111, 109, 109, 101, 110, 116, 32] ++ quoteS n.data
  else elemL n ++ attrsL n.attrs
/-- The line of a node at a depth. -/
def lineD (n : Nd) (d : Nat) : List UInt8 := List.replicate (2 * d) 32 ++ (lineL n ++ [10])
end Go.Proofs.YtnfdcfagdidmhaaGreatDoor
