/-
  Arenas as plain data, and what the calls of the chapter do to them: no program here.
-/
import Derived.Test.YtnfdcfagdidmhaaMem
namespace Go.Proofs.Ytnfdcfagdidmhaa

/-- Nodes (the one of handle h has the index h - 1), and the inert document of each handle, or 0 (the one of handle h has the index h). -/
structure Ar where
  ns : List Nd
  inert : List Int

def Ar.n (A : Ar) : Int := (A.ns.length : Int)
def Ar.has (A : Ar) (h : Int) : Prop := 1 ≤ h ∧ h ≤ A.n
instance (A : Ar) (h : Int) : Decidable (A.has h) := inferInstanceAs (Decidable (_ ∧ _))
def Ar.get (A : Ar) (h : Int) : Nd := A.ns[(h.toNat - 1)]?.getD zeroNd
def Ar.mod (A : Ar) (h : Int) (f : Nd → Nd) : Ar := { A with ns := A.ns.modify (h.toNat - 1) f }
def Ar.add (A : Ar) (n : Nd) : Ar := { ns := A.ns ++ [n], inert := A.inert ++ [0] }
def Ar.new : Ar := { ns := [], inert := [0] }

def Ar.document (A : Ar) (q : Bool) : Ar := A.add { zeroNd with kind := 1, quirks := q, doc := A.n + 1 }
/-- The error of creating a node for d. -/
def Ar.ofDoc (A : Ar) (d : Int) : Int := if ¬ A.has d then 3 else if (A.get d).kind ≠ 1 then 9 else 0
def Ar.make (A : Ar) (d : Int) (n : Nd) : (Int × Int) × Ar := if A.ofDoc d ≠ 0 then ((0, A.ofDoc d), A) else ((A.n + 1, 0), A.add { n with doc := d })
def Ar.inertAt (A : Ar) (d : Int) : Int := A.inert[d.toNat]?.getD 0
def Ar.inertOf (A : Ar) (d : Int) : Int × Ar :=
  if A.inertAt d ≠ 0 then (A.inertAt d, A)
  else (A.n + 1, { A.document false with inert := ((A.document false).inert.set d.toNat (A.n + 1)).set (A.n + 1).toNat (A.n + 1) })
def Ar.inertCall (A : Ar) (d : Int) : (Int × Int) × Ar := if A.ofDoc d ≠ 0 then ((0, A.ofDoc d), A) else (((A.inertOf d).1, 0), (A.inertOf d).2)

def inSpaces (s : Int) : Prop := 0 ≤ s ∧ s ≤ 7
instance (s : Int) : Decidable (inSpaces s) := inferInstanceAs (Decidable (_ ∧ _))
def attrSpaces (l : List AttrD) : Prop := ∀ a ∈ l, inSpaces a.1
instance (l : List AttrD) : Decidable (attrSpaces l) := inferInstanceAs (Decidable (∀ a ∈ l, _))
def sameName (a b : AttrD) : Bool := decide (a.1 = b.1 ∧ a.2.1 = b.2.1)
def onceStep (out : List AttrD) (x : AttrD) : List AttrD := if out.any (fun y => sameName x y) then out else out ++ [x]
def onceL (l : List AttrD) : List AttrD := l.foldl onceStep []
def templateL : List UInt8 := [116, 101, 109, 112, 108, 97, 116, 101]
def isTemplate (n : Nd) : Prop := n.kind = 4 ∧ n.space = 1 ∧ n.name.toList = templateL
instance (n : Nd) : Decidable (isTemplate n) := inferInstanceAs (Decidable (_ ∧ _ ∧ _))

/-- A new element: the node alone; behind it, for a template, the inert document (if there is none) and the contents. -/
def Ar.element (A : Ar) (d s : Int) (name : ByteArray) (l : List AttrD) : (Int × Int) × Ar :=
  if A.ofDoc d ≠ 0 then ((0, A.ofDoc d), A)
  else if ¬ (inSpaces s ∧ attrSpaces l) then ((0, 2), A)
  else
    let nd : Nd := { zeroNd with kind := 4, doc := d, space := s, name := name, attrs := onceL l }
    let A1 := A.add nd
    if isTemplate nd then
      let A2 := (A1.inertOf d).2
      let A3 := A2.add { zeroNd with kind := 2, host := A.n + 1, doc := (A1.inertOf d).1 }
      ((A.n + 1, 0), A3.mod (A.n + 1) (fun x => { x with contents := A2.n + 1 }))
    else ((A.n + 1, 0), A1)

/-- The parent of a node, or its host, or 0. -/
def Ar.up (A : Ar) (h : Int) : Int := if (A.get h).parent ≠ 0 then (A.get h).parent else (A.get h).host
/-- l is the way up from h. -/
def Ar.Way (A : Ar) (up : Int → Int) : Int → List Int → Prop
  | h, [] => h = 0
  | h, x :: l => x = h ∧ A.has h ∧ A.Way up (up h) l

def without (l : List Int) (k : Int) : List Int := l.filter (fun x => x ≠ k)
/-- The list with a node before another one, or last. -/
def putIn (l : List Int) (node before : Int) : List Int :=
  (l.flatMap fun x => if x = before then [node, x] else [x]) ++ (if before = 0 then [node] else [])

def Ar.cut (A : Ar) (h : Int) : Ar :=
  if (A.get h).parent = 0 then A
  else (A.mod (A.get h).parent (fun x => { x with kids := without x.kids h })).mod h (fun x => { x with parent := 0 })
def Ar.cutCall (A : Ar) (h : Int) : Int × Ar := if A.has h then (0, A.cut h) else (3, A)

/-- The error of Put; c tells whether the node contains the parent. -/
def Ar.allowed (A : Ar) (parent node before : Int) (c : Bool) : Int :=
  if ¬ A.has parent ∨ ¬ A.has node ∨ (before ≠ 0 ∧ ¬ A.has before) then 3
  else if ¬ ((A.get parent).kind = 1 ∨ (A.get parent).kind = 2 ∨ (A.get parent).kind = 4) then 4
  else if (A.get node).kind = 1 ∨ (A.get node).kind = 2 ∨ c = true then 4
  else if before ≠ 0 ∧ (before = node ∨ (A.get before).parent ≠ parent) then 5
  else 0
def Ar.place (A : Ar) (parent node before : Int) : Ar :=
  ((A.cut node).mod parent (fun x => { x with kids := putIn x.kids node before })).mod node (fun x => { x with parent := parent })

def Ar.setData (A : Ar) (h : Int) (s : ByteArray) : Int × Ar :=
  if ¬ A.has h then (3, A) else if ¬ ((A.get h).kind = 5 ∨ (A.get h).kind = 6) then (9, A) else (0, A.mod h (fun x => { x with data := s }))
def Ar.setAttrs (A : Ar) (h : Int) (l : List AttrD) : Int × Ar :=
  if ¬ A.has h then (3, A) else if (A.get h).kind ≠ 4 then (9, A) else if ¬ attrSpaces l then (2, A) else (0, A.mod h (fun x => { x with attrs := onceL l }))
def Ar.setQuirks (A : Ar) (h : Int) (q : Bool) : Int × Ar :=
  if ¬ A.has h then (3, A) else if (A.get h).kind ≠ 1 then (9, A) else (0, A.mod h (fun x => { x with quirks := q }))
def Ar.setDoc (A : Ar) (h d : Int) : Int × Ar :=
  if ¬ A.has h ∨ ¬ A.has d then (3, A) else if (A.get h).kind = 1 ∨ (A.get d).kind ≠ 1 then (9, A) else (0, A.mod h (fun x => { x with doc := d }))

end Go.Proofs.Ytnfdcfagdidmhaa
