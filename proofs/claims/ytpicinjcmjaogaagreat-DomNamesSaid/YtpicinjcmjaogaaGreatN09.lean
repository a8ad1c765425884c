/-
  Parts: DD, TX, DE, DAA.
-/
import Derived.Lib.Bytealg
import Derived.Shelf.Abstract
import Derived.Test.YtpicinjcmjaogaaGreatN08

/- Layer 5 as plain data: names, attributes, copies, texts. No program here. -/
namespace Go.Proofs.YtpicinjcmjaogaaGreat
set_option linter.unusedVariables false

def isUpperB (c : UInt8) : Bool := decide (65 ≤ c.toNat) && decide (c.toNat ≤ 90)
def lowB (c : UInt8) : UInt8 := if isUpperB c then c + 32 else c
def lowerS (s : ByteArray) : ByteArray := ⟨(s.toList.map lowB).toArray⟩
def isSpaceB (c : UInt8) : Bool := c == 9 || c == 10 || c == 12 || c == 13 || c == 32
def isLetterB (c : UInt8) : Bool := isUpperB c || (decide (97 ≤ c.toNat) && decide (c.toNat ≤ 122))
def isDigitB (c : UInt8) : Bool := decide (48 ≤ c.toNat) && decide (c.toNat ≤ 57)
def isAlnumB (c : UInt8) : Bool := isLetterB c || isDigitB c
/-- No space, not 0, and none of some others. -/
def noneB (others : List UInt8) (c : UInt8) : Bool := !isSpaceB c && c != 0 && !others.contains c
def restB (c : UInt8) : Bool := isAlnumB c || c == 45 || c == 46 || c == 58 || c == 95 || decide (128 ≤ c.toNat)
def firstB (c : UInt8) : Bool := c == 58 || c == 95 || decide (128 ≤ c.toNat)
def validEl : List UInt8 → Bool
  | [] => false
  | c :: l => if isLetterB c then (c :: l).all (noneB [47, 62]) else firstB c && l.all restB
def validAt (l : List UInt8) : Bool := !l.isEmpty && l.all (noneB [47, 61, 62])

def Ar.createElement (A : Ar) (d : Int) (name : ByteArray) : (Int × Int) × Ar :=
  if A.ofDoc d ≠ 0 then ((0, A.ofDoc d), A) else if validEl name.toList = false then ((0, 8), A) else A.element d 1 (lowerS name) []

/-- The error of a call for an attribute. -/
def Ar.attrErr (A : Ar) (el s : Int) : Int := if ¬ A.has el then 3 else if (A.get el).kind ≠ 4 then 9 else if ¬ inSpaces s then 2 else 0
def Ar.attrName (A : Ar) (el s : Int) (name : ByteArray) : ByteArray := if (A.get el).space = 1 ∧ s = 0 then lowerS name else name
def attrIs (s : Int) (name : ByteArray) (x : AttrD) : Bool := decide (x.1 = s ∧ x.2.1 = name)
def Ar.attrAt (A : Ar) (el s : Int) (name : ByteArray) : Int := findI (attrIs s (A.attrName el s name)) (A.get el).attrs
def Ar.getAttr (A : Ar) (el s : Int) (name : ByteArray) : (ByteArray × Bool) × Int :=
  if A.attrErr el s ≠ 0 then ((ByteArray.empty, false), A.attrErr el s)
  else if A.attrAt el s name < 0 then ((ByteArray.empty, false), 0)
  else ((((A.get el).attrs[(A.attrAt el s name).toNat]?.getD (0, ByteArray.empty, ByteArray.empty)).2.2, true), 0)
def Ar.attrsWith (A : Ar) (el s : Int) (name val : ByteArray) : List AttrD :=
  if A.attrAt el s name < 0 then (A.get el).attrs ++ [(s, A.attrName el s name, val)]
  else (A.get el).attrs.modify (A.attrAt el s name).toNat (fun x => (x.1, x.2.1, val))
def Ar.setAttr (A : Ar) (el s : Int) (name val : ByteArray) : Int × Ar :=
  if A.attrErr el s ≠ 0 then (A.attrErr el s, A) else if validAt name.toList = false then (8, A) else A.setAttrs el (A.attrsWith el s name val)
def Ar.removeAttr (A : Ar) (el s : Int) (name : ByteArray) : (Bool × Int) × Ar :=
  if A.attrErr el s ≠ 0 then ((false, A.attrErr el s), A)
  else if A.attrAt el s name < 0 then ((false, 0), A)
  else ((true, (A.setAttrs el ((A.get el).attrs.eraseIdx (A.attrAt el s name).toNat)).1), (A.setAttrs el ((A.get el).attrs.eraseIdx (A.attrAt el s name).toNat)).2)

/-- A copy of one node, for a document. -/
def Ar.alone (A : Ar) (d : Int) (n : Nd) : Int × Ar :=
  if n.kind = 1 then (A.n + 1, A.document n.quirks)
  else if n.kind = 2 then ((A.make d fragNd).1.1, (A.make d fragNd).2)
  else if n.kind = 3 then ((A.make d (docTypeNd n.name n.pub n.sys)).1.1, (A.make d (docTypeNd n.name n.pub n.sys)).2)
  else if n.kind = 4 then ((A.element d n.space n.name n.attrs).1.1, (A.element d n.space n.name n.attrs).2)
  else if n.kind = 5 then ((A.make d (textNd n.data)).1.1, (A.make d (textNd n.data)).2)
  else if n.kind = 6 then ((A.make d (commentNd n.data)).1.1, (A.make d (commentNd n.data)).2)
  else (0, A)
/-- Copies of some nodes are put below a node. -/
def dupStep (rec : Ar → Int → Int × Ar) (c : Int) (B : Ar) (k : Int) : Ar := ((rec B k).2.put c (rec B k).1 0).2
/-- A copy of a node h of C, in A, for the document d, with fuel. -/
def dupF (C : Ar) (deep : Bool) : Nat → Ar → Int → Int → Int × Ar
  | 0, A, _, _ => (0, A)
  | m + 1, A, d, h =>
    let r := A.alone d (C.get h)
    let d' := if (C.get h).kind = 1 then r.1 else d
    let A2 := if (C.get h).kind = 4 ∧ deep = true ∧ (C.get h).contents ≠ 0 then
        (C.get (C.get h).contents).kids.foldl (dupStep (fun B k => dupF C true m B (r.2.inertCall d).1.1 k) (r.2.get r.1).contents) (r.2.inertCall d).2
      else r.2
    (r.1, if deep = true then (C.get h).kids.foldl (dupStep (fun B k => dupF C true m B d' k) r.1) A2 else A2)
def Ar.cloneCall (A : Ar) (h : Int) (deep : Bool) : (Int × Int) × Ar :=
  if A.has h then (((dupF A deep A.ns.length A (A.get h).doc h).1, 0), (dupF A deep A.ns.length A (A.get h).doc h).2) else ((0, 3), A)
def Ar.importCall (A C : Ar) (d h : Int) : (Int × Int) × Ar :=
  if A.has d ∧ C.has h then (if (A.get d).kind ≠ 1 ∨ (C.get h).kind = 1 then ((0, 9), A) else (((dupF C true C.ns.length A d h).1, 0), (dupF C true C.ns.length A d h).2)) else ((0, 3), A)

/-- The bytes of the texts of some nodes. -/
def Ar.textOf (A : Ar) (l : List Int) : List UInt8 := l.flatMap (fun x => if (A.get x).kind = 5 then (A.get x).data.toList else [])
def Ar.textContent (A : Ar) (h : Int) : ByteArray × Int :=
  if ¬ A.has h then (ByteArray.empty, 3)
  else if (A.get h).kind = 5 ∨ (A.get h).kind = 6 then ((A.get h).data, 0)
  else if (A.get h).kind = 1 ∨ (A.get h).kind = 3 then (ByteArray.empty, 0)
  else (⟨(A.textOf (A.below h)).toArray⟩, 0)
def Ar.setText (A : Ar) (h : Int) (s : ByteArray) : Int × Ar :=
  if ¬ A.has h then (3, A)
  else if (A.get h).kind = 5 ∨ (A.get h).kind = 6 then A.setData h s
  else if (A.get h).kind = 4 ∨ (A.get h).kind = 2 then
    if s = ByteArray.empty then (0, A.empty h)
    else ((((A.empty h).make ((A.empty h).get h).doc (textNd s)).2.put h ((A.empty h).make ((A.empty h).get h).doc (textNd s)).1.1 0).1,
      (((A.empty h).make ((A.empty h).get h).doc (textNd s)).2.put h ((A.empty h).make ((A.empty h).get h).doc (textNd s)).1.1 0).2)
  else (0, A)
/-- The texts that follow one another are joined: the arena, the first text (or 0), what it will say. -/
structure JoinS where
  ar : Ar
  first : Int
  data : ByteArray
def JoinS.flush (s : JoinS) : JoinS := ⟨if s.first ≠ 0 then (s.ar.setData s.first s.data).2 else s.ar, 0, ByteArray.empty⟩
def JoinS.step (s : JoinS) (k : Int) : JoinS :=
  if (s.ar.get k).kind ≠ 5 then s.flush
  else if s.first = 0 ∧ (s.ar.get k).data ≠ ByteArray.empty then ⟨s.ar, k, (s.ar.get k).data⟩
  else ⟨s.ar.cut k, s.first, s.data ++ (s.ar.get k).data⟩
def Ar.join (A : Ar) (h : Int) : Ar := ((A.get h).kids.foldl JoinS.step ⟨A, 0, ByteArray.empty⟩).flush.ar
def Ar.normalize (A : Ar) (h : Int) : Int × Ar := if A.has h then (0, ((A.join h).below h).foldl Ar.join (A.join h)) else (3, A)
def Ar.split (A : Ar) (h at' : Int) : (Int × Int) × Ar :=
  if ¬ A.has h then ((0, 3), A)
  else if (A.get h).kind ≠ 5 then ((0, 9), A)
  else if at' < 0 ∨ ((A.get h).data.size : Int) < at' then ((0, 2), A)
  else
    let r := A.make (A.get h).doc (textNd ⟨((A.get h).data.toList.drop at'.toNat).toArray⟩)
    let B := (r.2.setData h ⟨((A.get h).data.toList.take at'.toNat).toArray⟩).2
    ((r.1.1, 0), if (A.get h).parent ≠ 0 then (B.put (A.get h).parent r.1.1 (B.next h)).2 else B)

end Go.Proofs.YtpicinjcmjaogaaGreat

/- Contracts of text: classes of bytes, Lower, ValidElement, ValidAttribute. -/
namespace Go.Proofs.YtpicinjcmjaogaaGreat
open Go.RowKit Go.Shelf
set_option linter.unusedVariables false

set_option maxRecDepth 100000 in
theorem IndexByteLite_any (s : ByteArray) (c : Int) (w : World) :
    Calls Tryz.prog 242 #[.string s, .int .u8 c] w fun e w' => e = .returned (.int .i64 (Lib.indexByte s.data.toList c.toNat.toUInt8)) ∧ w = w' := by
  go_enter Tryz.func242, Tryz.ntmps242
  go_wp2
  rw [run_callFunc_extern Tryz.func248 (by kernel_rfl) (by kernel_rfl) (by kernel_rfl) (e := Extern.BytealgIndexByte.indexByte) (by kernel_rfl), Lib.run_indexByteString]
  simp only [Result.andThen]
  rw [Oper.upon_value]
  go_wp2
  go_ret
  exact ⟨rfl, rfl⟩
theorem IndexByte_any (s : ByteArray) (c : Int) (w : World) :
    Calls Tryz.prog 212 #[.string s, .int .u8 c] w fun e w' => e = .returned (.int .i64 (Lib.indexByte s.data.toList c.toNat.toUInt8)) ∧ w = w' := by
  have HC := Lib.hid (IndexByteLite_any s c w)
  go_enter Tryz.func212, Tryz.ntmps212
  go_wp2_with fail
  refine HC.out.mono ?_
  rintro e w1 ⟨rfl, rfl⟩
  clear HC
  go_wp2
  go_ret
  exact ⟨rfl, rfl⟩

/-- A function value that tells a class of bytes, now and later. -/
def FnR (w : World) (v : Value) (p : UInt8 → Bool) : Prop :=
  ∃ n caps, v = .func (.func n) #[] caps ∧ Enters Tryz.prog n ∧ ∀ w', Below w.heap.size w w' → ∀ c : UInt8, Calls Tryz.prog n (#[.int .i32 (c.toNat : Int)] ++ caps) w' fun e w'' => e = .returned (.bool (p c)) ∧ Below w'.heap.size w' w''
theorem FnR.below {w w' : World} {v : Value} {p : UInt8 → Bool} (h : FnR w v p) (hb : Below w.heap.size w w') : FnR w' v p := by
  obtain ⟨n, caps, h1, h0, h2⟩ := h
  exact ⟨n, caps, h1, h0, fun w'' hw => h2 w'' (Below.from0 hb hw)⟩

theorem fromC_any (lo hi : Int) (c : UInt8) (a b : Nat) (w : World) (ha : w.cell? ⟨a, 0, none⟩ = some (.int .i32 lo)) (hb : w.cell? ⟨b, 0, none⟩ = some (.int .i32 hi)) :
    Calls Tryz.prog 213 #[.int .i32 (c.toNat : Int), .pointer (some ⟨a, 0, none⟩), .pointer (some ⟨b, 0, none⟩)] w fun e w' => e = .returned (.bool (decide (lo ≤ (c.toNat : Int)) && decide ((c.toNat : Int) ≤ hi))) ∧ w = w' := by
  by_cases h : lo ≤ (c.toNat : Int)
  · rw [decide_eq_true h]
    go_enter Tryz.func213, Tryz.ntmps213
    go_wp2
    go_ret
    exact ⟨by simp, rfl⟩
  · rw [decide_eq_false h]
    have h' : (c.toNat : Int) < lo := by omega
    go_enter Tryz.func213, Tryz.ntmps213
    go_wp2
    go_ret
    exact ⟨by simp, rfl⟩
theorem From_any (lo hi : Int) (w : World) :
    Calls Tryz.prog 163 #[.int .i32 lo, .int .i32 hi] w fun e w' => ∃ a b, e = .returned (.func (.func 213) #[] #[.pointer (some ⟨a, 0, none⟩), .pointer (some ⟨b, 0, none⟩)]) ∧ Below w.heap.size w w' ∧
      w'.cell? ⟨a, 0, none⟩ = some (.int .i32 lo) ∧ w'.cell? ⟨b, 0, none⟩ = some (.int .i32 hi) := by
  go_enter Tryz.func163, Tryz.ntmps163
  go_wp2
  go_ret
  refine ⟨_, _, rfl, Below.from0 (below_alloc _ _) (below_alloc _ _), cell_old' _ (cell_new' rfl rfl), cell_new' (by simp) rfl⟩
theorem fnR_from {lo hi : Int} {a b : Nat} {w : World} (ha : w.cell? ⟨a, 0, none⟩ = some (.int .i32 lo)) (hb : w.cell? ⟨b, 0, none⟩ = some (.int .i32 hi)) :
    FnR w (.func (.func 213) #[] #[.pointer (some ⟨a, 0, none⟩), .pointer (some ⟨b, 0, none⟩)]) (fun c => decide (lo ≤ (c.toNat : Int)) && decide ((c.toNat : Int) ≤ hi)) :=
  ⟨_, _, rfl, enters_of Tryz.func213 (by kernel_rfl) rfl, fun w' hw c => (fromC_any lo hi c a b w' (Below.old hw ha) (Below.old hw hb)).mono (fun e w'' ⟨h1, h2⟩ => ⟨h1, by subst h2; exact Below.refl _ _⟩)⟩

/-- A row of function values. -/
def FnsR (w : World) (v : Value) (ps : List (UInt8 → Bool)) : Prop :=
  ∃ a c, v = .slice a ps.length c ∧ ps.length ≤ 100 ∧ (0 < ps.length → ∃ b o, a = some ⟨b, o, none⟩ ∧ ∀ (i : Nat) p, ps[i]? = some p → ∃ f, w.cell? ⟨b, o + i, none⟩ = some f ∧ FnR w f p)
theorem FnsR.below {w w' : World} {v : Value} {ps : List (UInt8 → Bool)} (h : FnsR w v ps) (hb : Below w.heap.size w w') : FnsR w' v ps := by
  obtain ⟨a, c, h1, h2, h3⟩ := h
  refine ⟨a, c, h1, h2, fun h0 => ?_⟩
  obtain ⟨b, o, h4, h5⟩ := h3 h0
  refine ⟨b, o, h4, fun i p hp => ?_⟩
  obtain ⟨f, h6, h7⟩ := h5 i p hp
  exact ⟨f, Below.old hb h6, h7.below hb⟩

set_option maxRecDepth 100000 in
theorem eitherC_any (ps : List (UInt8 → Bool)) (v : Value) (c : UInt8) (g : Nat) (w : World) (hg : w.cell? ⟨g, 0, none⟩ = some v) (hv : FnsR w v ps) :
    Calls Tryz.prog 214 #[.int .i32 (c.toNat : Int), .pointer (some ⟨g, 0, none⟩)] w fun e w' => e = .returned (.bool (ps.any (fun p => p c))) ∧ Below w.heap.size w w' := by
  have HV := Lib.hid hv
  obtain ⟨a, cc, rfl, hl, -⟩ := hv
  go_enter Tryz.func214, Tryz.ntmps214
  go_wp2
  go_loopw [8] (fun i wr => ∃ k : Nat, k ≤ ps.length ∧ i = .int .i64 k ∧ Hid (Below w.heap.size w wr) ∧ Hid (∀ p ∈ ps.take k, p c = false)) (fun i _ => ps.length - (intOf i).toNat)
  case atStart => exact ⟨0, Nat.zero_le _, rfl, Lib.hid (Below.refl _ _), Lib.hid (by simp)⟩
  case round =>
    obtain ⟨k, hk, rfl, hB, hT⟩ := hrel
    clear hg
    by_cases hlt : k < ps.length
    · obtain ⟨p, hp⟩ : ∃ p, ps[k]? = some p := ⟨_, List.getElem?_eq_getElem hlt⟩
      obtain ⟨a', cc', he, -, h3⟩ := HV.out.below hB.out
      obtain ⟨b, o, rfl, h5⟩ := h3 (by omega)
      obtain ⟨f, h6, n, caps, rfl, hE, h7⟩ := h5 k p hp
      unfold Enters at hE
      have hea : a = some ⟨b, o, none⟩ := by injection he
      subst hea
      have HC := Lib.hid (h7 wr (Below.refl _ _) c)
      have HP := Lib.hid hp
      clear he h3 h5 h7 hp
      generalize hpc : p c = pc at *
      have HPC := Lib.hid hpc
      clear hpc
      cases pc with
      | true =>
        go_wp2_with fail
        refine HC.out.mono ?_
        rintro e w1 ⟨rfl, hB1⟩
        have HB := Lib.hid (Below.from0 hB.out hB1)
        clear HC hB1
        go_wp2
        go_ret
        exact ⟨by rw [List.any_eq_true.2 ⟨p, List.mem_of_getElem? HP.out, HPC.out⟩]; try rfl, HB.out⟩
      | false =>
        go_wp2_with fail
        refine HC.out.mono ?_
        rintro e w1 ⟨rfl, hB1⟩
        have HB := Lib.hid (Below.from0 hB.out hB1)
        have HT2 : Hid (∀ q ∈ ps.take (k + 1), q c = false) := Lib.hid (fun q hq => by
          rw [List.take_add_one, HP.out] at hq
          rcases List.mem_append.1 hq with hq | hq
          · exact hT.out q hq
          · simp at hq; subst hq; exact HPC.out)
        clear HC hB1
        go_wp2
        go_roundw
        case rel => exact ⟨k + 1, hlt, by go_num, HB, HT2⟩
        case measure => simp [intOf]; omega
    · have hkl : ps.take k = ps := List.take_of_length_le (by omega)
      rw [hkl] at hT
      have HF : Hid (ps.any (fun p => p c) = false) := Lib.hid (by
        rw [List.any_eq_false]; intro p hp; rw [hT.out p hp]; decide)
      clear hT hkl
      go_wp2
      go_ret
      exact ⟨by rw [HF.out]; try rfl, hB.out⟩
theorem Either_any (ps : List (UInt8 → Bool)) (v : Value) (w : World) (hv : FnsR w v ps) :
    Calls Tryz.prog 164 #[v] w fun e w' => ∃ g, e = .returned (.func (.func 214) #[] #[.pointer (some ⟨g, 0, none⟩)]) ∧ Below w.heap.size w w' ∧ w'.cell? ⟨g, 0, none⟩ = some v ∧ FnsR w' v ps := by
  have HV := Lib.hid (hv.below (below_alloc w (.cells #[v] 202)))
  obtain ⟨a, cc, rfl, hl, -⟩ := hv
  go_enter Tryz.func164, Tryz.ntmps164
  go_wp2
  go_ret
  exact ⟨_, rfl, below_alloc _ _, cell_new' rfl rfl, HV.out⟩
theorem fnR_either {ps : List (UInt8 → Bool)} {v : Value} {g : Nat} {w : World} (hg : w.cell? ⟨g, 0, none⟩ = some v) (hv : FnsR w v ps) :
    FnR w (.func (.func 214) #[] #[.pointer (some ⟨g, 0, none⟩)]) (fun c => ps.any (fun p => p c)) :=
  ⟨_, _, rfl, enters_of Tryz.func214 (by kernel_rfl) rfl, fun w' hw c => eitherC_any ps v c g w' (Below.old hw hg) (hv.below hw)⟩

end Go.Proofs.YtpicinjcmjaogaaGreat

/- Layer 5 as plain data: what an operation of the statements does, and what holds behind it. No program here. -/
namespace Go.Proofs.YtpicinjcmjaogaaGreat
set_option linter.unusedVariables false

def one1 (b : Bool) : Int := if b then 1 else 0
/-- What an operation of layer 5 does. -/
def Ar.step5 (A : Ar) (x : OpD) : (Int × Int) × Ar :=
  if x.kind = 21 then ((0, (A.insertCall x.a x.b x.c).1), (A.insertCall x.a x.b x.c).2)
  else if x.kind = 22 then ((0, (A.insertCall x.a x.b 0).1), (A.insertCall x.a x.b 0).2)
  else if x.kind = 23 then ((0, (A.replaceCall x.a x.b x.c).1), (A.replaceCall x.a x.b x.c).2)
  else if x.kind = 24 then ((0, (A.removeCall x.a x.b).1), (A.removeCall x.a x.b).2)
  else if x.kind = 25 then ((0, (A.cutCall x.a).1), (A.cutCall x.a).2)
  else if x.kind = 26 then ((0, (A.replaceAllCall x.a x.b).1), (A.replaceAllCall x.a x.b).2)
  else if x.kind = 27 then ((0, (A.adoptCall x.a x.b).1), (A.adoptCall x.a x.b).2)
  else if x.kind = 28 then A.createElement x.a x.name
  else if x.kind = 29 then ((0, (A.setAttr x.a x.space x.name x.s).1), (A.setAttr x.a x.space x.name x.s).2)
  else if x.kind = 30 then ((one1 (A.removeAttr x.a x.space x.name).1.1, (A.removeAttr x.a x.space x.name).1.2), (A.removeAttr x.a x.space x.name).2)
  else if x.kind = 31 then A.cloneCall x.a x.flag
  else if x.kind = 32 then A.importCall A x.a x.b
  else if x.kind = 33 then ((0, (A.setText x.a x.s).1), (A.setText x.a x.s).2)
  else if x.kind = 34 then ((0, (A.normalize x.a).1), (A.normalize x.a).2)
  else if x.kind = 35 then A.split x.a x.b
  else A.step x
theorem step5_rec {A : Ar} {x : OpD} {P : (Int × Int) × Ar → Prop}
    (h21 : x.kind = 21 → P ((0, (A.insertCall x.a x.b x.c).1), (A.insertCall x.a x.b x.c).2))
    (h22 : x.kind = 22 → P ((0, (A.insertCall x.a x.b 0).1), (A.insertCall x.a x.b 0).2))
    (h23 : x.kind = 23 → P ((0, (A.replaceCall x.a x.b x.c).1), (A.replaceCall x.a x.b x.c).2))
    (h24 : x.kind = 24 → P ((0, (A.removeCall x.a x.b).1), (A.removeCall x.a x.b).2))
    (h25 : x.kind = 25 → P ((0, (A.cutCall x.a).1), (A.cutCall x.a).2))
    (h26 : x.kind = 26 → P ((0, (A.replaceAllCall x.a x.b).1), (A.replaceAllCall x.a x.b).2))
    (h27 : x.kind = 27 → P ((0, (A.adoptCall x.a x.b).1), (A.adoptCall x.a x.b).2))
    (h28 : x.kind = 28 → P (A.createElement x.a x.name))
    (h29 : x.kind = 29 → P ((0, (A.setAttr x.a x.space x.name x.s).1), (A.setAttr x.a x.space x.name x.s).2))
    (h30 : x.kind = 30 → P ((one1 (A.removeAttr x.a x.space x.name).1.1, (A.removeAttr x.a x.space x.name).1.2), (A.removeAttr x.a x.space x.name).2))
    (h31 : x.kind = 31 → P (A.cloneCall x.a x.flag))
    (h32 : x.kind = 32 → P (A.importCall A x.a x.b))
    (h33 : x.kind = 33 → P ((0, (A.setText x.a x.s).1), (A.setText x.a x.s).2))
    (h34 : x.kind = 34 → P ((0, (A.normalize x.a).1), (A.normalize x.a).2))
    (h35 : x.kind = 35 → P (A.split x.a x.b))
    (h0 : x.kind < 21 ∨ 35 < x.kind → P (A.step x)) : P (A.step5 x) := by
  unfold Ar.step5
  by_cases e21 : x.kind = 21
  · rw [if_pos e21]; exact h21 e21
  rw [if_neg e21]
  by_cases e22 : x.kind = 22
  · rw [if_pos e22]; exact h22 e22
  rw [if_neg e22]
  by_cases e23 : x.kind = 23
  · rw [if_pos e23]; exact h23 e23
  rw [if_neg e23]
  by_cases e24 : x.kind = 24
  · rw [if_pos e24]; exact h24 e24
  rw [if_neg e24]
  by_cases e25 : x.kind = 25
  · rw [if_pos e25]; exact h25 e25
  rw [if_neg e25]
  by_cases e26 : x.kind = 26
  · rw [if_pos e26]; exact h26 e26
  rw [if_neg e26]
  by_cases e27 : x.kind = 27
  · rw [if_pos e27]; exact h27 e27
  rw [if_neg e27]
  by_cases e28 : x.kind = 28
  · rw [if_pos e28]; exact h28 e28
  rw [if_neg e28]
  by_cases e29 : x.kind = 29
  · rw [if_pos e29]; exact h29 e29
  rw [if_neg e29]
  by_cases e30 : x.kind = 30
  · rw [if_pos e30]; exact h30 e30
  rw [if_neg e30]
  by_cases e31 : x.kind = 31
  · rw [if_pos e31]; exact h31 e31
  rw [if_neg e31]
  by_cases e32 : x.kind = 32
  · rw [if_pos e32]; exact h32 e32
  rw [if_neg e32]
  by_cases e33 : x.kind = 33
  · rw [if_pos e33]; exact h33 e33
  rw [if_neg e33]
  by_cases e34 : x.kind = 34
  · rw [if_pos e34]; exact h34 e34
  rw [if_neg e34]
  by_cases e35 : x.kind = 35
  · rw [if_pos e35]; exact h35 e35
  rw [if_neg e35]
  exact h0 (by omega)
def runL5 (l : List OpD) : Ar := l.foldl (fun A x => (A.step5 x).2) Ar.new

end Go.Proofs.YtpicinjcmjaogaaGreat

/- Layer 5 as plain data: the attributes that a call sets are as they are stored. No program here. -/
namespace Go.Proofs.YtpicinjcmjaogaaGreat
set_option linter.unusedVariables false

theorem noTwice_of {A : Ar} (hI : A.Inv) {el : Int} (hh : A.has el) : NoTwice (A.get el).attrs := by
  have h := onceF_no (l := (A.get el).attrs) (acc := []) List.Pairwise.nil
  have e : (A.get el).attrs.foldl onceStep [] = (A.get el).attrs := (hI.loc el hh).at2
  rw [e] at h; exact h
theorem once_of_no {l : List AttrD} (h : NoTwice l) : onceL l = l := by
  have := onceF_id (acc := []) (l := l) (by simpa using h)
  simpa [onceL] using this
theorem attrErr_zero {A : Ar} {el s : Int} (h : A.attrErr el s = 0) : A.has el ∧ (A.get el).kind = 4 ∧ inSpaces s := by
  unfold Ar.attrErr at h
  by_cases h1 : A.has el
  · rw [if_neg (fun q => q h1)] at h
    by_cases h2 : (A.get el).kind = 4
    · rw [if_neg (fun q => q h2)] at h
      by_cases h3 : inSpaces s
      · exact ⟨h1, h2, h3⟩
      · rw [if_pos h3] at h; exact absurd h (by decide)
    · rw [if_pos h2] at h; exact absurd h (by decide)
  · rw [if_pos h1] at h; exact absurd h (by decide)
theorem findI_lt {α : Type} {p : α → Bool} {l : List α} (h : findI p l < 0) : ∀ x ∈ l, p x = false := by
  intro x hx
  have e := findI_any p l
  have : decide (0 ≤ findI p l) = false := decide_eq_false (by omega)
  rw [this] at e
  have := (List.any_eq_false.1 e.symm) x hx
  simpa using this
theorem noTwice_modify {l : List AttrD} (h : NoTwice l) (i : Nat) (v : ByteArray) : NoTwice (l.modify i (fun x => (x.1, x.2.1, v))) := by
  unfold NoTwice at *
  rw [List.pairwise_iff_getElem] at *
  intro a b ha hb hab
  have e : ∀ (j : Nat) (hj : j < (l.modify i (fun x => (x.1, x.2.1, v))).length), ∃ hj' : j < l.length, ((l.modify i (fun x => (x.1, x.2.1, v)))[j]).1 = l[j].1 ∧ ((l.modify i (fun x => (x.1, x.2.1, v)))[j]).2.1 = l[j].2.1 := fun j hj => by
    have hj' : j < l.length := by simpa using hj
    refine ⟨hj', ?_⟩
    rw [List.getElem_modify]
    split <;> exact ⟨rfl, rfl⟩
  obtain ⟨ha', a1, a2⟩ := e a ha
  obtain ⟨hb', b1, b2⟩ := e b hb
  have := h a b ha' hb' hab
  unfold sameName at this ⊢
  rw [a1, a2, b1, b2]; exact this
theorem attrsWith_ok {A : Ar} (hI : A.Inv) {el s : Int} {name val : ByteArray} (he : A.attrErr el s = 0) : attrSpaces (A.attrsWith el s name val) ∧ onceL (A.attrsWith el s name val) = A.attrsWith el s name val := by
  obtain ⟨h1, h2, h3⟩ := attrErr_zero he
  have hn := noTwice_of hI h1
  have hs := (hI.loc el h1).at1
  unfold Ar.attrsWith
  by_cases q : A.attrAt el s name < 0
  · rw [if_pos q]
    refine ⟨fun a ha => ?_, once_of_no ?_⟩
    · rcases List.mem_append.1 ha with ha | ha
      · exact hs a ha
      · simp at ha; rw [ha]; exact h3
    · unfold NoTwice
      rw [List.pairwise_append]
      refine ⟨hn, by simp, fun a ha b hb => ?_⟩
      simp at hb
      subst hb
      have := findI_lt q a ha
      unfold attrIs at this
      unfold sameName
      simp only [decide_eq_false_iff_not] at this ⊢
      exact fun z => this ⟨z.1.symm, z.2.symm⟩
  · rw [if_neg q]
    refine ⟨fun a ha => ?_, once_of_no (noTwice_modify hn _ _)⟩
    obtain ⟨j, hj, e⟩ := List.getElem_of_mem ha
    rw [List.getElem_modify] at e
    have hj' : j < (A.get el).attrs.length := by simpa using hj
    have hm := hs _ (List.getElem_mem hj')
    rw [← e]
    split
    · exact hm
    · exact hm
theorem setAttr_eq {A : Ar} (hI : A.Inv) {el s : Int} {name val : ByteArray} (he : A.attrErr el s = 0) (hv : validAt name.toList = true) : A.setAttr el s name val = (0, A.mod el (fun n => { n with attrs := A.attrsWith el s name val })) := by
  obtain ⟨h1, h2, h3⟩ := attrErr_zero he
  obtain ⟨a1, a2⟩ := attrsWith_ok hI (name := name) (val := val) he
  unfold Ar.setAttr
  rw [if_neg (fun q => q he), if_neg (by rw [hv]; decide)]
  unfold Ar.setAttrs
  rw [if_neg (fun q => q h1), if_neg (fun q => q h2), if_neg (fun q => q a1), a2]
end Go.Proofs.YtpicinjcmjaogaaGreat
