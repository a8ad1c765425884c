/-
  Parts: P23, O1, ArX, O2, Sp, R1, Kn0, Kn1.
-/
import Derived.Test.YtnfdcfagdidmhaaGreatDoorGD
import Derived.Deep.Slices
import Derived.Deep.Fields
import Derived.ChangeSame
import Derived.Test.YtnfdcfagdidmhaaGreatDoorGA

/- The law's Do: an operation as data, what it does, its contract. (Printed by gendo.py.) -/
namespace Go.Proofs.YtnfdcfagdidmhaaGreatDoor
open Go.RowKit
set_option linter.unusedVariables false

/-- An operation. -/
structure OpD where
  kind : Int
  a : Int
  b : Int
  c : Int
  flag : Bool
  space : Int
  name : ByteArray
  s : ByteArray
  t : ByteArray
  attrs : List AttrD

def OpD.cells (x : OpD) (av : Value) : List Value := [.int .i64 x.kind, .int .i64 x.a, .int .i64 x.b, .int .i64 x.c, .bool x.flag, .int .i64 x.space, .string x.name, .string x.s, .string x.t, av]

/-- What an operation does. -/
def Ar.step (A : Ar) (x : OpD) : (Int × Int) × Ar :=
  if x.kind = 1 then ((A.n + 1, 0), A.document x.flag)
  else if x.kind = 2 then A.make x.a (docTypeNd x.name x.s x.t)
  else if x.kind = 3 then A.element x.a x.space x.name x.attrs
  else if x.kind = 4 then A.make x.a (textNd x.s)
  else if x.kind = 5 then A.make x.a (commentNd x.s)
  else if x.kind = 6 then A.make x.a fragNd
  else if x.kind = 7 then A.inertCall x.a
  else if x.kind = 8 then ((0, (A.put x.a x.b x.c).1), (A.put x.a x.b x.c).2)
  else if x.kind = 9 then ((0, (A.cutCall x.a).1), (A.cutCall x.a).2)
  else if x.kind = 10 then ((0, (A.setData x.a x.s).1), (A.setData x.a x.s).2)
  else if x.kind = 11 then ((0, (A.setAttrs x.a x.attrs).1), (A.setAttrs x.a x.attrs).2)
  else if x.kind = 12 then ((0, (A.setQuirks x.a x.flag).1), (A.setQuirks x.a x.flag).2)
  else if x.kind = 13 then ((0, (A.setDoc x.a x.b).1), (A.setDoc x.a x.b).2)
  else ((0, 0), A)

set_option maxRecDepth 100000 in
set_option maxHeartbeats 1000000 in
theorem Do_1 (A : Ar) (ρ : Nat → Nat) (b : Nat) (a b2 c : Int) (flag : Bool) (space : Int) (name s t : ByteArray) (attrs : List AttrD) (av : Value) (w : World) (hA : AMem w ρ b A) (hW : A.WF) (hv : RAttrs w av attrs) (hsmall : A.ns.length + 3 ≤ 1000000) (hl : attrs.length ≤ 1000000) :
    Calls Tryz.prog 23 #[.pointer (some ⟨b, 0, none⟩), .agg (OpD.cells ⟨1, a, b2, c, flag, space, name, s, t, attrs⟩ av).toArray] w (AddR (A.step ⟨1, a, b2, c, flag, space, name, s, t, attrs⟩).2 ρ b w (pairV (A.step ⟨1, a, b2, c, flag, space, name, s, t, attrs⟩).1)) := by
  have hs1 : A.ns.length ≤ 1000000 := by omega
  obtain ⟨aa, ac, rfl, -⟩ := hv.form
  have hB := below_alloc w (.cells (OpD.cells ⟨1, a, b2, c, flag, space, name, s, t, attrs⟩ (.slice aa attrs.length ac)).toArray 46)
  have hA1 := hA.below hB
  have hv1 := hv.below hB
  unfold OpD.cells at *
  have HC := Lib.hid (Document_any A ρ b flag _ hA1 hs1)
  have HB := Lib.hid hB
  clear hB hA hA1 hv hv1 hW
  go_enter Tryz.func23, Tryz.ntmps23
  go_wp2_with fail
  refine HC.out.mono ?_
  rintro e w2 ⟨rfl, ρ', hA2, hT2⟩
  clear HC
  go_wp2
  go_ret2
  exact ⟨rfl, ρ', hA2, (Turn.below HB.out).trans hT2⟩

set_option maxRecDepth 100000 in
set_option maxHeartbeats 1000000 in
theorem Do_2 (A : Ar) (ρ : Nat → Nat) (b : Nat) (a b2 c : Int) (flag : Bool) (space : Int) (name s t : ByteArray) (attrs : List AttrD) (av : Value) (w : World) (hA : AMem w ρ b A) (hW : A.WF) (hv : RAttrs w av attrs) (hsmall : A.ns.length + 3 ≤ 1000000) (hl : attrs.length ≤ 1000000) :
    Calls Tryz.prog 23 #[.pointer (some ⟨b, 0, none⟩), .agg (OpD.cells ⟨2, a, b2, c, flag, space, name, s, t, attrs⟩ av).toArray] w (AddR (A.step ⟨2, a, b2, c, flag, space, name, s, t, attrs⟩).2 ρ b w (pairV (A.step ⟨2, a, b2, c, flag, space, name, s, t, attrs⟩).1)) := by
  have hs1 : A.ns.length ≤ 1000000 := by omega
  obtain ⟨aa, ac, rfl, -⟩ := hv.form
  have hB := below_alloc w (.cells (OpD.cells ⟨2, a, b2, c, flag, space, name, s, t, attrs⟩ (.slice aa attrs.length ac)).toArray 46)
  have hA1 := hA.below hB
  have hv1 := hv.below hB
  unfold OpD.cells at *
  have HC := Lib.hid (Doctype_any A ρ b a name s t _ hA1 hs1)
  have HB := Lib.hid hB
  clear hB hA hA1 hv hv1 hW
  go_enter Tryz.func23, Tryz.ntmps23
  go_wp2_with fail
  refine HC.out.mono ?_
  rintro e w2 ⟨rfl, ρ', hA2, hT2⟩
  clear HC
  unfold pairV
  go_wp2
  go_ret2
  exact ⟨rfl, ρ', hA2, (Turn.below HB.out).trans hT2⟩

set_option maxRecDepth 100000 in
set_option maxHeartbeats 1000000 in
theorem Do_3 (A : Ar) (ρ : Nat → Nat) (b : Nat) (a b2 c : Int) (flag : Bool) (space : Int) (name s t : ByteArray) (attrs : List AttrD) (av : Value) (w : World) (hA : AMem w ρ b A) (hW : A.WF) (hv : RAttrs w av attrs) (hsmall : A.ns.length + 3 ≤ 1000000) (hl : attrs.length ≤ 1000000) :
    Calls Tryz.prog 23 #[.pointer (some ⟨b, 0, none⟩), .agg (OpD.cells ⟨3, a, b2, c, flag, space, name, s, t, attrs⟩ av).toArray] w (AddR (A.step ⟨3, a, b2, c, flag, space, name, s, t, attrs⟩).2 ρ b w (pairV (A.step ⟨3, a, b2, c, flag, space, name, s, t, attrs⟩).1)) := by
  have hs1 : A.ns.length ≤ 1000000 := by omega
  obtain ⟨aa, ac, rfl, -⟩ := hv.form
  have hB := below_alloc w (.cells (OpD.cells ⟨3, a, b2, c, flag, space, name, s, t, attrs⟩ (.slice aa attrs.length ac)).toArray 46)
  have hA1 := hA.below hB
  have hv1 := hv.below hB
  unfold OpD.cells at *
  have HC := Lib.hid (Element_any A ρ b a space name _ attrs _ hA1 hv1 hsmall hl)
  have HB := Lib.hid hB
  clear hB hA hA1 hv hv1 hW
  go_enter Tryz.func23, Tryz.ntmps23
  go_wp2_with fail
  refine HC.out.mono ?_
  rintro e w2 ⟨rfl, ρ', hA2, hT2⟩
  clear HC
  unfold pairV
  go_wp2
  go_ret2
  exact ⟨rfl, ρ', hA2, (Turn.below HB.out).trans hT2⟩

set_option maxRecDepth 100000 in
set_option maxHeartbeats 1000000 in
theorem Do_4 (A : Ar) (ρ : Nat → Nat) (b : Nat) (a b2 c : Int) (flag : Bool) (space : Int) (name s t : ByteArray) (attrs : List AttrD) (av : Value) (w : World) (hA : AMem w ρ b A) (hW : A.WF) (hv : RAttrs w av attrs) (hsmall : A.ns.length + 3 ≤ 1000000) (hl : attrs.length ≤ 1000000) :
    Calls Tryz.prog 23 #[.pointer (some ⟨b, 0, none⟩), .agg (OpD.cells ⟨4, a, b2, c, flag, space, name, s, t, attrs⟩ av).toArray] w (AddR (A.step ⟨4, a, b2, c, flag, space, name, s, t, attrs⟩).2 ρ b w (pairV (A.step ⟨4, a, b2, c, flag, space, name, s, t, attrs⟩).1)) := by
  have hs1 : A.ns.length ≤ 1000000 := by omega
  obtain ⟨aa, ac, rfl, -⟩ := hv.form
  have hB := below_alloc w (.cells (OpD.cells ⟨4, a, b2, c, flag, space, name, s, t, attrs⟩ (.slice aa attrs.length ac)).toArray 46)
  have hA1 := hA.below hB
  have hv1 := hv.below hB
  unfold OpD.cells at *
  have HC := Lib.hid (Text_any A ρ b a s _ hA1 hs1)
  have HB := Lib.hid hB
  clear hB hA hA1 hv hv1 hW
  go_enter Tryz.func23, Tryz.ntmps23
  go_wp2_with fail
  refine HC.out.mono ?_
  rintro e w2 ⟨rfl, ρ', hA2, hT2⟩
  clear HC
  unfold pairV
  go_wp2
  go_ret2
  exact ⟨rfl, ρ', hA2, (Turn.below HB.out).trans hT2⟩

set_option maxRecDepth 100000 in
set_option maxHeartbeats 1000000 in
theorem Do_5 (A : Ar) (ρ : Nat → Nat) (b : Nat) (a b2 c : Int) (flag : Bool) (space : Int) (name s t : ByteArray) (attrs : List AttrD) (av : Value) (w : World) (hA : AMem w ρ b A) (hW : A.WF) (hv : RAttrs w av attrs) (hsmall : A.ns.length + 3 ≤ 1000000) (hl : attrs.length ≤ 1000000) :
    Calls Tryz.prog 23 #[.pointer (some ⟨b, 0, none⟩), .agg (OpD.cells ⟨5, a, b2, c, flag, space, name, s, t, attrs⟩ av).toArray] w (AddR (A.step ⟨5, a, b2, c, flag, space, name, s, t, attrs⟩).2 ρ b w (pairV (A.step ⟨5, a, b2, c, flag, space, name, s, t, attrs⟩).1)) := by
  have hs1 : A.ns.length ≤ 1000000 := by omega
  obtain ⟨aa, ac, rfl, -⟩ := hv.form
  have hB := below_alloc w (.cells (OpD.cells ⟨5, a, b2, c, flag, space, name, s, t, attrs⟩ (.slice aa attrs.length ac)).toArray 46)
  have hA1 := hA.below hB
  have hv1 := hv.below hB
  unfold OpD.cells at *
  have HC := Lib.hid (Comment_any A ρ b a s _ hA1 hs1)
  have HB := Lib.hid hB
  clear hB hA hA1 hv hv1 hW
  go_enter Tryz.func23, Tryz.ntmps23
  go_wp2_with fail
  refine HC.out.mono ?_
  rintro e w2 ⟨rfl, ρ', hA2, hT2⟩
  clear HC
  unfold pairV
  go_wp2
  go_ret2
  exact ⟨rfl, ρ', hA2, (Turn.below HB.out).trans hT2⟩

set_option maxRecDepth 100000 in
set_option maxHeartbeats 1000000 in
theorem Do_6 (A : Ar) (ρ : Nat → Nat) (b : Nat) (a b2 c : Int) (flag : Bool) (space : Int) (name s t : ByteArray) (attrs : List AttrD) (av : Value) (w : World) (hA : AMem w ρ b A) (hW : A.WF) (hv : RAttrs w av attrs) (hsmall : A.ns.length + 3 ≤ 1000000) (hl : attrs.length ≤ 1000000) :
    Calls Tryz.prog 23 #[.pointer (some ⟨b, 0, none⟩), .agg (OpD.cells ⟨6, a, b2, c, flag, space, name, s, t, attrs⟩ av).toArray] w (AddR (A.step ⟨6, a, b2, c, flag, space, name, s, t, attrs⟩).2 ρ b w (pairV (A.step ⟨6, a, b2, c, flag, space, name, s, t, attrs⟩).1)) := by
  have hs1 : A.ns.length ≤ 1000000 := by omega
  obtain ⟨aa, ac, rfl, -⟩ := hv.form
  have hB := below_alloc w (.cells (OpD.cells ⟨6, a, b2, c, flag, space, name, s, t, attrs⟩ (.slice aa attrs.length ac)).toArray 46)
  have hA1 := hA.below hB
  have hv1 := hv.below hB
  unfold OpD.cells at *
  have HC := Lib.hid (Fragment_any A ρ b a _ hA1 hs1)
  have HB := Lib.hid hB
  clear hB hA hA1 hv hv1 hW
  go_enter Tryz.func23, Tryz.ntmps23
  go_wp2_with fail
  refine HC.out.mono ?_
  rintro e w2 ⟨rfl, ρ', hA2, hT2⟩
  clear HC
  unfold pairV
  go_wp2
  go_ret2
  exact ⟨rfl, ρ', hA2, (Turn.below HB.out).trans hT2⟩

set_option maxRecDepth 100000 in
set_option maxHeartbeats 1000000 in
theorem Do_7 (A : Ar) (ρ : Nat → Nat) (b : Nat) (a b2 c : Int) (flag : Bool) (space : Int) (name s t : ByteArray) (attrs : List AttrD) (av : Value) (w : World) (hA : AMem w ρ b A) (hW : A.WF) (hv : RAttrs w av attrs) (hsmall : A.ns.length + 3 ≤ 1000000) (hl : attrs.length ≤ 1000000) :
    Calls Tryz.prog 23 #[.pointer (some ⟨b, 0, none⟩), .agg (OpD.cells ⟨7, a, b2, c, flag, space, name, s, t, attrs⟩ av).toArray] w (AddR (A.step ⟨7, a, b2, c, flag, space, name, s, t, attrs⟩).2 ρ b w (pairV (A.step ⟨7, a, b2, c, flag, space, name, s, t, attrs⟩).1)) := by
  have hs1 : A.ns.length ≤ 1000000 := by omega
  obtain ⟨aa, ac, rfl, -⟩ := hv.form
  have hB := below_alloc w (.cells (OpD.cells ⟨7, a, b2, c, flag, space, name, s, t, attrs⟩ (.slice aa attrs.length ac)).toArray 46)
  have hA1 := hA.below hB
  have hv1 := hv.below hB
  unfold OpD.cells at *
  have HC := Lib.hid (Inert_any A ρ b a _ hA1 hs1)
  have HB := Lib.hid hB
  clear hB hA hA1 hv hv1 hW
  go_enter Tryz.func23, Tryz.ntmps23
  go_wp2_with fail
  refine HC.out.mono ?_
  rintro e w2 ⟨rfl, ρ', hA2, hT2⟩
  clear HC
  unfold pairV
  go_wp2
  go_ret2
  exact ⟨rfl, ρ', hA2, (Turn.below HB.out).trans hT2⟩

set_option maxRecDepth 100000 in
set_option maxHeartbeats 1000000 in
theorem Do_8 (A : Ar) (ρ : Nat → Nat) (b : Nat) (a b2 c : Int) (flag : Bool) (space : Int) (name s t : ByteArray) (attrs : List AttrD) (av : Value) (w : World) (hA : AMem w ρ b A) (hW : A.WF) (hv : RAttrs w av attrs) (hsmall : A.ns.length + 3 ≤ 1000000) (hl : attrs.length ≤ 1000000) :
    Calls Tryz.prog 23 #[.pointer (some ⟨b, 0, none⟩), .agg (OpD.cells ⟨8, a, b2, c, flag, space, name, s, t, attrs⟩ av).toArray] w (AddR (A.step ⟨8, a, b2, c, flag, space, name, s, t, attrs⟩).2 ρ b w (pairV (A.step ⟨8, a, b2, c, flag, space, name, s, t, attrs⟩).1)) := by
  have hs1 : A.ns.length ≤ 1000000 := by omega
  obtain ⟨aa, ac, rfl, -⟩ := hv.form
  have hB := below_alloc w (.cells (OpD.cells ⟨8, a, b2, c, flag, space, name, s, t, attrs⟩ (.slice aa attrs.length ac)).toArray 46)
  have hA1 := hA.below hB
  have hv1 := hv.below hB
  unfold OpD.cells at *
  have HC := Lib.hid (Put_any A ρ b a b2 c _ hA1 hW hs1)
  have HB := Lib.hid hB
  clear hB hA hA1 hv hv1 hW
  go_enter Tryz.func23, Tryz.ntmps23
  go_wp2_with fail
  refine HC.out.mono ?_
  rintro e w2 ⟨rfl, ρ', hA2, hT2⟩
  clear HC
  go_wp2
  go_ret2
  exact ⟨rfl, ρ', hA2, (Turn.below HB.out).trans hT2⟩

set_option maxRecDepth 100000 in
set_option maxHeartbeats 1000000 in
theorem Do_9 (A : Ar) (ρ : Nat → Nat) (b : Nat) (a b2 c : Int) (flag : Bool) (space : Int) (name s t : ByteArray) (attrs : List AttrD) (av : Value) (w : World) (hA : AMem w ρ b A) (hW : A.WF) (hv : RAttrs w av attrs) (hsmall : A.ns.length + 3 ≤ 1000000) (hl : attrs.length ≤ 1000000) :
    Calls Tryz.prog 23 #[.pointer (some ⟨b, 0, none⟩), .agg (OpD.cells ⟨9, a, b2, c, flag, space, name, s, t, attrs⟩ av).toArray] w (AddR (A.step ⟨9, a, b2, c, flag, space, name, s, t, attrs⟩).2 ρ b w (pairV (A.step ⟨9, a, b2, c, flag, space, name, s, t, attrs⟩).1)) := by
  have hs1 : A.ns.length ≤ 1000000 := by omega
  obtain ⟨aa, ac, rfl, -⟩ := hv.form
  have hB := below_alloc w (.cells (OpD.cells ⟨9, a, b2, c, flag, space, name, s, t, attrs⟩ (.slice aa attrs.length ac)).toArray 46)
  have hA1 := hA.below hB
  have hv1 := hv.below hB
  unfold OpD.cells at *
  have HC := Lib.hid (Cut_any A ρ b a _ hA1 hW)
  have HB := Lib.hid hB
  clear hB hA hA1 hv hv1 hW
  go_enter Tryz.func23, Tryz.ntmps23
  go_wp2_with fail
  refine HC.out.mono ?_
  rintro e w2 ⟨rfl, ρ', hA2, hT2⟩
  clear HC
  go_wp2
  go_ret2
  exact ⟨rfl, ρ', hA2, (Turn.below HB.out).trans hT2⟩

set_option maxRecDepth 100000 in
set_option maxHeartbeats 1000000 in
theorem Do_10 (A : Ar) (ρ : Nat → Nat) (b : Nat) (a b2 c : Int) (flag : Bool) (space : Int) (name s t : ByteArray) (attrs : List AttrD) (av : Value) (w : World) (hA : AMem w ρ b A) (hW : A.WF) (hv : RAttrs w av attrs) (hsmall : A.ns.length + 3 ≤ 1000000) (hl : attrs.length ≤ 1000000) :
    Calls Tryz.prog 23 #[.pointer (some ⟨b, 0, none⟩), .agg (OpD.cells ⟨10, a, b2, c, flag, space, name, s, t, attrs⟩ av).toArray] w (AddR (A.step ⟨10, a, b2, c, flag, space, name, s, t, attrs⟩).2 ρ b w (pairV (A.step ⟨10, a, b2, c, flag, space, name, s, t, attrs⟩).1)) := by
  have hs1 : A.ns.length ≤ 1000000 := by omega
  obtain ⟨aa, ac, rfl, -⟩ := hv.form
  have hB := below_alloc w (.cells (OpD.cells ⟨10, a, b2, c, flag, space, name, s, t, attrs⟩ (.slice aa attrs.length ac)).toArray 46)
  have hA1 := hA.below hB
  have hv1 := hv.below hB
  unfold OpD.cells at *
  have HC := Lib.hid (SetData_any A ρ b a s _ hA1)
  have HB := Lib.hid hB
  clear hB hA hA1 hv hv1 hW
  go_enter Tryz.func23, Tryz.ntmps23
  go_wp2_with fail
  refine HC.out.mono ?_
  rintro e w2 ⟨rfl, ρ', hA2, hT2⟩
  clear HC
  go_wp2
  go_ret2
  exact ⟨rfl, ρ', hA2, (Turn.below HB.out).trans hT2⟩

set_option maxRecDepth 100000 in
set_option maxHeartbeats 1000000 in
theorem Do_11 (A : Ar) (ρ : Nat → Nat) (b : Nat) (a b2 c : Int) (flag : Bool) (space : Int) (name s t : ByteArray) (attrs : List AttrD) (av : Value) (w : World) (hA : AMem w ρ b A) (hW : A.WF) (hv : RAttrs w av attrs) (hsmall : A.ns.length + 3 ≤ 1000000) (hl : attrs.length ≤ 1000000) :
    Calls Tryz.prog 23 #[.pointer (some ⟨b, 0, none⟩), .agg (OpD.cells ⟨11, a, b2, c, flag, space, name, s, t, attrs⟩ av).toArray] w (AddR (A.step ⟨11, a, b2, c, flag, space, name, s, t, attrs⟩).2 ρ b w (pairV (A.step ⟨11, a, b2, c, flag, space, name, s, t, attrs⟩).1)) := by
  have hs1 : A.ns.length ≤ 1000000 := by omega
  obtain ⟨aa, ac, rfl, -⟩ := hv.form
  have hB := below_alloc w (.cells (OpD.cells ⟨11, a, b2, c, flag, space, name, s, t, attrs⟩ (.slice aa attrs.length ac)).toArray 46)
  have hA1 := hA.below hB
  have hv1 := hv.below hB
  unfold OpD.cells at *
  have HC := Lib.hid (SetAttrs_any A ρ b a _ attrs _ hA1 hv1 hl)
  have HB := Lib.hid hB
  clear hB hA hA1 hv hv1 hW
  go_enter Tryz.func23, Tryz.ntmps23
  go_wp2_with fail
  refine HC.out.mono ?_
  rintro e w2 ⟨rfl, ρ', hA2, hT2⟩
  clear HC
  go_wp2
  go_ret2
  exact ⟨rfl, ρ', hA2, (Turn.below HB.out).trans hT2⟩

set_option maxRecDepth 100000 in
set_option maxHeartbeats 1000000 in
theorem Do_12 (A : Ar) (ρ : Nat → Nat) (b : Nat) (a b2 c : Int) (flag : Bool) (space : Int) (name s t : ByteArray) (attrs : List AttrD) (av : Value) (w : World) (hA : AMem w ρ b A) (hW : A.WF) (hv : RAttrs w av attrs) (hsmall : A.ns.length + 3 ≤ 1000000) (hl : attrs.length ≤ 1000000) :
    Calls Tryz.prog 23 #[.pointer (some ⟨b, 0, none⟩), .agg (OpD.cells ⟨12, a, b2, c, flag, space, name, s, t, attrs⟩ av).toArray] w (AddR (A.step ⟨12, a, b2, c, flag, space, name, s, t, attrs⟩).2 ρ b w (pairV (A.step ⟨12, a, b2, c, flag, space, name, s, t, attrs⟩).1)) := by
  have hs1 : A.ns.length ≤ 1000000 := by omega
  obtain ⟨aa, ac, rfl, -⟩ := hv.form
  have hB := below_alloc w (.cells (OpD.cells ⟨12, a, b2, c, flag, space, name, s, t, attrs⟩ (.slice aa attrs.length ac)).toArray 46)
  have hA1 := hA.below hB
  have hv1 := hv.below hB
  unfold OpD.cells at *
  have HC := Lib.hid (SetQuirks_any A ρ b a flag _ hA1)
  have HB := Lib.hid hB
  clear hB hA hA1 hv hv1 hW
  go_enter Tryz.func23, Tryz.ntmps23
  go_wp2_with fail
  refine HC.out.mono ?_
  rintro e w2 ⟨rfl, ρ', hA2, hT2⟩
  clear HC
  go_wp2
  go_ret2
  exact ⟨rfl, ρ', hA2, (Turn.below HB.out).trans hT2⟩

set_option maxRecDepth 100000 in
set_option maxHeartbeats 1000000 in
theorem Do_13 (A : Ar) (ρ : Nat → Nat) (b : Nat) (a b2 c : Int) (flag : Bool) (space : Int) (name s t : ByteArray) (attrs : List AttrD) (av : Value) (w : World) (hA : AMem w ρ b A) (hW : A.WF) (hv : RAttrs w av attrs) (hsmall : A.ns.length + 3 ≤ 1000000) (hl : attrs.length ≤ 1000000) :
    Calls Tryz.prog 23 #[.pointer (some ⟨b, 0, none⟩), .agg (OpD.cells ⟨13, a, b2, c, flag, space, name, s, t, attrs⟩ av).toArray] w (AddR (A.step ⟨13, a, b2, c, flag, space, name, s, t, attrs⟩).2 ρ b w (pairV (A.step ⟨13, a, b2, c, flag, space, name, s, t, attrs⟩).1)) := by
  have hs1 : A.ns.length ≤ 1000000 := by omega
  obtain ⟨aa, ac, rfl, -⟩ := hv.form
  have hB := below_alloc w (.cells (OpD.cells ⟨13, a, b2, c, flag, space, name, s, t, attrs⟩ (.slice aa attrs.length ac)).toArray 46)
  have hA1 := hA.below hB
  have hv1 := hv.below hB
  unfold OpD.cells at *
  have HC := Lib.hid (SetDoc_any A ρ b a b2 _ hA1)
  have HB := Lib.hid hB
  clear hB hA hA1 hv hv1 hW
  go_enter Tryz.func23, Tryz.ntmps23
  go_wp2_with fail
  refine HC.out.mono ?_
  rintro e w2 ⟨rfl, ρ', hA2, hT2⟩
  clear HC
  go_wp2
  go_ret2
  exact ⟨rfl, ρ', hA2, (Turn.below HB.out).trans hT2⟩

set_option maxRecDepth 100000 in
set_option maxHeartbeats 1000000 in
theorem Do_none (A : Ar) (ρ : Nat → Nat) (b : Nat) (kind a b2 c : Int) (flag : Bool) (space : Int) (name s t : ByteArray) (attrs : List AttrD) (av : Value) (w : World) (hA : AMem w ρ b A) (hW : A.WF) (hv : RAttrs w av attrs) (hsmall : A.ns.length + 3 ≤ 1000000) (hl : attrs.length ≤ 1000000) (hk : ∀ j : Int, 1 ≤ j → j ≤ 13 → kind ≠ j) :
    Calls Tryz.prog 23 #[.pointer (some ⟨b, 0, none⟩), .agg (OpD.cells ⟨kind, a, b2, c, flag, space, name, s, t, attrs⟩ av).toArray] w (AddR A ρ b w (pairV (0, 0))) := by
  have hs1 : A.ns.length ≤ 1000000 := by omega
  obtain ⟨aa, ac, rfl, -⟩ := hv.form
  have hB := below_alloc w (.cells (OpD.cells ⟨kind, a, b2, c, flag, space, name, s, t, attrs⟩ (.slice aa attrs.length ac)).toArray 46)
  have hA1 := hA.below hB
  have hv1 := hv.below hB
  unfold OpD.cells at *

  have e1 : (kind == 1) = false := by simp [hk 1 (by omega) (by omega)]
  have e2 : (kind == 2) = false := by simp [hk 2 (by omega) (by omega)]
  have e3 : (kind == 3) = false := by simp [hk 3 (by omega) (by omega)]
  have e4 : (kind == 4) = false := by simp [hk 4 (by omega) (by omega)]
  have e5 : (kind == 5) = false := by simp [hk 5 (by omega) (by omega)]
  have e6 : (kind == 6) = false := by simp [hk 6 (by omega) (by omega)]
  have e7 : (kind == 7) = false := by simp [hk 7 (by omega) (by omega)]
  have e8 : (kind == 8) = false := by simp [hk 8 (by omega) (by omega)]
  have e9 : (kind == 9) = false := by simp [hk 9 (by omega) (by omega)]
  have e10 : (kind == 10) = false := by simp [hk 10 (by omega) (by omega)]
  have e11 : (kind == 11) = false := by simp [hk 11 (by omega) (by omega)]
  have e12 : (kind == 12) = false := by simp [hk 12 (by omega) (by omega)]
  have e13 : (kind == 13) = false := by simp [hk 13 (by omega) (by omega)]
  have HB := Lib.hid hB
  have HA1 := Lib.hid hA1
  clear hB hA hA1 hv hv1 hW hk
  go_enter Tryz.func23, Tryz.ntmps23
  go_wp2
  go_ret2
  exact ⟨rfl, ρ, HA1.out, Turn.below HB.out⟩

/-- **Do.** -/
theorem Do_any (A : Ar) (ρ : Nat → Nat) (b : Nat) (x : OpD) (av : Value) (w : World) (hA : AMem w ρ b A) (hW : A.WF) (hv : RAttrs w av x.attrs) (hsmall : A.ns.length + 3 ≤ 1000000) (hl : x.attrs.length ≤ 1000000) :
    Calls Tryz.prog 23 #[.pointer (some ⟨b, 0, none⟩), .agg (x.cells av).toArray] w (AddR (A.step x).2 ρ b w (pairV (A.step x).1)) := by
  obtain ⟨kind, a, b2, c, flag, space, name, s, t, attrs⟩ := x
  by_cases h1 : kind = 1
  · subst h1; exact Do_1 A ρ b a b2 c flag space name s t attrs av w hA hW hv hsmall hl
  by_cases h2 : kind = 2
  · subst h2; exact Do_2 A ρ b a b2 c flag space name s t attrs av w hA hW hv hsmall hl
  by_cases h3 : kind = 3
  · subst h3; exact Do_3 A ρ b a b2 c flag space name s t attrs av w hA hW hv hsmall hl
  by_cases h4 : kind = 4
  · subst h4; exact Do_4 A ρ b a b2 c flag space name s t attrs av w hA hW hv hsmall hl
  by_cases h5 : kind = 5
  · subst h5; exact Do_5 A ρ b a b2 c flag space name s t attrs av w hA hW hv hsmall hl
  by_cases h6 : kind = 6
  · subst h6; exact Do_6 A ρ b a b2 c flag space name s t attrs av w hA hW hv hsmall hl
  by_cases h7 : kind = 7
  · subst h7; exact Do_7 A ρ b a b2 c flag space name s t attrs av w hA hW hv hsmall hl
  by_cases h8 : kind = 8
  · subst h8; exact Do_8 A ρ b a b2 c flag space name s t attrs av w hA hW hv hsmall hl
  by_cases h9 : kind = 9
  · subst h9; exact Do_9 A ρ b a b2 c flag space name s t attrs av w hA hW hv hsmall hl
  by_cases h10 : kind = 10
  · subst h10; exact Do_10 A ρ b a b2 c flag space name s t attrs av w hA hW hv hsmall hl
  by_cases h11 : kind = 11
  · subst h11; exact Do_11 A ρ b a b2 c flag space name s t attrs av w hA hW hv hsmall hl
  by_cases h12 : kind = 12
  · subst h12; exact Do_12 A ρ b a b2 c flag space name s t attrs av w hA hW hv hsmall hl
  by_cases h13 : kind = 13
  · subst h13; exact Do_13 A ρ b a b2 c flag space name s t attrs av w hA hW hv hsmall hl
  have hz : A.step ⟨kind, a, b2, c, flag, space, name, s, t, attrs⟩ = ((0, 0), A) := by simp [Ar.step, h1, h2, h3, h4, h5, h6, h7, h8, h9, h10, h11, h12, h13]
  rw [hz]
  exact Do_none A ρ b kind a b2 c flag space name s t attrs av w hA hW hv hsmall hl (fun j h1 h2 e => by omega)

end Go.Proofs.YtnfdcfagdidmhaaGreatDoor

/- The arguments opened: lists of operations, of attributes, of integers. (The first lemma is the guide's 'extra-structs'.) -/
namespace Go.Proofs.YtnfdcfagdidmhaaGreatDoor
open Go.RowKit Go.ChangeShapes Go.WideShapes Go.Deep
set_option linter.unusedVariables false

section
variable {H : Type} {enc : TypeId × Value → H} {P : Program} {w : World} {base : Nat} {spare : Nat → Bool} {held : Bool}
theorem open_slice_fields {t e : TypeId} {fs : Array Field} {fuel : Nat} {cs : List Value} {x : DataW H × List MemPlace} (ht : P.underlying t = some (.slice e)) (he : P.underlying e = some (.struct fs))
    (hone : oneCellFields P fs = true) (hC : P.cellsOf e = fs.size) (h : DataW.trod enc P w base spare held fuel t cs = some x) :
    cs = [.slice none 0 0] ∨
    ∃ (a : Addr) (len cap : Nat) (D : Nat → DataW H), cs = [.slice (some a) len cap] ∧ len ≤ cap ∧ cap ≤ maxLen ∧
      ∀ i, i < len → ∃ (ys : List (DataW H × List MemPlace)) (n : Nat),
        ∀ (j : Nat) (f : Field), fs[j]? = some f → ∃ (v : Value) (y : DataW H × List MemPlace), w.cell? (a.add (i * fs.size + j)) = some v ∧ ys[j]? = some y ∧ DataW.trod enc P w base spare held n f.type [v] = some y := by
  rcases open_slice ht h with h0 | ⟨a, len, cap, m, n, D, Pl, hcs, hb, hl, hm, hmm, hx, hi⟩
  · exact .inl h0.1
  · refine .inr ⟨a, len, cap, D, hcs, hl, hm, fun i hil => ?_⟩
    have him : i < m := by rw [hmm]; split <;> omega
    obtain ⟨cs', hc, ht'⟩ := hi i him
    rw [hC] at hc
    obtain ⟨ys, n', hn', hy, hlen, hyl, hf⟩ := DataW.trod_struct he ht'
    obtain ⟨_, hcl, hat⟩ := World.cells?_some hc
    refine ⟨ys, n', fun j f hj => ?_⟩
    obtain ⟨ho, hk⟩ := hone_of hone j f hj
    have hjl : j < fs.size := (Array.getElem?_eq_some_iff.1 hj).1
    have hcell := hat j hjl
    have hv : cs'[j]? = some (cs'[j]'(by omega)) := List.getElem?_eq_getElem (by omega)
    have h1 := hf j f hj
    rw [ho, hk] at h1
    have hone' : (cs'.drop j).take 1 = [cs'[j]'(by omega)] := by
      rw [List.drop_eq_getElem_cons (by omega)]
      rfl
    rw [hone'] at h1
    have hys : ys[j]? = some (ys[j]'(by omega)) := List.getElem?_eq_getElem (by omega)
    refine ⟨_, _, ?_, hys, h1.trans hys⟩
    rw [← Go.Deep.add_add, hcell, hv]
end

theorem spot_none {w : World} {a : Addr} {v : Value} (h : w.cell? a = some v) : a.spot = none := by
  unfold World.cell? at h
  split at h
  · split at h
    · cases h
    · rename_i hs; simpa using hs
  · cases h

/-- A list from its elements' facts. -/
theorem list_of {α : Type} (Q : Nat → α → Prop) : ∀ n : Nat, (∀ i, i < n → ∃ x, Q i x) → ∃ l : List α, l.length = n ∧ ∀ i x, l[i]? = some x → Q i x
  | 0, _ => ⟨[], rfl, fun i x h => by simp at h⟩
  | n + 1, h => by
    obtain ⟨l, hl, hq⟩ := list_of Q n (fun i hi => h i (by omega))
    obtain ⟨x, hx⟩ := h n (by omega)
    refine ⟨l ++ [x], by simp [hl], fun i y hy => ?_⟩
    rw [List.getElem?_append] at hy
    split at hy
    · exact hq i y hy
    · have : i = n := by
        have := (List.getElem?_eq_some_iff.1 hy).1; simp at this; omega
      subst this
      simp [hl] at hy
      subst hy; exact hx

theorem attr_len : ∀ l : List AttrD, (l.flatMap attrCells).length = l.length * 3
  | [] => rfl
  | a :: l => by simp only [List.flatMap_cons, List.length_append, attr_len l, List.length_cons]; simp [attrCells]; omega

/-- The cells of an operation at an offset. -/
structure OpF (w : World) (b o : Nat) (x : OpD) (av : Value) : Prop where
  c : ∀ j v, (x.cells av)[j]? = some v → w.cell? ⟨b, o + j, none⟩ = some v
  at' : RAttrs w av x.attrs

/-- A slice of operations. -/
def ROps (w : World) (v : Value) (l : List OpD) : Prop :=
  ∃ a c, v = .slice a l.length c ∧ l.length ≤ c ∧ c ≤ 9223372036854775807 ∧ (0 < l.length → ∃ b o, a = some ⟨b, o, none⟩ ∧ ∀ i x, l[i]? = some x → ∃ av, OpF w b (o + i * 10) x av)
theorem ROps.below {w w' : World} {v : Value} {l : List OpD} (h : ROps w v l) (hb : Below w.heap.size w w') : ROps w' v l := by
  obtain ⟨a, c, h1, h2, h3, h4⟩ := h
  refine ⟨a, c, h1, h2, h3, fun hn => ?_⟩
  obtain ⟨b, o, h5, h6⟩ := h4 hn
  refine ⟨b, o, h5, fun i x hx => ?_⟩
  obtain ⟨av, h7⟩ := h6 i x hx
  exact ⟨av, fun j v hv => Below.old hb (h7.c j v hv), h7.at'.below hb⟩

section
variable {H : Type} {enc : TypeId × Value → H} {w : World} {base : Nat} {spare : Nat → Bool} {held : Bool}

theorem open_attrs {fuel : Nat} {v : Value} {x : DataW H × List MemPlace} (h : DataW.trod enc Tryz.prog w base spare held fuel 44 [v] = some x) : ∃ l : List AttrD, RAttrs w v l := by
  rcases open_slice_fields Tryz.underlying44 Tryz.underlying123 (by kernel_rfl) (by kernel_rfl) h with h0 | ⟨a, len, cap, D, hcs, hl, hm, hi⟩
  · simp at h0; subst h0
    exact ⟨[], rfl, none, 0, rfl, Nat.le_refl _, Nat.zero_le _, fun h => absurd h (by simp)⟩
  · simp at hcs; subst hcs
    have hq : ∀ i, i < len → ∃ y : AttrD, w.cell? (a.add (i * 3 + 0)) = some (.int .i64 y.1) ∧ w.cell? (a.add (i * 3 + 1)) = some (.string y.2.1) ∧ w.cell? (a.add (i * 3 + 2)) = some (.string y.2.2) := by
      intro i hil
      obtain ⟨ys, n, hf⟩ := hi i hil
      obtain ⟨v0, y0, c0, -, t0⟩ := hf 0 _ rfl
      obtain ⟨v1, y1, c1, -, t1⟩ := hf 1 _ rfl
      obtain ⟨v2, y2, c2, -, t2⟩ := hf 2 _ rfl
      obtain ⟨s, e0, -⟩ := DataW.trod_int Tryz.underlying43 t0
      obtain ⟨nm, e1, -⟩ := DataW.trod_string Tryz.underlying9 t1
      obtain ⟨vl, e2, -⟩ := DataW.trod_string Tryz.underlying9 t2
      simp at e0 e1 e2
      subst e0; subst e1; subst e2
      exact ⟨(s, nm, vl), c0, c1, c2⟩
    obtain ⟨l, hll, hlq⟩ := list_of _ len hq
    subst hll
    refine ⟨l, attr_len l, some a, cap, rfl, hl, hm, fun hp => ?_⟩
    have hsp : a.spot = none := by
      obtain ⟨q, -⟩ := hlq 0 _ (List.getElem?_eq_getElem hp)
      exact spot_none (by simpa [Addr.add] using q)
    obtain ⟨b, o, sp⟩ := a
    simp at hsp; subst hsp
    refine ⟨b, o, rfl, fun j x hx => ?_⟩
    have hj : j < l.length * 3 := by have := (List.getElem?_eq_some_iff.1 hx).1; rwa [attr_len] at this
    have h3 : j = 3 * (j / 3) + j % 3 := by omega
    have hy : l[j / 3]? = some (l[j / 3]'(by omega)) := List.getElem?_eq_getElem (by omega)
    rw [h3, attr_get hy _ (by omega)] at hx
    have hq := hlq _ _ hy
    have hm3 : j % 3 < 3 := by omega
    generalize j % 3 = r at *
    rw [h3]
    simp only [Addr.add_mid] at hq
    rcases (show r = 0 ∨ r = 1 ∨ r = 2 by omega) with rfl | rfl | rfl
    · simp [attrCells] at hx; subst hx; rw [show o + (3 * (j / 3) + 0) = o + (j / 3 * 3 + 0) by omega]; exact hq.1
    · simp [attrCells] at hx; subst hx; rw [show o + (3 * (j / 3) + 1) = o + (j / 3 * 3 + 1) by omega]; exact hq.2.1
    · simp [attrCells] at hx; subst hx; rw [show o + (3 * (j / 3) + 2) = o + (j / 3 * 3 + 2) by omega]; exact hq.2.2

theorem open_ops {fuel : Nat} {v : Value} {x : DataW H × List MemPlace} (h : DataW.trod enc Tryz.prog w base spare held fuel 22 [v] = some x) : ∃ l : List OpD, ROps w v l := by
  rcases open_slice_fields Tryz.underlying22 Tryz.underlying46 (by kernel_rfl) (by kernel_rfl) h with h0 | ⟨a, len, cap, D, hcs, hl, hm, hi⟩
  · simp at h0; subst h0
    exact ⟨[], none, 0, rfl, Nat.le_refl _, Nat.zero_le _, fun h => absurd h (by simp)⟩
  · simp at hcs; subst hcs
    have hq : ∀ i, i < len → ∃ y : OpD, ∃ av, (∀ j v, (y.cells av)[j]? = some v → w.cell? (a.add (i * 10 + j)) = some v) ∧ RAttrs w av y.attrs := by
      intro i hil
      obtain ⟨ys, n, hf⟩ := hi i hil
      obtain ⟨v0, y0, c0, -, t0⟩ := hf 0 _ rfl
      obtain ⟨v1, y1, c1, -, t1⟩ := hf 1 _ rfl
      obtain ⟨v2, y2, c2, -, t2⟩ := hf 2 _ rfl
      obtain ⟨v3, y3, c3, -, t3⟩ := hf 3 _ rfl
      obtain ⟨v4, y4, c4, -, t4⟩ := hf 4 _ rfl
      obtain ⟨v5, y5, c5, -, t5⟩ := hf 5 _ rfl
      obtain ⟨v6, y6, c6, -, t6⟩ := hf 6 _ rfl
      obtain ⟨v7, y7, c7, -, t7⟩ := hf 7 _ rfl
      obtain ⟨v8, y8, c8, -, t8⟩ := hf 8 _ rfl
      obtain ⟨v9, y9, c9, -, t9⟩ := hf 9 _ rfl
      obtain ⟨x0, e0, -⟩ := DataW.trod_int Tryz.underlying3 t0
      obtain ⟨x1, e1, -⟩ := DataW.trod_int Tryz.underlying3 t1
      obtain ⟨x2, e2, -⟩ := DataW.trod_int Tryz.underlying3 t2
      obtain ⟨x3, e3, -⟩ := DataW.trod_int Tryz.underlying3 t3
      obtain ⟨x4, e4, -⟩ := DataW.trod_bool Tryz.underlying4 t4
      obtain ⟨x5, e5, -⟩ := DataW.trod_int Tryz.underlying43 t5
      obtain ⟨x6, e6, -⟩ := DataW.trod_string Tryz.underlying9 t6
      obtain ⟨x7, e7, -⟩ := DataW.trod_string Tryz.underlying9 t7
      obtain ⟨x8, e8, -⟩ := DataW.trod_string Tryz.underlying9 t8
      obtain ⟨l, hl⟩ := open_attrs t9
      simp at e0 e1 e2 e3 e4 e5 e6 e7 e8
      subst e0; subst e1; subst e2; subst e3; subst e4; subst e5; subst e6; subst e7; subst e8
      refine ⟨⟨x0, x1, x2, x3, x4, x5, x6, x7, x8, l⟩, v9, fun j v hv => ?_, hl⟩
      have hj : j < 10 := (List.getElem?_eq_some_iff.1 hv).1
      rcases (show j = 0 ∨ j = 1 ∨ j = 2 ∨ j = 3 ∨ j = 4 ∨ j = 5 ∨ j = 6 ∨ j = 7 ∨ j = 8 ∨ j = 9 by omega) with rfl | rfl | rfl | rfl | rfl | rfl | rfl | rfl | rfl | rfl <;> (simp [OpD.cells] at hv; subst hv; assumption)
    obtain ⟨l, hll, hlq⟩ := list_of _ len hq
    subst hll
    refine ⟨l, some a, cap, rfl, hl, hm, fun hp => ?_⟩
    have hsp : a.spot = none := by
      obtain ⟨av, q, -⟩ := hlq 0 _ (List.getElem?_eq_getElem hp)
      exact spot_none (by simpa [Addr.add] using q 0 _ rfl)
    obtain ⟨b, o, sp⟩ := a
    simp at hsp; subst hsp
    refine ⟨b, o, rfl, fun i x hx => ?_⟩
    obtain ⟨av, q, hA⟩ := hlq i x hx
    refine ⟨av, fun j v hv => ?_, hA⟩
    have := q j v hv
    rw [Addr.add_mid] at this
    rw [show o + i * 10 + j = o + (i * 10 + j) by omega]; exact this
end

end Go.Proofs.YtnfdcfagdidmhaaGreatDoor

/- The invariant is kept by every operation; how much an operation adds. No walk here. -/
namespace Go.Proofs.YtnfdcfagdidmhaaGreatDoor
set_option linter.unusedVariables false

theorem Ar.Inv.make {A : Ar} (hI : A.Inv) {d : Int} {n : Nd} (hk : n.kids = []) (hp : n.parent = 0) (hh : n.host = 0) (hc : n.contents = 0) (hl : n.Local) (h1 : n.kind ≠ 1) (h4 : n.kind ≠ 4) : (A.make d n).2.Inv := by
  unfold Ar.make
  by_cases he : A.ofDoc d ≠ 0
  · rw [if_pos he]; exact hI
  · rw [if_neg he]
    have he' : A.ofDoc d = 0 := Classical.not_not.1 he
    refine hI.added (n := { n with doc := d }) hk hp hh hc ⟨hl.k1, hl.k6, hl.sp, hl.at1, hl.at2, hl.at3, hl.el, hl.nm, hl.ps, hl.da, hl.qu⟩ (.inl ⟨ofDoc_has he', ofDoc_kind he', h1⟩) (.inl ⟨rfl, fun h => h4 h.1⟩)

theorem local_doctype (a b c : ByteArray) : (docTypeNd a b c).Local :=
  ⟨by simp [docTypeNd], by simp [docTypeNd], by simp [docTypeNd, inSpaces, zeroNd], by simp [docTypeNd, attrSpaces, zeroNd], rfl, by simp [docTypeNd, zeroNd], fun _ => ⟨rfl, rfl⟩, fun _ h => absurd rfl h, fun h => absurd rfl h, fun _ _ => rfl, fun _ => rfl⟩
theorem local_text (a : ByteArray) : (textNd a).Local :=
  ⟨by simp [textNd], by simp [textNd], by simp [textNd, inSpaces, zeroNd], by simp [textNd, attrSpaces, zeroNd], rfl, by simp [textNd, zeroNd], fun _ => ⟨rfl, rfl⟩, fun _ _ => rfl, fun _ => ⟨rfl, rfl⟩, fun h => absurd rfl h, fun _ => rfl⟩
theorem local_comment (a : ByteArray) : (commentNd a).Local :=
  ⟨by simp [commentNd], by simp [commentNd], by simp [commentNd, inSpaces, zeroNd], by simp [commentNd, attrSpaces, zeroNd], rfl, by simp [commentNd, zeroNd], fun _ => ⟨rfl, rfl⟩, fun _ _ => rfl, fun _ => ⟨rfl, rfl⟩, fun _ h => absurd rfl h, fun _ => rfl⟩
theorem local_fragment : fragNd.Local := local_frag (d := 0) (h := 0)

theorem Ar.Inv.inertCall {A : Ar} (hI : A.Inv) (d : Int) : (A.inertCall d).2.Inv := by
  unfold Ar.inertCall
  by_cases he : A.ofDoc d ≠ 0
  · rw [if_pos he]; exact hI
  · rw [if_neg he]; exact Ar.InvX.inertOf hI (ofDoc_has (Classical.not_not.1 he))

theorem Ar.Inv.element {A : Ar} (hI : A.Inv) (d s : Int) (name : ByteArray) (l : List AttrD) (hl : l.length ≤ 1000) : (A.element d s name l).2.Inv := by
  by_cases he : A.ofDoc d = 0
  · have hd := ofDoc_has he
    have hdk := ofDoc_kind he
    by_cases hs : inSpaces s ∧ attrSpaces l
    · by_cases ht : isTemplate (elemNd d s name l)
      · rw [elem_templ he hs ht]
        have h1 : (A.add (elemNd d s name l)).InvX (A.n + 1) := Ar.InvX.added hI rfl rfl rfl rfl (local_elem hs.1 hs.2 hl) (.inl ⟨hd, hdk, by simp [elemNd]⟩) (.inr ⟨rfl, rfl⟩)
        have hd1 : (A.add (elemNd d s name l)).has d := (Ar.add_has _ _ _).2 (.inl hd)
        have h2 := h1.inertOf hd1
        obtain ⟨v1, v2⟩ := h1.inertVal hd1
        have hx := Ar.inertOf_get (d := d) (A := A.add (elemNd d s name l)) (x := A.n + 1) ((Ar.add_has _ _ _).2 (.inr rfl))
        exact h2.contents hx.2 (by rw [hx.1, Ar.add_new]; exact ht) v1 v2
      · rw [elem_plain he hs ht]
        exact Ar.InvX.added hI rfl rfl rfl rfl (local_elem hs.1 hs.2 hl) (.inl ⟨hd, hdk, by simp [elemNd]⟩) (.inl ⟨rfl, ht⟩)
    · rw [elem_false he hs]; exact hI
  · have : A.element d s name l = ((0, A.ofDoc d), A) := by simp [Ar.element, he]
    rw [this]; exact hI

theorem Ar.Inv.setData {A : Ar} (hI : A.Inv) (h : Int) (s : ByteArray) : (A.setData h s).2.Inv := by
  unfold Ar.setData
  split
  · exact hI
  · rename_i hh
    have hh := Classical.not_not.1 hh
    split
    · exact hI
    · rename_i hk
      have hk := Classical.not_not.1 hk
      have := hI.loc h hh
      refine Ar.InvX.modF hI hh _ ⟨rfl, rfl, rfl, rfl, rfl, rfl, rfl⟩ ⟨this.k1, this.k6, this.sp, this.at1, this.at2, this.at3, this.el, this.nm, this.ps, fun a b => ?_, this.qu⟩ (.inl rfl)
      rcases hk with hk | hk
      · exact absurd hk a
      · exact absurd hk b
theorem Ar.Inv.setAttrs {A : Ar} (hI : A.Inv) (h : Int) (l : List AttrD) (hl : l.length ≤ 1000) : (A.setAttrs h l).2.Inv := by
  unfold Ar.setAttrs
  split
  · exact hI
  · rename_i hh
    have hh := Classical.not_not.1 hh
    split
    · exact hI
    · rename_i hk
      have hk := Classical.not_not.1 hk
      split
      · exact hI
      · rename_i hs
        have hs := Classical.not_not.1 hs
        have := hI.loc h hh
        exact Ar.InvX.modF hI hh _ ⟨rfl, rfl, rfl, rfl, rfl, rfl, rfl⟩ ⟨this.k1, this.k6, this.sp, fun a q => hs a (onceL_mem q), onceL_idem l, Nat.le_trans (onceL_len l) hl, fun a => absurd hk a, this.nm, this.ps, this.da, this.qu⟩ (.inl rfl)
theorem Ar.Inv.setQuirks {A : Ar} (hI : A.Inv) (h : Int) (q : Bool) : (A.setQuirks h q).2.Inv := by
  unfold Ar.setQuirks
  split
  · exact hI
  · rename_i hh
    have hh := Classical.not_not.1 hh
    split
    · exact hI
    · rename_i hk
      have hk := Classical.not_not.1 hk
      have := hI.loc h hh
      exact Ar.InvX.modF hI hh _ ⟨rfl, rfl, rfl, rfl, rfl, rfl, rfl⟩ ⟨this.k1, this.k6, this.sp, this.at1, this.at2, this.at3, this.el, this.nm, this.ps, this.da, fun a => absurd hk a⟩ (.inl rfl)
theorem Ar.Inv.setDoc {A : Ar} (hI : A.Inv) (h d : Int) : (A.setDoc h d).2.Inv := by
  unfold Ar.setDoc
  split
  · exact hI
  · rename_i hh
    have hh1 : A.has h := Classical.not_not.1 (fun e => hh (.inl e))
    have hh2 : A.has d := Classical.not_not.1 (fun e => hh (.inr e))
    split
    · exact hI
    · rename_i hk
      have hk1 : (A.get h).kind ≠ 1 := fun e => hk (.inl e)
      have hk2 : (A.get d).kind = 1 := Classical.not_not.1 (fun e => hk (.inr e))
      have := hI.loc h hh1
      exact Ar.InvX.modF hI hh1 _ ⟨rfl, rfl, rfl, rfl, rfl, rfl, rfl⟩ ⟨this.k1, this.k6, this.sp, this.at1, this.at2, this.at3, this.el, this.nm, this.ps, this.da, this.qu⟩ (.inr ⟨hh2, hk2, hk1⟩)

theorem Ar.Inv.cutCall {A : Ar} (hI : A.Inv) (h : Int) : (A.cutCall h).2.Inv := by
  unfold Ar.cutCall
  split
  · rename_i hh; exact Ar.InvX.cut hI hh
  · exact hI

/-- What 'Put' has found when it goes on. -/
theorem allowed_got {A : Ar} {parent node before : Int} {c : Bool} (h : A.allowed parent node before c = 0) : A.has parent ∧ A.has node ∧ (before ≠ 0 → A.has before ∧ before ≠ node ∧ (A.get before).parent = parent) ∧
    ((A.get parent).kind = 1 ∨ (A.get parent).kind = 2 ∨ (A.get parent).kind = 4) ∧ ((A.get node).kind ≠ 1 ∧ (A.get node).kind ≠ 2) ∧ c = false := by
  unfold Ar.allowed at h
  split at h
  · exact absurd h (by decide)
  · rename_i h1
    split at h
    · exact absurd h (by decide)
    · rename_i h2
      split at h
      · exact absurd h (by decide)
      · rename_i h3
        split at h
        · exact absurd h (by decide)
        · rename_i h4
          refine ⟨Classical.not_not.1 (fun e => h1 (.inl e)), Classical.not_not.1 (fun e => h1 (.inr (.inl e))), fun hb => ⟨Classical.not_not.1 (fun e => h1 (.inr (.inr ⟨hb, e⟩))), fun e => h4 ⟨hb, .inl e⟩, Classical.not_not.1 (fun e => h4 ⟨hb, .inr e⟩)⟩, Classical.not_not.1 h2, ⟨fun e => h3 (.inl e), fun e => h3 (.inr (.inl e))⟩, ?_⟩
          cases c
          · rfl
          · exact absurd (.inr (.inr rfl)) h3
theorem Ar.Inv.put {A : Ar} (hI : A.Inv) (parent node before : Int) : (A.put parent node before).2.Inv := by
  unfold Ar.put
  split
  · exact hI
  · rename_i h
    obtain ⟨h1, h2, h3, h4, h5, h6⟩ := allowed_got (Classical.not_not.1 h)
    exact Ar.InvX.place hI h1 h2 h3 h4 h5 h6

/-- What holds of every call's outcome holds of an operation's. -/
theorem step_rec {A : Ar} {x : OpD} {P : (Int × Int) × Ar → Prop}
    (h1 : x.kind = 1 → P (((A.n + 1, 0), A.document x.flag)))
    (h2 : x.kind = 2 → P (A.make x.a (docTypeNd x.name x.s x.t)))
    (h3 : x.kind = 3 → P (A.element x.a x.space x.name x.attrs))
    (h4 : x.kind = 4 → P (A.make x.a (textNd x.s)))
    (h5 : x.kind = 5 → P (A.make x.a (commentNd x.s)))
    (h6 : x.kind = 6 → P (A.make x.a fragNd))
    (h7 : x.kind = 7 → P (A.inertCall x.a))
    (h8 : x.kind = 8 → P (((0, (A.put x.a x.b x.c).1), (A.put x.a x.b x.c).2)))
    (h9 : x.kind = 9 → P (((0, (A.cutCall x.a).1), (A.cutCall x.a).2)))
    (h10 : x.kind = 10 → P (((0, (A.setData x.a x.s).1), (A.setData x.a x.s).2)))
    (h11 : x.kind = 11 → P (((0, (A.setAttrs x.a x.attrs).1), (A.setAttrs x.a x.attrs).2)))
    (h12 : x.kind = 12 → P (((0, (A.setQuirks x.a x.flag).1), (A.setQuirks x.a x.flag).2)))
    (h13 : x.kind = 13 → P (((0, (A.setDoc x.a x.b).1), (A.setDoc x.a x.b).2)))
    (h0 : (∀ j : Int, 1 ≤ j → j ≤ 13 → x.kind ≠ j) → P ((0, 0), A)) : P (A.step x) := by
  unfold Ar.step
  by_cases e1 : x.kind = 1
  · rw [if_pos e1]; exact h1 e1
  rw [if_neg e1]
  by_cases e2 : x.kind = 2
  · rw [if_pos e2]; exact h2 e2
  rw [if_neg e2]
  by_cases e3 : x.kind = 3
  · rw [if_pos e3]; exact h3 e3
  rw [if_neg e3]
  by_cases e4 : x.kind = 4
  · rw [if_pos e4]; exact h4 e4
  rw [if_neg e4]
  by_cases e5 : x.kind = 5
  · rw [if_pos e5]; exact h5 e5
  rw [if_neg e5]
  by_cases e6 : x.kind = 6
  · rw [if_pos e6]; exact h6 e6
  rw [if_neg e6]
  by_cases e7 : x.kind = 7
  · rw [if_pos e7]; exact h7 e7
  rw [if_neg e7]
  by_cases e8 : x.kind = 8
  · rw [if_pos e8]; exact h8 e8
  rw [if_neg e8]
  by_cases e9 : x.kind = 9
  · rw [if_pos e9]; exact h9 e9
  rw [if_neg e9]
  by_cases e10 : x.kind = 10
  · rw [if_pos e10]; exact h10 e10
  rw [if_neg e10]
  by_cases e11 : x.kind = 11
  · rw [if_pos e11]; exact h11 e11
  rw [if_neg e11]
  by_cases e12 : x.kind = 12
  · rw [if_pos e12]; exact h12 e12
  rw [if_neg e12]
  by_cases e13 : x.kind = 13
  · rw [if_pos e13]; exact h13 e13
  rw [if_neg e13]
  exact h0 (fun j h1 h2 e => by omega)

theorem Ar.Inv.step {A : Ar} (hI : A.Inv) (x : OpD) (hl : x.attrs.length ≤ 20) : (A.step x).2.Inv := by
  refine step_rec (P := fun r => r.2.Inv) ?_ ?_ ?_ ?_ ?_ ?_ ?_ ?_ ?_ ?_ ?_ ?_ ?_ ?_ <;> intro _
  · exact Ar.InvX.document hI _
  · exact hI.make rfl rfl rfl rfl (local_doctype _ _ _) (by simp [docTypeNd]) (by simp [docTypeNd])
  · exact hI.element _ _ _ _ (Nat.le_trans hl (by omega))
  · exact hI.make rfl rfl rfl rfl (local_text _) (by simp [textNd]) (by simp [textNd])
  · exact hI.make rfl rfl rfl rfl (local_comment _) (by simp [commentNd]) (by simp [commentNd])
  · exact hI.make rfl rfl rfl rfl local_fragment (by simp [fragNd]) (by simp [fragNd])
  · exact hI.inertCall _
  · exact hI.put _ _ _
  · exact hI.cutCall _
  · exact hI.setData _ _
  · exact hI.setAttrs _ _ (Nat.le_trans hl (by omega))
  · exact hI.setQuirks _ _
  · exact hI.setDoc _ _
  · exact hI

theorem inv_new : Ar.new.Inv := by
  have hno : ∀ h, ¬ Ar.new.has h := fun h hh => by have h1 := hh.1; have h2 := hh.2; simp [Ar.new, Ar.n] at h2; omega
  refine ⟨⟨fun h hh => absurd hh (hno h), fun h hh => absurd hh (hno h), fun h hh => absurd hh (hno h), fun h hh => absurd hh (hno h), rfl⟩, fun h hh => absurd hh (hno h), fun h hh => absurd hh (hno h), fun h hh => absurd hh (hno h), fun h hh => absurd hh (hno h), fun h hh => absurd hh (hno h), fun h hh => absurd hh (hno h), fun h hh => absurd hh (hno h), fun h hh => absurd hh (hno h), rfl, fun d hd => ?_⟩
  exfalso; apply hd
  unfold Ar.inertAt
  cases h : Ar.new.inert[d.toNat]? with
  | none => rfl
  | some x => have := List.mem_of_getElem? h; simp [Ar.new] at this; simp [this]

/-- How much an operation adds; what was there stays there, with its kind. -/
structure Ar.Ext (A A' : Ar) : Prop where
  le : A.ns.length ≤ A'.ns.length
  kind : ∀ x, A.has x → (A'.get x).kind = (A.get x).kind
theorem Ar.Ext.refl (A : Ar) : A.Ext A := ⟨Nat.le_refl _, fun _ _ => rfl⟩
theorem Ar.Ext.has {A A' : Ar} (h : A.Ext A') {x : Int} (hx : A.has x) : A'.has x := ⟨hx.1, by have := hx.2; have := h.le; unfold Ar.n at *; omega⟩
theorem Ar.Ext.trans {A B C : Ar} (h : A.Ext B) (k : B.Ext C) : A.Ext C := ⟨Nat.le_trans h.le k.le, fun x hx => (k.kind x (h.has hx)).trans (h.kind x hx)⟩
theorem Ar.ext_add (A : Ar) (n : Nd) : A.Ext (A.add n) := ⟨by simp [Ar.add], fun x hx => by rw [Ar.add_old n hx]⟩
theorem Ar.ext_mod {A : Ar} {x : Int} (hx : A.has x) (f : Nd → Nd) (hf : (f (A.get x)).kind = (A.get x).kind) : A.Ext (A.mod x f) := ⟨by simp [Ar.mod], fun y hy => by
  rw [Ar.mod_get f hx hy]; split
  · rename_i e; rw [e]; exact hf
  · rfl⟩

theorem Ar.ext_make (A : Ar) (d : Int) (n : Nd) : A.Ext (A.make d n).2 := by
  unfold Ar.make
  split
  · exact Ar.Ext.refl A
  · exact Ar.ext_add A _
theorem Ar.ext_inertOf (A : Ar) (d : Int) : A.Ext (A.inertOf d).2 := ⟨(Ar.inertOf_len A d).1, fun x hx => by rw [(Ar.inertOf_get hx).1]⟩
theorem Ar.ext_inertCall (A : Ar) (d : Int) : A.Ext (A.inertCall d).2 := by
  unfold Ar.inertCall
  split
  · exact Ar.Ext.refl A
  · exact Ar.ext_inertOf A d
theorem Ar.ext_element (A : Ar) (d s : Int) (name : ByteArray) (l : List AttrD) : A.Ext (A.element d s name l).2 := by
  unfold Ar.element
  split
  · exact Ar.Ext.refl A
  · split
    · exact Ar.Ext.refl A
    · dsimp only
      split
      · refine ((Ar.ext_add A _).trans (Ar.ext_inertOf _ d)).trans ((Ar.ext_add _ _).trans (Ar.ext_mod ?_ _ rfl))
        exact (Ar.ext_add _ _).has ((Ar.ext_inertOf _ d).has ((Ar.add_has _ _ _).2 (.inr rfl)))
      · exact Ar.ext_add A _
theorem Ar.Inv.ext_cut {A : Ar} (hI : A.Inv) {h : Int} (hh : A.has h) : A.Ext (A.cut h) := ⟨by rw [Ar.cut_ns]; exact Nat.le_refl _, fun x hx => by rw [Ar.cut_get hI hh hx]⟩
theorem Ar.Inv.ext_put {A : Ar} (hI : A.Inv) (parent node before : Int) : A.Ext (A.put parent node before).2 := by
  unfold Ar.put
  split
  · exact Ar.Ext.refl A
  · rename_i h
    obtain ⟨h1, h2, h3, h4, h5, h6⟩ := allowed_got (Classical.not_not.1 h)
    have hne : parent ≠ node := fun e => by
      subst e
      have : A.contains parent parent = true := by simp [Ar.contains, h1, way_head (hI.wf.wayOf h1) h1]
      rw [this] at h6; exact absurd h6 (by simp)
    refine ⟨by have := Ar.place_n A parent node before; unfold Ar.n at this; dsimp only; omega, fun x hx => ?_⟩
    show ((A.place parent node before).get x).kind = _
    rw [Ar.place_get h1 h2 hx hne, Ar.cut_get hI h2 hx]
theorem Ar.ext_set {A : Ar} (h : Int) (s : ByteArray) (l : List AttrD) (q : Bool) (d : Int) : A.Ext (A.setData h s).2 ∧ A.Ext (A.setAttrs h l).2 ∧ A.Ext (A.setQuirks h q).2 ∧ A.Ext (A.setDoc h d).2 := by
  refine ⟨?_, ?_, ?_, ?_⟩
  · unfold Ar.setData
    split
    · exact Ar.Ext.refl A
    · rename_i hh
      split
      · exact Ar.Ext.refl A
      · exact Ar.ext_mod (Classical.not_not.1 hh) _ rfl
  · unfold Ar.setAttrs
    split
    · exact Ar.Ext.refl A
    · rename_i hh
      split
      · exact Ar.Ext.refl A
      · split
        · exact Ar.Ext.refl A
        · exact Ar.ext_mod (Classical.not_not.1 hh) _ rfl
  · unfold Ar.setQuirks
    split
    · exact Ar.Ext.refl A
    · rename_i hh
      split
      · exact Ar.Ext.refl A
      · exact Ar.ext_mod (Classical.not_not.1 hh) _ rfl
  · unfold Ar.setDoc
    split
    · exact Ar.Ext.refl A
    · rename_i hh
      split
      · exact Ar.Ext.refl A
      · exact Ar.ext_mod (Classical.not_not.1 (fun e => hh (.inl e))) _ rfl
theorem Ar.Inv.ext_step {A : Ar} (hI : A.Inv) (x : OpD) : A.Ext (A.step x).2 := by
  refine step_rec (P := fun r => A.Ext r.2) ?_ ?_ ?_ ?_ ?_ ?_ ?_ ?_ ?_ ?_ ?_ ?_ ?_ ?_ <;> intro _
  · exact Ar.ext_add A _
  · exact Ar.ext_make A _ _
  · exact Ar.ext_element A _ _ _ _
  · exact Ar.ext_make A _ _
  · exact Ar.ext_make A _ _
  · exact Ar.ext_make A _ _
  · exact Ar.ext_inertCall A _
  · exact hI.ext_put _ _ _
  · dsimp only; unfold Ar.cutCall; split
    · rename_i hh; exact hI.ext_cut hh
    · exact Ar.Ext.refl A
  · exact (Ar.ext_set _ _ [] false 0).1
  · exact (Ar.ext_set _ ByteArray.empty _ false 0).2.1
  · exact (Ar.ext_set _ ByteArray.empty [] _ 0).2.2.1
  · exact (Ar.ext_set _ ByteArray.empty [] false _).2.2.2
  · exact Ar.Ext.refl A

theorem mod_len (A : Ar) (x : Int) (f : Nd → Nd) : (A.mod x f).ns.length = A.ns.length := by simp [Ar.mod]
theorem add_len (A : Ar) (n : Nd) : (A.add n).ns.length = A.ns.length + 1 := by simp [Ar.add]
theorem make_len (A : Ar) (d : Int) (n : Nd) : (A.make d n).2.ns.length ≤ A.ns.length + 3 := by
  unfold Ar.make; split
  · exact Nat.le_add_right _ _
  · rw [add_len]; omega
theorem step_len (A : Ar) (x : OpD) : (A.step x).2.ns.length ≤ A.ns.length + 3 := by
  have hcut : ∀ h, (A.cut h).ns.length = A.ns.length := Ar.cut_ns A
  refine step_rec (P := fun r => r.2.ns.length ≤ A.ns.length + 3) ?_ ?_ ?_ ?_ ?_ ?_ ?_ ?_ ?_ ?_ ?_ ?_ ?_ ?_ <;> intro _
  · dsimp only [Ar.document]; rw [add_len]; omega
  · exact make_len A _ _
  · unfold Ar.element
    split
    · exact Nat.le_add_right _ _
    · split
      · exact Nat.le_add_right _ _
      · dsimp only
        split
        · rw [mod_len, add_len]
          refine Nat.le_trans (Nat.succ_le_succ (Ar.inertOf_len _ _).2) ?_
          rw [add_len]; omega
        · rw [add_len]; omega
  · exact make_len A _ _
  · exact make_len A _ _
  · exact make_len A _ _
  · unfold Ar.inertCall; split
    · exact Nat.le_add_right _ _
    · have := (Ar.inertOf_len A x.a).2; dsimp only; omega
  · dsimp only; unfold Ar.put; split
    · exact Nat.le_add_right _ _
    · have := Ar.place_n A x.a x.b x.c; unfold Ar.n at this; dsimp only; omega
  · dsimp only; unfold Ar.cutCall; split
    · dsimp only; rw [hcut]; omega
    · exact Nat.le_add_right _ _
  · dsimp only; unfold Ar.setData; repeat' split
    all_goals (dsimp only; try rw [mod_len]); try omega
    all_goals exact Nat.le_add_right _ _
  · dsimp only; unfold Ar.setAttrs; repeat' split
    all_goals (dsimp only; try rw [mod_len]); try omega
    all_goals exact Nat.le_add_right _ _
  · dsimp only; unfold Ar.setQuirks; repeat' split
    all_goals (dsimp only; try rw [mod_len]); try omega
    all_goals exact Nat.le_add_right _ _
  · dsimp only; unfold Ar.setDoc; repeat' split
    all_goals (dsimp only; try rw [mod_len]); try omega
    all_goals exact Nat.le_add_right _ _
  · exact Nat.le_add_right _ _

/-- The arena that operations make. -/
def runL (l : List OpD) : Ar := l.foldl (fun A x => (A.step x).2) Ar.new

theorem run_snoc (l : List OpD) (x : OpD) : runL (l ++ [x]) = ((runL l).step x).2 := by simp [runL, List.foldl_append]
theorem run_take {l : List OpD} {k : Nat} {x : OpD} (hx : l[k]? = some x) : runL (l.take (k + 1)) = ((runL (l.take k)).step x).2 := by
  have hk := (List.getElem?_eq_some_iff.1 hx).1
  rw [List.take_succ_eq_append_getElem hk, run_snoc]
  have := (List.getElem?_eq_some_iff.1 hx).2
  rw [this]
theorem run_inv : ∀ {k : Nat} {l : List OpD}, (∀ x ∈ l, x.attrs.length ≤ 20) → k ≤ l.length → (runL (l.take k)).Inv ∧ (runL (l.take k)).ns.length ≤ 3 * k
  | 0, l, _, _ => ⟨by simpa [runL] using inv_new, by simp [runL, Ar.new]⟩
  | k + 1, l, h, hk => by
    obtain ⟨x, hx⟩ : ∃ x, l[k]? = some x := ⟨_, List.getElem?_eq_getElem (by omega)⟩
    obtain ⟨q1, q2⟩ := run_inv (k := k) h (by omega)
    rw [run_take hx]
    exact ⟨q1.step x (h x (List.mem_of_getElem? hx)), by have := step_len (runL (l.take k)) x; omega⟩
end Go.Proofs.YtnfdcfagdidmhaaGreatDoor

/- The law's Small, SmallOp, SmallAttrs. -/
namespace Go.Proofs.YtnfdcfagdidmhaaGreatDoor
open Go.RowKit
set_option linter.unusedVariables false

def attrSmall (a : AttrD) : Prop := a.2.1.size ≤ 400 ∧ a.2.2.size ≤ 400
instance (a : AttrD) : Decidable (attrSmall a) := inferInstanceAs (Decidable (_ ∧ _))
def smallAttrs (l : List AttrD) : Prop := l.length ≤ 20 ∧ ∀ a ∈ l, attrSmall a
instance (l : List AttrD) : Decidable (smallAttrs l) := inferInstanceAs (Decidable (_ ∧ _))
def smallOp (x : OpD) : Prop := x.name.size ≤ 400 ∧ x.s.size ≤ 400 ∧ x.t.size ≤ 400 ∧ smallAttrs x.attrs
instance (x : OpD) : Decidable (smallOp x) := inferInstanceAs (Decidable (_ ∧ _))
def smallOps (l : List OpD) (most : Int) : Prop := (l.length : Int) ≤ most ∧ ∀ x ∈ l, smallOp x
instance (l : List OpD) (most : Int) : Decidable (smallOps l most) := inferInstanceAs (Decidable (_ ∧ _))

theorem SmallAttrs_any (v : Value) (l : List AttrD) (w : World) (hv : RAttrs w v l) :
    Calls Tryz.prog 50 #[v] w fun e w' => e = .returned (.bool (decide (smallAttrs l))) ∧ w = w' := by
  obtain ⟨av, cv, rfl, hc1, hc2, hc3⟩ := hv.form
  go_enter Tryz.func50, Tryz.ntmps50
  go_wp2
  go_loop [3] (fun i => ∃ k : Nat, k ≤ l.length ∧ i = .int .i64 k ∧ Hid (k ≤ 21 ∧ ∀ j x, j < k → l[j]? = some x → attrSmall x)) (fun i => l.length - (intOf i).toNat)
  case atStart => exact ⟨0, Nat.zero_le _, rfl, by omega, fun j x hj => by omega⟩
  case round =>
    obtain ⟨k, hk, rfl, hT⟩ := hrel
    by_cases hlt : k < l.length
    · by_cases h20 : k ≤ 20
      · obtain ⟨b1, o1, rfl, hcs⟩ := hc3 (by omega)
        obtain ⟨x, hx⟩ : ∃ x, l[k]? = some x := ⟨_, List.getElem?_eq_getElem hlt⟩
        obtain ⟨-, c1, c2⟩ := hcs k x hx
        clear hc3 hcs
        have hno : ¬ attrSmall x → ¬ smallAttrs l := fun h hall => h (hall.2 x (List.mem_of_getElem? hx))
        have HNO := Lib.hid hno
        have HX := Lib.hid hx
        have h20' : (k : Int) ≤ 20 := by omega
        clear hno hx
        by_cases h1 : (400 : Int) < x.2.1.size
        · go_wp2
          go_ret
          exact ⟨ret_bool (decide_eq_false (HNO.out (fun h => by have := h.1; omega))).symm, rfl⟩
        · by_cases h2 : (400 : Int) < x.2.2.size
          · go_wp2
            go_ret
            exact ⟨ret_bool (decide_eq_false (HNO.out (fun h => by have := h.2; omega))).symm, rfl⟩
          · have h3 : (x.2.1.size : Int) ≤ 400 := by omega
            have h4 : (x.2.2.size : Int) ≤ 400 := by omega
            clear h1 h2
            go_wp2
            go_round
            case rel => exact ⟨k + 1, hlt, by go_num, by omega, fun j y hj hy => by
              by_cases hjk : j < k
              · exact hT.out.2 j y hjk hy
              · have : j = k := by omega
                rw [this, HX.out] at hy
                simp at hy; subst hy
                exact ⟨by omega, by omega⟩⟩
            case measure => simp [intOf]; omega
      · have h20' : (20 : Int) < k := by omega
        have h20n : (20 : Int) < l.length := by omega
        go_wp2
        go_ret
        exact ⟨ret_bool (by rw [decide_eq_false (show ¬ (l.length : Int) ≤ 20 by omega), decide_eq_false (show ¬ smallAttrs l from fun h => by have := h.1; omega)]), rfl⟩
    · have hfin : decide (smallAttrs l) = decide ((l.length : Int) ≤ 20) := by
        have : k = l.length := by omega
        subst this
        rw [Bool.eq_iff_iff]; simp only [decide_eq_true_eq]
        exact ⟨fun h => by have := h.1; omega, fun h => ⟨by omega, fun a ha => by
          obtain ⟨j, hj, rfl⟩ := List.getElem_of_mem ha
          exact hT.out.2 j _ hj (List.getElem?_eq_getElem hj)⟩⟩
      have HF := Lib.hid hfin
      clear hfin
      go_wp2
      go_ret
      exact ⟨ret_bool HF.out.symm, rfl⟩

theorem SmallOp_any (x : OpD) (av : Value) (w : World) (hv : RAttrs w av x.attrs) :
    Calls Tryz.prog 22 #[.agg (x.cells av).toArray] w fun e w' => e = .returned (.bool (decide (smallOp x))) ∧ Below w.heap.size w w' := by
  obtain ⟨kind, a, b2, c, flag, space, name, s, t, attrs⟩ := x
  obtain ⟨aa, ac, rfl, -⟩ := hv.form
  have hB := below_alloc w (.cells (OpD.cells ⟨kind, a, b2, c, flag, space, name, s, t, attrs⟩ (.slice aa attrs.length ac)).toArray 46)
  have hv1 := hv.below hB
  have HC := Lib.hid (SmallAttrs_any _ attrs _ hv1)
  have HB := Lib.hid hB
  clear hB hv hv1
  have hno : (400 : Int) < name.size ∨ (400 : Int) < s.size ∨ (400 : Int) < t.size → ¬ smallOp ⟨kind, a, b2, c, flag, space, name, s, t, attrs⟩ := fun h hh => by
    obtain ⟨h1, h2, h3, -⟩ := hh; dsimp only at h1 h2 h3; omega
  have HNO := Lib.hid hno
  clear hno
  unfold OpD.cells at *
  by_cases h1 : (400 : Int) < name.size
  · have H1 := Lib.hid h1
    go_enter Tryz.func22, Tryz.ntmps22
    go_wp2
    go_ret
    exact ⟨ret_bool (decide_eq_false (HNO.out (.inl H1.out))).symm, HB.out⟩
  · by_cases h2 : (400 : Int) < s.size
    · have H2 := Lib.hid h2
      go_enter Tryz.func22, Tryz.ntmps22
      go_wp2
      go_ret
      exact ⟨ret_bool (decide_eq_false (HNO.out (.inr (.inl H2.out)))).symm, HB.out⟩
    · by_cases h3 : (400 : Int) < t.size
      · have H3 := Lib.hid h3
        go_enter Tryz.func22, Tryz.ntmps22
        go_wp2
        go_ret
        exact ⟨ret_bool (decide_eq_false (HNO.out (.inr (.inr H3.out)))).symm, HB.out⟩
      · have hfin : decide (smallOp ⟨kind, a, b2, c, flag, space, name, s, t, attrs⟩) = decide (smallAttrs attrs) := by
          exact decide_eq_decide.2 ⟨fun h => h.2.2.2, fun h => ⟨by dsimp only; omega, by dsimp only; omega, by dsimp only; omega, h⟩⟩
        have HF := Lib.hid hfin
        clear hfin
        go_enter Tryz.func22, Tryz.ntmps22
        go_wp2_with fail
        refine HC.out.mono ?_
        rintro e w2 ⟨rfl, rfl⟩
        go_wp2
        go_ret
        exact ⟨ret_bool HF.out.symm, HB.out⟩

theorem ROps.form {w : World} {v : Value} {l : List OpD} (h : ROps w v l) : ∃ a c, v = .slice a l.length c ∧ l.length ≤ c ∧ c ≤ 9223372036854775807 ∧ (0 < l.length → ∃ b o, a = some ⟨b, o, none⟩ ∧ ∀ i x, l[i]? = some x → ∃ av, OpF w b (o + i * 10) x av) := h

theorem OpF.facts {w : World} {b o : Nat} {x : OpD} {av : Value} (h : OpF w b o x av) : w.cell? ⟨b, o, none⟩ = some (.int .i64 x.kind) ∧ w.cell? ⟨b, o + 1, none⟩ = some (.int .i64 x.a) ∧ w.cell? ⟨b, o + 2, none⟩ = some (.int .i64 x.b) ∧ w.cell? ⟨b, o + 3, none⟩ = some (.int .i64 x.c) ∧ w.cell? ⟨b, o + 4, none⟩ = some (.bool x.flag) ∧ w.cell? ⟨b, o + 5, none⟩ = some (.int .i64 x.space) ∧ w.cell? ⟨b, o + 6, none⟩ = some (.string x.name) ∧ w.cell? ⟨b, o + 7, none⟩ = some (.string x.s) ∧ w.cell? ⟨b, o + 8, none⟩ = some (.string x.t) ∧ w.cell? ⟨b, o + 9, none⟩ = some av :=
  ⟨h.c 0 _ rfl, h.c 1 _ rfl, h.c 2 _ rfl, h.c 3 _ rfl, h.c 4 _ rfl, h.c 5 _ rfl, h.c 6 _ rfl, h.c 7 _ rfl, h.c 8 _ rfl, h.c 9 _ rfl⟩
theorem OpF.below {w w' : World} {b o : Nat} {x : OpD} {av : Value} (h : OpF w b o x av) (hb : Below w.heap.size w w') : OpF w' b o x av := ⟨fun j v hv => Below.old hb (h.c j v hv), h.at'.below hb⟩

theorem Small_any (v : Value) (l : List OpD) (most : Int) (w : World) (hv : ROps w v l) :
    Calls Tryz.prog 6 #[v, .int .i64 most] w fun e w' => e = .returned (.bool (decide (smallOps l most))) ∧ Below w.heap.size w w' := by
  obtain ⟨av, cv, rfl, hc1, hc2, hc3⟩ := id hv
  have hfin : ∀ k : Nat, k ≤ l.length → (k < l.length → most < k) → (∀ j x, j < k → l[j]? = some x → smallOp x) → decide ((l.length : Int) ≤ most) = decide (smallOps l most) := by
    intro k h1 h2 h3
    refine decide_eq_decide.2 ⟨fun h => ⟨h, fun x hx => ?_⟩, fun h => h.1⟩
    obtain ⟨j, hj, rfl⟩ := List.getElem_of_mem hx
    exact h3 j _ (by omega) (List.getElem?_eq_getElem hj)
  have HF := Lib.hid hfin
  clear hfin
  go_enter Tryz.func6, Tryz.ntmps6
  go_wp2
  go_loopw [5] (fun i wr => ∃ k : Nat, k ≤ l.length ∧ i = .int .i64 k ∧ Hid (∀ j x, j < k → l[j]? = some x → smallOp x) ∧ Below w.heap.size w wr) (fun i _ => l.length - (intOf i).toNat)
  case atStart => exact ⟨0, Nat.zero_le _, rfl, fun j x hj => by omega, Below.refl _ _⟩
  case round =>
    obtain ⟨k, hk, rfl, hT, hB⟩ := hrel
    by_cases hlt : k < l.length
    · by_cases h20 : (k : Int) ≤ most
      · obtain ⟨b1, o1, rfl, hcs⟩ := hc3 (by omega)
        obtain ⟨x, hx⟩ : ∃ x, l[k]? = some x := ⟨_, List.getElem?_eq_getElem hlt⟩
        obtain ⟨av, F⟩ := hcs k x hx
        have F := F.below hB
        obtain ⟨aa, ac, rfl, -⟩ := F.at'.form
        obtain ⟨c0, c1, c2, c3, c4, c5, c6, c7, c8, c9⟩ := F.facts
        have HC := Lib.hid (SmallOp_any x _ wr F.at')
        clear hc3 hcs F
        have hno : ¬ smallOp x → ¬ smallOps l most := fun h hall => h (hall.2 x (List.mem_of_getElem? hx))
        have HNO := Lib.hid hno
        have HX := Lib.hid hx
        clear hno hx
        by_cases h1 : smallOp x
        · have HD := Lib.hid (show decide (smallOp x) = true from decide_eq_true h1)
          have H1 := Lib.hid h1
          clear h1
          go_wp2_with fail
          refine HC.out.mono ?_
          rintro e w2 ⟨rfl, hB2⟩
          rw [HD.out]
          go_wp2
          go_roundw
          case rel => exact ⟨k + 1, hlt, by go_num, fun j y hj hy => by
              by_cases hjk : j < k
              · exact hT.out j y hjk hy
              · have : j = k := by omega
                rw [this, HX.out] at hy
                simp at hy; subst hy
                exact H1.out, hB.trans (hB2.mono hB.size)⟩
          case measure => simp [intOf]; omega
        · have HD := Lib.hid (show decide (smallOp x) = false from decide_eq_false h1)
          have HN := Lib.hid (HNO.out h1)
          clear h1
          go_wp2_with fail
          refine HC.out.mono ?_
          rintro e w2 ⟨rfl, hB2⟩
          rw [HD.out]
          go_wp2
          go_ret
          exact ⟨ret_bool (decide_eq_false HN.out).symm, hB.trans (hB2.mono hB.size)⟩
      · have HH := Lib.hid (show k < l.length → most < k from fun _ => by omega)
        have h20' : most < (k : Int) := by omega
        go_wp2
        go_ret
        exact ⟨ret_bool (HF.out k hk HH.out hT.out), hB⟩
    · have HH := Lib.hid (show k < l.length → most < k from fun h => absurd h hlt)
      go_wp2
      go_ret
      exact ⟨ret_bool (HF.out k hk HH.out hT.out), hB⟩

end Go.Proofs.YtnfdcfagdidmhaaGreatDoor

/- Memory as a list of things that do not overlap: arenas, boxes, rows. No program here. -/
namespace Go.Proofs.YtnfdcfagdidmhaaGreatDoor
open Go.RowKit
set_option linter.unusedVariables false

/-- A thing in memory, with the blocks that it takes. -/
structure Asrt where
  P : World → (Nat → Prop) → Prop
  upd : ∀ {w w' : World} {S F : Nat → Prop}, P w S → Upd F w w' → (∀ k, S k → ¬ F k) → P w' S
  lt : ∀ {w : World} {S : Nat → Prop}, P w S → ∀ k, S k → k < w.heap.size

def Asrt.arena (b : Nat) (A : Ar) : Asrt where
  P w S := ∃ ρ, AMem w ρ b A ∧ ∀ k, S k ↔ ρ k ≠ 0
  upd := by
    rintro w w' S F ⟨ρ, h, hs⟩ hu hF
    exact ⟨ρ, h.upd hu (fun k hk => hF k ((hs k).2 hk)), hs⟩
  lt := by
    rintro w S ⟨ρ, h, hs⟩ k hk
    exact h.1 k ((hs k).1 hk)
def Asrt.refar (b : Nat) (A : Ar) : Asrt where
  P w S := ∃ ρ, RMem w ρ b A ∧ ∀ k, S k ↔ ρ k ≠ 0
  upd := by
    rintro w w' S F ⟨ρ, h, hs⟩ hu hF
    exact ⟨ρ, h.upd hu (fun k hk => hF k ((hs k).2 hk)), hs⟩
  lt := by
    rintro w S ⟨ρ, h, hs⟩ k hk
    exact h.1 k ((hs k).1 hk)
def Asrt.box (g : Nat) (o : Obj) : Asrt where
  P w S := w.heap[g]? = some o ∧ ∀ k, S k ↔ k = g
  upd := by
    rintro w w' S F ⟨h, hs⟩ hu hF
    exact ⟨by rw [hu.block g (lt_of_block h) (hF g ((hs g).2 rfl))]; exact h, hs⟩
  lt := by
    rintro w S ⟨h, hs⟩ k hk
    rw [(hs k).1 hk]; exact lt_of_block h
def Asrt.row (e : TypeId) (size : Nat) (v : Value) (n : Nat) (xs : List Value) : Asrt where
  P w S := w.ownsRow 0 e size v n xs ∧ ∀ k, S k ↔ v.ownBlock = some k
  upd := by
    rintro w w' S F ⟨h, hs⟩ hu hF
    exact ⟨owns_upd h hu (fun k hk => hF k ((hs k).2 hk)), hs⟩
  lt := by
    rintro w S ⟨h, hs⟩ k hk
    exact (owns_block h k ((hs k).1 hk)).2
/-- A list of nodes: their row, and the rows of their lists. -/
def Asrt.nodes (e eA : TypeId) (v : Value) (ns : List Nd) : Asrt where
  P w S := ∃ ρ, NodesM w ρ e eA v ns ∧ (∀ k, S k ↔ ρ k ≠ 0) ∧ ∀ k, ρ k ≠ 0 → k < w.heap.size
  upd := by
    rintro w w' S F ⟨ρ, h, hs, hl⟩ hu hF
    exact ⟨ρ, h.upd hu (fun k hk => hF k ((hs k).2 hk)), hs, fun k hk => Nat.lt_of_lt_of_le (hl k hk) hu.size⟩
  lt := by
    rintro w S ⟨ρ, h, hs, hl⟩ k hk
    exact hl k ((hs k).1 hk)

def Hold (w : World) : List Asrt → (Nat → Prop) → Prop
  | [], S => ∀ k, ¬ S k
  | a :: l, S => ∃ S1 S2, a.P w S1 ∧ Hold w l S2 ∧ (∀ k, S1 k → ¬ S2 k) ∧ ∀ k, S k ↔ S1 k ∨ S2 k

theorem Hold.upd {w w' : World} {F : Nat → Prop} (hu : Upd F w w') : ∀ {l : List Asrt} {S : Nat → Prop}, Hold w l S → (∀ k, S k → ¬ F k) → Hold w' l S
  | [], S, h, _ => h
  | a :: l, S, h, hF => by
    obtain ⟨S1, S2, h1, h2, h3, h4⟩ := h
    exact ⟨S1, S2, a.upd h1 hu (fun k hk => hF k ((h4 k).2 (.inl hk))), Hold.upd hu h2 (fun k hk => hF k ((h4 k).2 (.inr hk))), h3, h4⟩
theorem Hold.lt {w : World} : ∀ {l : List Asrt} {S : Nat → Prop}, Hold w l S → ∀ k, S k → k < w.heap.size
  | [], S, h, k, hk => absurd hk (h k)
  | a :: l, S, h, k, hk => by
    obtain ⟨S1, S2, h1, h2, h3, h4⟩ := h
    rcases (h4 k).1 hk with h | h
    · exact a.lt h1 k h
    · exact Hold.lt h2 k h

/-- The call's own memory begins at B; it began in w0. -/
structure Own (w0 : World) (B : Nat) (l : List Asrt) (w : World) : Prop where
  hold : ∃ S, Hold w l S ∧ ∀ k, S k → B ≤ k
  low : Below B w0 w
  size : B ≤ w0.heap.size

theorem Own.start (w : World) : Own w w.heap.size [] w := ⟨⟨fun _ => False, fun _ h => h, fun _ h => h.elim⟩, Below.refl _ _, Nat.le_refl _⟩
theorem Own.big {w0 w : World} {B : Nat} {l : List Asrt} (h : Own w0 B l w) : B ≤ w.heap.size := Nat.le_trans h.size h.low.size
theorem Own.read {w0 w w' : World} {B : Nat} {l : List Asrt} (h : Own w0 B l w) (hb : Below w.heap.size w w') : Own w0 B l w' := by
  obtain ⟨S, h1, h2⟩ := h.hold
  exact ⟨⟨S, h1.upd (F := fun _ => False) (Upd.below hb) (fun _ _ => id), h2⟩, h.low.trans (hb.mono h.big), h.size⟩
/-- The thing at the front, and what may become of it. -/
theorem Own.front {w0 w : World} {B : Nat} {a : Asrt} {l : List Asrt} (h : Own w0 B (a :: l) w) : ∃ S1, a.P w S1 ∧ ∀ (w' : World) (a' : Asrt), (∃ S', a'.P w' S' ∧ Upd S1 w w' ∧ ∀ k, k < w.heap.size → S' k → S1 k) → Own w0 B (a' :: l) w' := by
  obtain ⟨S, ⟨S1, S2, h1, h2, h3, h4⟩, h5⟩ := h.hold
  refine ⟨S1, h1, ?_⟩
  rintro w' a' ⟨S', m1, m2, m3⟩
  have hlow : Below B w w' := ⟨m2.os, m2.tape, m2.output, m2.size, fun k hk => m2.block k (Nat.lt_of_lt_of_le hk h.big) (fun hf => by have := h5 k ((h4 k).2 (.inl hf)); omega)⟩
  refine ⟨⟨fun k => S' k ∨ S2 k, ⟨S', S2, m1, h2.upd m2 (fun k hk hf => h3 k hf hk), fun k hk hf => h3 k (m3 k (h2.lt k hf) hk) hf, fun k => Iff.rfl⟩, fun k hk => ?_⟩, h.low.trans hlow, h.size⟩
  rcases hk with hk | hk
  · by_cases hlt : k < w.heap.size
    · exact h5 k ((h4 k).2 (.inl (m3 k hlt hk)))
    · have := h.big; omega
  · exact h5 k ((h4 k).2 (.inr hk))
/-- A new thing in new memory. -/
theorem Own.fresh {w0 w w' : World} {B : Nat} {a : Asrt} {l : List Asrt} (h : Own w0 B l w) (hb : Below w.heap.size w w') (ha : ∃ S, a.P w' S ∧ ∀ k, S k → w.heap.size ≤ k) : Own w0 B (a :: l) w' := by
  obtain ⟨S, h1, h2⟩ := (h.read hb).hold
  obtain ⟨S0, h01, _⟩ := h.hold
  obtain ⟨Sa, a1, a2⟩ := ha
  have hlt : ∃ S, Hold w' l S ∧ (∀ k, S k → B ≤ k) ∧ ∀ k, S k → k < w.heap.size := by
    obtain ⟨S, q1, q2⟩ := h.hold
    exact ⟨S, q1.upd (F := fun _ => False) (Upd.below hb) (fun _ _ => id), q2, q1.lt⟩
  obtain ⟨S, q1, q2, q3⟩ := hlt
  refine ⟨⟨fun k => Sa k ∨ S k, ⟨Sa, S, a1, q1, fun k hk hf => by have := a2 k hk; have := q3 k hf; omega, fun k => Iff.rfl⟩, fun k hk => ?_⟩, h.low.trans (hb.mono h.big), h.size⟩
  rcases hk with hk | hk
  · have := a2 k hk; have := h.big; omega
  · exact q2 k hk
theorem Own.drop {w0 w : World} {B : Nat} {a : Asrt} {l : List Asrt} (h : Own w0 B (a :: l) w) : Own w0 B l w := by
  obtain ⟨S, ⟨S1, S2, h1, h2, h3, h4⟩, h5⟩ := h.hold
  exact ⟨⟨S2, h2, fun k hk => h5 k ((h4 k).2 (.inr hk))⟩, h.low, h.size⟩
theorem Own.swap {w0 w : World} {B : Nat} {a b : Asrt} {l : List Asrt} (h : Own w0 B (a :: b :: l) w) : Own w0 B (b :: a :: l) w := by
  obtain ⟨S, ⟨S1, S2, h1, ⟨S3, S4, g1, g2, g3, g4⟩, h3, h4⟩, h5⟩ := h.hold
  refine ⟨⟨S, ⟨S3, fun k => S1 k ∨ S4 k, g1, ⟨S1, S4, h1, g2, fun k hk hf => h3 k hk ((g4 k).2 (.inr hf)), fun k => Iff.rfl⟩, fun k hk hf => ?_, fun k => ?_⟩, h5⟩, h.low, h.size⟩
  · rcases hf with hf | hf
    · exact h3 k hf ((g4 k).2 (.inl hk))
    · exact g3 k hk hf
  · rw [h4 k, g4 k]
    constructor
    · rintro (q | q | q)
      · exact .inr (.inl q)
      · exact .inl q
      · exact .inr (.inr q)
    · rintro (q | q | q)
      · exact .inr (.inl q)
      · exact .inl q
      · exact .inr (.inr q)
/-- The third, the fourth thing to the front. -/
theorem Own.rot3 {w0 w : World} {B : Nat} {a b c : Asrt} {l : List Asrt} (h : Own w0 B (a :: b :: c :: l) w) : Own w0 B (c :: a :: b :: l) w := by
  obtain ⟨S, ⟨S1, S2, h1, h2, h3, h4⟩, h5⟩ := h.hold
  have hin : Own w0 B (b :: c :: l) w := h.drop
  -- the two behind the first are swapped beneath it
  obtain ⟨S3, S4, g1, ⟨S5, S6, k1, k2, k3, k4⟩, g3, g4⟩ := h2
  have h' : Own w0 B (a :: c :: b :: l) w := by
    refine ⟨⟨S, ⟨S1, S2, h1, ⟨S5, fun k => S3 k ∨ S6 k, k1, ⟨S3, S6, g1, k2, fun k hk hf => g3 k hk ((k4 k).2 (.inr hf)), fun k => Iff.rfl⟩, fun k hk hf => ?_, fun k => ?_⟩, h3, h4⟩, h5⟩, h.low, h.size⟩
    · rcases hf with hf | hf
      · exact g3 k hf ((k4 k).2 (.inl hk))
      · exact k3 k hk hf
    · rw [g4 k, k4 k]
      constructor
      · rintro (q | q | q)
        · exact .inr (.inl q)
        · exact .inl q
        · exact .inr (.inr q)
      · rintro (q | q | q)
        · exact .inr (.inl q)
        · exact .inl q
        · exact .inr (.inr q)
  exact h'.swap
/-- One of the things. -/
theorem Hold.mem {w : World} : ∀ {l : List Asrt} {S : Nat → Prop} {a : Asrt}, Hold w l S → a ∈ l → ∃ S', a.P w S' ∧ ∀ k, S' k → S k
  | [], _, _, _, hm => by simp at hm
  | b :: l, S, a, h, hm => by
    obtain ⟨S1, S2, h1, h2, h3, h4⟩ := h
    rcases List.mem_cons.1 hm with rfl | hm
    · exact ⟨S1, h1, fun k hk => (h4 k).2 (.inl hk)⟩
    · obtain ⟨S', q1, q2⟩ := Hold.mem h2 hm
      exact ⟨S', q1, fun k hk => (h4 k).2 (.inr (q2 k hk))⟩
theorem Own.get {w0 w : World} {B : Nat} {l : List Asrt} {a : Asrt} (h : Own w0 B l w) (hm : a ∈ l) : ∃ S, a.P w S ∧ ∀ k, S k → B ≤ k := by
  obtain ⟨S, h1, h2⟩ := h.hold
  obtain ⟨S', q1, q2⟩ := h1.mem hm
  exact ⟨S', q1, fun k hk => h2 k (q2 k hk)⟩
theorem Own.arena {w0 w : World} {B b : Nat} {A : Ar} {l : List Asrt} (h : Own w0 B l w) (hm : Asrt.arena b A ∈ l) : ∃ ρ, AMem w ρ b A := by
  obtain ⟨S, ⟨ρ, h1, _⟩, _⟩ := h.get hm
  exact ⟨ρ, h1⟩
theorem Own.box {w0 w : World} {B g : Nat} {o : Obj} {l : List Asrt} (h : Own w0 B l w) (hm : Asrt.box g o ∈ l) : w.heap[g]? = some o := by
  obtain ⟨S, ⟨h1, _⟩, _⟩ := h.get hm
  exact h1
theorem Own.row {w0 w : World} {B : Nat} {e : TypeId} {size : Nat} {v : Value} {n : Nat} {xs : List Value} {l : List Asrt} (h : Own w0 B l w) (hm : Asrt.row e size v n xs ∈ l) : w.ownsRow B e size v n xs := by
  obtain ⟨S, ⟨h1, h2⟩, h3⟩ := h.get hm
  refine ⟨h1.1, ?_⟩
  rcases h1.2 with q | ⟨g, cap, cur, rfl, q1, q2⟩
  · exact .inl q
  · exact .inr ⟨g, cap, cur, rfl, h3 g ((h2 g).2 rfl), q2⟩
/-- A new box. -/
theorem Own.alloc {w0 w : World} {B : Nat} {l : List Asrt} (h : Own w0 B l w) (o : Obj) : Own w0 B (.box w.heap.size o :: l) (w.alloc o) :=
  h.fresh (below_alloc w o) ⟨fun k => k = w.heap.size, ⟨heap_alloc_new w o, fun _ => Iff.rfl⟩, fun k hk => by omega⟩
/-- A new row. -/
theorem Own.newRow {w0 w w' : World} {B : Nat} {e : TypeId} {size : Nat} {v : Value} {n : Nat} {xs : List Value} {l : List Asrt} (h : Own w0 B l w) (hb : Below w.heap.size w w') (ho : w'.ownsRow w.heap.size e size v n xs) : Own w0 B (.row e size v n xs :: l) w' :=
  h.fresh hb ⟨fun k => v.ownBlock = some k, ⟨owns_base ho (Nat.zero_le _), fun _ => Iff.rfl⟩, fun k hk => (owns_block ho k hk).1⟩
/-- The box at the front is written. -/
theorem Own.setBox {w0 w w' : World} {B g : Nat} {o o' : Obj} {l : List Asrt} (h : Own w0 B (.box g o :: l) w) (hu : Upd (fun k => k = g) w w') (ho : w'.heap[g]? = some o') : Own w0 B (.box g o' :: l) w' :=
  let ⟨S, ⟨_, h2⟩, hf⟩ := h.front
  hf w' _ ⟨S, ⟨ho, h2⟩, hu.mono (fun k _ hk => (h2 k).2 hk), fun k _ hk => hk⟩

end Go.Proofs.YtnfdcfagdidmhaaGreatDoor

/- The law's Run. -/
namespace Go.Proofs.YtnfdcfagdidmhaaGreatDoor
open Go.RowKit
set_option linter.unusedVariables false

/-- A call on the arena at the front. -/
theorem Own.call {w0 w : World} {B b : Nat} {A A' : Ar} {l : List Asrt} {v : Value} {f : Nat} {args : Array Value} (h : Own w0 B (.arena b A :: l) w) (hc : ∀ ρ, AMem w ρ b A → Calls Tryz.prog f args w (AddR A' ρ b w v)) :
    Calls Tryz.prog f args w fun e w' => e = .returned v ∧ Own w0 B (.arena b A' :: l) w' := by
  obtain ⟨S, ⟨ρ, hA, hS⟩, hf⟩ := h.front
  refine (hc ρ hA).mono ?_
  rintro e w' ⟨rfl, ρ', hA', hT⟩
  exact ⟨rfl, hf w' _ ⟨fun k => ρ' k ≠ 0, ⟨ρ', hA', fun _ => Iff.rfl⟩, hT.upd.mono (fun k _ hk => (hS k).2 hk), fun k hk hp => (hS k).2 (by rw [← hT.role k hk]; exact hp)⟩⟩
theorem Own.newArena {w0 w : World} {B : Nat} {l : List Asrt} (h : Own w0 B l w) : Own w0 B (.arena w.heap.size Ar.new :: l) (w.alloc (.cells #[.slice none 0 0, .map none] 51)) :=
  h.fresh (below_alloc w _) ⟨fun k => newRoles w.heap.size k ≠ 0, ⟨newRoles w.heap.size, AMem.new w, fun _ => Iff.rfl⟩, fun k hk => by
    dsimp only [newRoles] at hk
    by_cases e : k = w.heap.size
    · omega
    · rw [if_neg e] at hk; exact absurd rfl hk⟩

theorem Run_any (v : Value) (l : List OpD) (w : World) (hv : ROps w v l) (hlen : l.length ≤ 1000) (hsm : ∀ x ∈ l, x.attrs.length ≤ 20) :
    Calls Tryz.prog 11 #[v] w fun e w' => e = .returned (.pointer (some ⟨w.heap.size, 0, none⟩)) ∧ Own w w.heap.size [.arena w.heap.size (runL l)] w' := by
  obtain ⟨av, cv, rfl, hc1, hc2, hc3⟩ := id hv
  have HN := Lib.hid (New_any w)
  go_enter Tryz.func11, Tryz.ntmps11
  go_wp2_with fail
  refine HN.out.mono ?_
  rintro e w1 ⟨rfl, hw1⟩
  have hO := Lib.hid (Own.start w).newArena
  rw [← hw1] at hO
  clear hw1 HN
  go_wp2
  go_loopw [4] (fun i wr => ∃ k : Nat, k ≤ l.length ∧ i = .int .i64 k ∧ Hid (Own w w.heap.size [.arena w.heap.size (runL (l.take k))] wr)) (fun i _ => l.length - (intOf i).toNat)
  case atStart => exact ⟨0, Nat.zero_le _, rfl, hO⟩
  case round =>
    obtain ⟨k, hk, rfl, hT⟩ := hrel
    by_cases hlt : k < l.length
    · obtain ⟨b1, o1, rfl, hcs⟩ := hc3 (by omega)
      obtain ⟨x, hx⟩ : ∃ x, l[k]? = some x := ⟨_, List.getElem?_eq_getElem hlt⟩
      obtain ⟨av, F⟩ := hcs k x hx
      have F := F.below hT.out.low
      obtain ⟨aa, ac, rfl, -⟩ := F.at'.form
      obtain ⟨c0, c1, c2, c3, c4, c5, c6, c7, c8, c9⟩ := F.facts
      obtain ⟨q1, q2⟩ := run_inv hsm (Nat.le_of_lt hlt)
      have hxs := hsm x (List.mem_of_getElem? hx)
      have HC := Lib.hid (hT.out.call (fun ρ hA => Do_any _ ρ _ x _ wr hA q1.wf F.at' (by omega) (by omega)))
      have HX := Lib.hid (run_take hx)
      clear hc3 hcs F q1 q2 hx hT
      go_wp2_with fail
      refine HC.out.mono ?_
      rintro e w2 ⟨rfl, hO2⟩
      rw [← HX.out] at hO2
      have HO2 := Lib.hid hO2
      clear hO2
      unfold pairV
      go_wp2
      go_roundw
      case rel => exact ⟨k + 1, hlt, by go_num, HO2⟩
      case measure => simp [intOf]; omega
    · have hO2 := hT.out
      have : k = l.length := by omega
      rw [this, List.take_length] at hO2
      have HO2 := Lib.hid hO2
      clear hO2 hT this
      go_wp2
      go_ret
      exact ⟨rfl, HO2.out⟩

end Go.Proofs.YtnfdcfagdidmhaaGreatDoor

/- What the calls of the chapter's first examples do, computed. No walk here. -/
namespace Go.Proofs.YtnfdcfagdidmhaaGreatDoor

def kn1 : Ar := Ar.new.document false
def kn2 : Ar := (kn1.element 1 1 ⟨#[116, 101, 109, 112, 108, 97, 116, 101]⟩ []).2
def kn3 : Ar := (kn2.element 1 1 ⟨#[112]⟩ []).2
def kn4 : Ar := (kn3.put 4 5 0).2

theorem kn_a : Ar.new.n + 1 = 1 ∧ (kn1.element 1 1 ⟨#[116, 101, 109, 112, 108, 97, 116, 101]⟩ []).1 = (2, 0) := by decide +kernel
theorem kn_b : kn2.has 2 ∧ (kn2.get 2).contents = 4 ∧ kn2.has 4 ∧ (kn2.get 4).host = 2 ∧ (kn2.get 4).doc = 3 ∧ kn2.n = 4 := by decide +kernel
theorem kn_c : (kn2.element 1 1 ⟨#[112]⟩ []).1 = (5, 0) := by decide +kernel
theorem kn_d : (kn3.put 4 5 0).1 = 0 := by decide +kernel
theorem kn_e : (kn4.put 5 2 0).1 = 4 ∧ (kn4.put 4 2 0).1 = 4 := by decide +kernel
theorem kn_f : kn4.contains 2 5 = true ∧ kn4.root 5 = 4 := by decide +kernel
theorem kn_len : kn1.ns.length = 1 ∧ kn2.ns.length = 4 ∧ kn3.ns.length = 5 ∧ kn4.ns.length = 5 := by decide +kernel
theorem put_err {A : Ar} {p n b : Int} (h : (A.put p n b).1 ≠ 0) : (A.put p n b).2 = A := by
  unfold Ar.put at h ⊢
  split
  · rfl
  · rename_i h2; rw [if_neg h2] at h; exact absurd rfl h
theorem kn_i1 : kn1.Inv := Ar.InvX.document inv_new false
theorem kn_i2 : kn2.Inv := Ar.Inv.element kn_i1 _ _ _ _ (by simp)
theorem kn_i3 : kn3.Inv := Ar.Inv.element kn_i2 _ _ _ _ (by simp)
theorem kn_i4 : kn4.Inv := Ar.Inv.put kn_i3 _ _ _

theorem Ar.Inv.short {A : Ar} (hI : A.Inv) (h : A.ns.length ≤ 1000000) : A.Short := by
  refine ⟨h, fun n hn => ?_⟩
  obtain ⟨i, hi, rfl⟩ := List.getElem_of_mem hn
  have hh : A.has ((i : Int) + 1) := ⟨by omega, by unfold Ar.n; omega⟩
  have hg : A.get ((i : Int) + 1) = A.ns[i] := by
    simp [Ar.get, hi]
  rw [← hg]
  exact ⟨Nat.le_trans (Ar.kids_len hI.wf hh) h, Nat.le_trans (hI.loc _ hh).at3 (by omega)⟩

end Go.Proofs.YtnfdcfagdidmhaaGreatDoor

/- The law's known. -/
namespace Go.Proofs.YtnfdcfagdidmhaaGreatDoor
open Go.RowKit
set_option linter.unusedVariables false

theorem nilAttrs (w : World) : RAttrs w (.slice none 0 0) [] := ⟨rfl, none, 0, rfl, Nat.le_refl _, Nat.zero_le _, fun h => absurd h (by simp)⟩

/-- A call whose outcome is known. -/
theorem Own.callE {w0 w : World} {B b : Nat} {A A' : Ar} {l : List Asrt} {v v' : Value} {f : Nat} {args : Array Value} (h : Own w0 B (.arena b A :: l) w) (hc : ∀ ρ, AMem w ρ b A → Calls Tryz.prog f args w (AddR A' ρ b w v)) {A2 : Ar} (hA : A' = A2) (hv : v = v') :
    Calls Tryz.prog f args w fun e w' => e = .returned v' ∧ Own w0 B (.arena b A2 :: l) w' := by
  subst hA; subst hv; exact h.call hc

/-- The zero description's cells, as the walk writes them. -/
abbrev zcells : Array Value := #[.int .i64 0, .int .i64 0, .slice none 0 0, .int .i64 0, .int .i64 0, .string ⟨#[]⟩, .slice none 0 0, .string ⟨#[]⟩, .string ⟨#[]⟩, .string ⟨#[]⟩, .bool false, .int .i64 0, .int .i64 0]

/-- A description is kept in a box of its own. -/
theorem Own.nodeBox {w0 w : World} {B : Nat} {l : List Asrt} (o : Own w0 B l w) (n : Nd) (kv av : Value) :
    Own w0 B (.box w.heap.size (.cells (n.cells kv av).toArray 56 (0, 0)) :: l) ((w.alloc (.cells zcells 56)).setCells w.heap.size 0 (n.cells kv av)) := by
  have o1 := o.alloc (.cells zcells 56)
  have hz : (w.alloc (.cells zcells 56)).heap[w.heap.size]? = some (.cells zcells 56 (0, 0)) := heap_alloc_new w _
  refine o1.setBox ((Upd.refl (fun k => k = w.heap.size) _).setCells (b := w.heap.size) (.inr rfl) 0 (n.cells kv av)) ?_
  exact box_written n kv av hz rfl
theorem nodeBox_facts {w : World} (n : Nd) (ka kc aa ac : _) (kl al : Nat) :
    (w.alloc (.cells zcells 56)).there w.heap.size 0 (n.cells (.slice ka kl kc) (.slice aa al ac)).toArray.size ∧ ∀ u ∈ n.cells (.slice ka kl kc) (.slice aa al ac), u.oneCell' = true :=
  ⟨box_there n _ _ (heap_alloc_new w _) rfl, cellsOneCell n _ _ rfl rfl⟩

theorem Node_own {w0 w : World} {B b : Nat} {A : Ar} {l : List Asrt} {h : Int} {n : Nd} (o : Own w0 B l w) (hm : Asrt.arena b A ∈ l) (hS : A.Short) (hh : A.has h) (hn : A.get h = n) :
    Calls Tryz.prog 24 #[.pointer (some ⟨b, 0, none⟩), .int .i64 h] w fun e w' => ∃ ka kl kc aa al ac, e = .returned (.tuple #[.agg (n.cells (.slice ka kl kc) (.slice aa al ac)).toArray, .int .i64 0]) ∧ Own w0 B l w' ∧ Below w.heap.size w w' := by
  subst hn
  obtain ⟨ρ, hA⟩ := o.arena hm
  refine (Node_any A ρ b h w hA hS).mono ?_
  rintro e w' ⟨hB, kv, av, rfl, h1, h2⟩
  obtain ⟨ka, kc, rfl⟩ := ownsForm h1
  obtain ⟨aa, ac, rfl⟩ := ownsForm h2
  rw [if_pos hh, if_pos hh]
  exact ⟨ka, _, kc, aa, _, ac, rfl, o.read hB, hB⟩

set_option maxRecDepth 100000 in
set_option maxHeartbeats 400000 in
theorem known_aux (A1 A2 A3 A4 : Ar) (n2 n4 : Nd) (i1 : A1.Inv) (i2 : A2.Inv) (i3 : A3.Inv) (i4 : A4.Inv) (l1 : A1.ns.length = 1) (l2 : A2.ns.length = 4) (l3 : A3.ns.length = 5) (l4 : A4.ns.length = 5)
    (e0 : Ar.new.document false = A1) (e0' : Ar.new.n + 1 = 1) (e1 : A1.element 1 1 ⟨#[116, 101, 109, 112, 108, 97, 116, 101]⟩ [] = ((2, 0), A2)) (e2 : A2.element 1 1 ⟨#[112]⟩ [] = ((5, 0), A3)) (e3 : A3.put 4 5 0 = (0, A4)) (e4 : A4.put 5 2 0 = (4, A4)) (e5 : A4.put 4 2 0 = (4, A4)) (e6 : A4.contains 2 5 = true) (e7 : A4.root 5 = 4)
    (x2 : A2.get 2 = n2) (x2c : n2.contents = 4) (x4 : A2.get 4 = n4) (x4h : n4.host = 2) (x4d : n4.doc = 3) (h2 : A2.has 2) (h4 : A2.has 4) (hn : A2.n = 4) (w : World) : Calls Tryz.prog 7 #[] w fun e w' => e = .returned (.bool true) ∧ Below w.heap.size w w' := by
  have HN := Lib.hid (New_any w)
  have HO := Lib.hid (Own.start w).newArena
  go_enter Tryz.func7, Tryz.ntmps7
  go_wp2_with fail
  refine HN.out.mono ?_
  rintro e w1 ⟨rfl, rfl⟩
  have o1 := HO.out
  clear HN HO
  generalize hw1 : w.alloc _ = w1 at o1 ⊢
  clear hw1
  go_wp2_with fail
  refine (o1.callE (fun ρ hA => Document_any _ ρ _ false _ hA (by simp [Ar.new])) e0 (by rw [e0'])).mono ?_
  rintro e w2 ⟨rfl, o2⟩
  clear o1
  go_wp2_with fail
  refine (o2.callE (fun ρ hA => Element_any A1 ρ _ 1 1 ⟨#[116, 101, 109, 112, 108, 97, 116, 101]⟩ _ [] _ hA (nilAttrs _) (by omega) (by simp)) (v' := pairV (2, 0)) (by rw [e1]) (by rw [e1])).mono ?_
  rintro e w3 ⟨rfl, o3⟩
  clear o2
  unfold pairV
  go_wp2_with fail
  refine (Node_own o3 (by simp) (i2.short (by omega)) h2 x2).mono ?_
  rintro e w4 ⟨ka, kl, kc, aa, al, ac, rfl, o4, -⟩
  clear o3
  have HT := Lib.hid (nodeBox_facts (w := w4) n2 ka kc aa ac kl al)
  have o5 := o4.nodeBox n2 (.slice ka kl kc) (.slice aa al ac)
  go_wp2_with ((with_reducible refine wpList_store_mid ?_ 56 (.tmp 5) (.tmp 23) ?_ w4.heap.size 0 (n2.cells (.slice ka kl kc) (.slice aa al ac)).toArray ?_ ?_ ?_ ?_ ?_ ?_); exact rfl; exact rfl; exact rfl; exact rfl; exact HT.out.1; exact sizeNode _ _ _; exact all_oneCell_toArray HT.out.2)
  clear o4 HT
  generalize hw5 : World.setCells _ _ _ _ = w5 at o5 ⊢
  generalize hg4 : w4.heap.size = g4 at o5 ⊢
  clear hw5 hg4
  refine (Node_own o5 (by simp) (i2.short (by omega)) h4 x4).mono ?_
  rintro e w6 ⟨ka6, kl6, kc6, aa6, al6, ac6, rfl, o6, -⟩
  clear o5
  have HT := Lib.hid (nodeBox_facts (w := w6) n4 ka6 kc6 aa6 ac6 kl6 al6)
  have o7 := o6.nodeBox n4 (.slice ka6 kl6 kc6) (.slice aa6 al6 ac6)
  go_wp2_with ((with_reducible refine wpList_store_mid ?_ 56 (.tmp 7) (.tmp 28) ?_ w6.heap.size 0 (n4.cells (.slice ka6 kl6 kc6) (.slice aa6 al6 ac6)).toArray ?_ ?_ ?_ ?_ ?_ ?_); exact rfl; exact rfl; exact rfl; exact rfl; exact HT.out.1; exact sizeNode _ _ _; exact all_oneCell_toArray HT.out.2)
  clear o6 HT
  generalize hw7 : World.setCells _ _ _ _ = w7 at o7 ⊢
  generalize hg6 : w6.heap.size = g6 at o7 ⊢
  clear hw7 hg6
  obtain ⟨ρ7, hA7⟩ := o7.arena (b := w.heap.size) (A := A2) (by simp)
  obtain ⟨a7, c7, mv7, h07, -⟩ := hA7.head
  refine (len_any A2 _ a7 c7 w7 h07).mono ?_
  rintro e w8 ⟨rfl, rfl⟩
  clear hA7 h07
  rw [hn]
  go_wp2_with fail
  have o7' := o7.rot3
  clear o7
  refine (o7'.callE (fun ρ hA => Element_any A2 ρ _ 1 1 ⟨#[112]⟩ _ [] _ hA (nilAttrs _) (by omega) (by simp)) (v' := pairV (5, 0)) (by rw [e2]) (by rw [e2])).mono ?_
  rintro e w8 ⟨rfl, o8⟩
  clear o7'
  unfold pairV
  have b4 := o8.box (g := g4) (o := .cells (n2.cells (.slice ka kl kc) (.slice aa al ac)).toArray 56 (0, 0)) (by simp)
  have b6 := o8.box (g := g6) (o := .cells (n4.cells (.slice ka6 kl6 kc6) (.slice aa6 al6 ac6)).toArray 56 (0, 0)) (by simp)
  have q1 : w8.cell? ⟨g4, 11, none⟩ = some (.int .i64 4) := by rw [cell_of_row w8 _ _ _ _ _ b4, ← x2c]; rfl
  have q2 : w8.cell? ⟨g6, 12, none⟩ = some (.int .i64 2) := by rw [cell_of_row w8 _ _ _ _ _ b6, ← x4h]; rfl
  have q3 : w8.cell? ⟨g6, 3, none⟩ = some (.int .i64 3) := by rw [cell_of_row w8 _ _ _ _ _ b6, ← x4d]; rfl
  clear b4 b6
  go_wp2_with fail
  refine (o8.callE (fun ρ hA => Put_any A3 ρ _ 4 5 0 _ hA i3.wf (by omega)) (v' := .int .i64 0) (by rw [e3]) (by rw [e3])).mono ?_
  rintro e w9 ⟨rfl, o9⟩
  clear o8 q1 q2 q3
  go_wp2_with fail
  refine (o9.callE (fun ρ hA => Put_any A4 ρ _ 5 2 0 _ hA i4.wf (by omega)) (v' := .int .i64 4) (by rw [e4]) (by rw [e4])).mono ?_
  rintro e w10 ⟨rfl, o10⟩
  clear o9
  go_wp2_with fail
  refine (o10.callE (fun ρ hA => Put_any A4 ρ _ 4 2 0 _ hA i4.wf (by omega)) (v' := .int .i64 4) (by rw [e5]) (by rw [e5])).mono ?_
  rintro e w11 ⟨rfl, o11⟩
  clear o10
  go_wp2_with fail
  obtain ⟨ρ11, hA11⟩ := o11.arena (b := w.heap.size) (A := A4) (by simp)
  refine (Contains_all A4 ρ11 _ 2 5 _ hA11 i4.wf).mono ?_
  rintro e w12 ⟨rfl, hB12⟩
  have o12 := o11.read hB12
  clear o11 hA11 hB12
  rw [e6]
  go_wp2_with fail
  obtain ⟨ρ12, hA12⟩ := o12.arena (b := w.heap.size) (A := A4) (by simp)
  refine (Root_all A4 ρ12 _ 5 _ hA12 i4.wf).mono ?_
  rintro e w13 ⟨rfl, hB13⟩
  have o13 := o12.read hB13
  clear o12 hA12 hB13
  rw [e7]
  have HL := Lib.hid o13.low
  clear o13
  go_wp2
  go_ret
  exact ⟨rfl, HL.out⟩

theorem known_any (w : World) : Calls Tryz.prog 7 #[] w fun e w' => e = .returned (.bool true) ∧ Below w.heap.size w w' :=
  known_aux kn1 kn2 kn3 kn4 _ _ kn_i1 kn_i2 kn_i3 kn_i4 kn_len.1 kn_len.2.1 kn_len.2.2.1 kn_len.2.2.2 rfl kn_a.1 (Prod.ext kn_a.2 rfl) (Prod.ext kn_c rfl) (Prod.ext kn_d rfl)
    (Prod.ext kn_e.1 (put_err (by rw [kn_e.1]; decide))) (Prod.ext kn_e.2 (put_err (by rw [kn_e.2]; decide))) kn_f.1 kn_f.2 rfl kn_b.2.1 rfl kn_b.2.2.2.1 kn_b.2.2.2.2.1 kn_b.1 kn_b.2.2.1 kn_b.2.2.2.2.2 w

end Go.Proofs.YtnfdcfagdidmhaaGreatDoor
