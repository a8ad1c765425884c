/-
  The law's Do: an operation as data, what it does, its contract. (Printed by gendo.py.)
-/
import Derived.Test.YtnfdcfagdidmhaaP22
namespace Go.Proofs.Ytnfdcfagdidmhaa
open Go.RowKit
set_option linter.unusedVariables false

/-- An operation. -/
structure OpD where
  kind : Int
  a : Int
  b : Int
  c : Int
  flag : Bool
  space : Int
  name : ByteArray
  s : ByteArray
  t : ByteArray
  attrs : List AttrD

def OpD.cells (x : OpD) (av : Value) : List Value := [.int .i64 x.kind, .int .i64 x.a, .int .i64 x.b, .int .i64 x.c, .bool x.flag, .int .i64 x.space, .string x.name, .string x.s, .string x.t, av]

/-- What an operation does. -/
def Ar.step (A : Ar) (x : OpD) : (Int × Int) × Ar :=
  if x.kind = 1 then ((A.n + 1, 0), A.document x.flag)
  else if x.kind = 2 then A.make x.a (docTypeNd x.name x.s x.t)
  else if x.kind = 3 then A.element x.a x.space x.name x.attrs
  else if x.kind = 4 then A.make x.a (textNd x.s)
  else if x.kind = 5 then A.make x.a (commentNd x.s)
  else if x.kind = 6 then A.make x.a fragNd
  else if x.kind = 7 then A.inertCall x.a
  else if x.kind = 8 then ((0, (A.put x.a x.b x.c).1), (A.put x.a x.b x.c).2)
  else if x.kind = 9 then ((0, (A.cutCall x.a).1), (A.cutCall x.a).2)
  else if x.kind = 10 then ((0, (A.setData x.a x.s).1), (A.setData x.a x.s).2)
  else if x.kind = 11 then ((0, (A.setAttrs x.a x.attrs).1), (A.setAttrs x.a x.attrs).2)
  else if x.kind = 12 then ((0, (A.setQuirks x.a x.flag).1), (A.setQuirks x.a x.flag).2)
  else if x.kind = 13 then ((0, (A.setDoc x.a x.b).1), (A.setDoc x.a x.b).2)
  else ((0, 0), A)

set_option maxRecDepth 100000 in
set_option maxHeartbeats 1000000 in
theorem Do_1 (A : Ar) (ρ : Nat → Nat) (b : Nat) (a b2 c : Int) (flag : Bool) (space : Int) (name s t : ByteArray) (attrs : List AttrD) (av : Value) (w : World) (hA : AMem w ρ b A) (hW : A.WF) (hv : RAttrs w av attrs) (hsmall : A.ns.length + 3 ≤ 1000000) (hl : attrs.length ≤ 1000000) :
    Calls Try.prog 28 #[.pointer (some ⟨b, 0, none⟩), .agg (OpD.cells ⟨1, a, b2, c, flag, space, name, s, t, attrs⟩ av).toArray] w (AddR (A.step ⟨1, a, b2, c, flag, space, name, s, t, attrs⟩).2 ρ b w (pairV (A.step ⟨1, a, b2, c, flag, space, name, s, t, attrs⟩).1)) := by
  have hs1 : A.ns.length ≤ 1000000 := by omega
  obtain ⟨aa, ac, rfl, -⟩ := hv.form
  have hB := below_alloc w (.cells (OpD.cells ⟨1, a, b2, c, flag, space, name, s, t, attrs⟩ (.slice aa attrs.length ac)).toArray 50)
  have hA1 := hA.below hB
  have hv1 := hv.below hB
  unfold OpD.cells at *
  have HC := Lib.hid (Document_any A ρ b flag _ hA1 hs1)
  have HB := Lib.hid hB
  clear hB hA hA1 hv hv1 hW
  go_enter Try.func28, Try.ntmps28
  go_wp2_with fail
  refine HC.out.mono ?_
  rintro e w2 ⟨rfl, ρ', hA2, hT2⟩
  clear HC
  go_wp2
  go_ret2
  exact ⟨rfl, ρ', hA2, (Turn.below HB.out).trans hT2⟩

set_option maxRecDepth 100000 in
set_option maxHeartbeats 1000000 in
theorem Do_2 (A : Ar) (ρ : Nat → Nat) (b : Nat) (a b2 c : Int) (flag : Bool) (space : Int) (name s t : ByteArray) (attrs : List AttrD) (av : Value) (w : World) (hA : AMem w ρ b A) (hW : A.WF) (hv : RAttrs w av attrs) (hsmall : A.ns.length + 3 ≤ 1000000) (hl : attrs.length ≤ 1000000) :
    Calls Try.prog 28 #[.pointer (some ⟨b, 0, none⟩), .agg (OpD.cells ⟨2, a, b2, c, flag, space, name, s, t, attrs⟩ av).toArray] w (AddR (A.step ⟨2, a, b2, c, flag, space, name, s, t, attrs⟩).2 ρ b w (pairV (A.step ⟨2, a, b2, c, flag, space, name, s, t, attrs⟩).1)) := by
  have hs1 : A.ns.length ≤ 1000000 := by omega
  obtain ⟨aa, ac, rfl, -⟩ := hv.form
  have hB := below_alloc w (.cells (OpD.cells ⟨2, a, b2, c, flag, space, name, s, t, attrs⟩ (.slice aa attrs.length ac)).toArray 50)
  have hA1 := hA.below hB
  have hv1 := hv.below hB
  unfold OpD.cells at *
  have HC := Lib.hid (Doctype_any A ρ b a name s t _ hA1 hs1)
  have HB := Lib.hid hB
  clear hB hA hA1 hv hv1 hW
  go_enter Try.func28, Try.ntmps28
  go_wp2_with fail
  refine HC.out.mono ?_
  rintro e w2 ⟨rfl, ρ', hA2, hT2⟩
  clear HC
  unfold pairV
  go_wp2
  go_ret2
  exact ⟨rfl, ρ', hA2, (Turn.below HB.out).trans hT2⟩

set_option maxRecDepth 100000 in
set_option maxHeartbeats 1000000 in
theorem Do_3 (A : Ar) (ρ : Nat → Nat) (b : Nat) (a b2 c : Int) (flag : Bool) (space : Int) (name s t : ByteArray) (attrs : List AttrD) (av : Value) (w : World) (hA : AMem w ρ b A) (hW : A.WF) (hv : RAttrs w av attrs) (hsmall : A.ns.length + 3 ≤ 1000000) (hl : attrs.length ≤ 1000000) :
    Calls Try.prog 28 #[.pointer (some ⟨b, 0, none⟩), .agg (OpD.cells ⟨3, a, b2, c, flag, space, name, s, t, attrs⟩ av).toArray] w (AddR (A.step ⟨3, a, b2, c, flag, space, name, s, t, attrs⟩).2 ρ b w (pairV (A.step ⟨3, a, b2, c, flag, space, name, s, t, attrs⟩).1)) := by
  have hs1 : A.ns.length ≤ 1000000 := by omega
  obtain ⟨aa, ac, rfl, -⟩ := hv.form
  have hB := below_alloc w (.cells (OpD.cells ⟨3, a, b2, c, flag, space, name, s, t, attrs⟩ (.slice aa attrs.length ac)).toArray 50)
  have hA1 := hA.below hB
  have hv1 := hv.below hB
  unfold OpD.cells at *
  have HC := Lib.hid (Element_any A ρ b a space name _ attrs _ hA1 hv1 hsmall hl)
  have HB := Lib.hid hB
  clear hB hA hA1 hv hv1 hW
  go_enter Try.func28, Try.ntmps28
  go_wp2_with fail
  refine HC.out.mono ?_
  rintro e w2 ⟨rfl, ρ', hA2, hT2⟩
  clear HC
  unfold pairV
  go_wp2
  go_ret2
  exact ⟨rfl, ρ', hA2, (Turn.below HB.out).trans hT2⟩

set_option maxRecDepth 100000 in
set_option maxHeartbeats 1000000 in
theorem Do_4 (A : Ar) (ρ : Nat → Nat) (b : Nat) (a b2 c : Int) (flag : Bool) (space : Int) (name s t : ByteArray) (attrs : List AttrD) (av : Value) (w : World) (hA : AMem w ρ b A) (hW : A.WF) (hv : RAttrs w av attrs) (hsmall : A.ns.length + 3 ≤ 1000000) (hl : attrs.length ≤ 1000000) :
    Calls Try.prog 28 #[.pointer (some ⟨b, 0, none⟩), .agg (OpD.cells ⟨4, a, b2, c, flag, space, name, s, t, attrs⟩ av).toArray] w (AddR (A.step ⟨4, a, b2, c, flag, space, name, s, t, attrs⟩).2 ρ b w (pairV (A.step ⟨4, a, b2, c, flag, space, name, s, t, attrs⟩).1)) := by
  have hs1 : A.ns.length ≤ 1000000 := by omega
  obtain ⟨aa, ac, rfl, -⟩ := hv.form
  have hB := below_alloc w (.cells (OpD.cells ⟨4, a, b2, c, flag, space, name, s, t, attrs⟩ (.slice aa attrs.length ac)).toArray 50)
  have hA1 := hA.below hB
  have hv1 := hv.below hB
  unfold OpD.cells at *
  have HC := Lib.hid (Text_any A ρ b a s _ hA1 hs1)
  have HB := Lib.hid hB
  clear hB hA hA1 hv hv1 hW
  go_enter Try.func28, Try.ntmps28
  go_wp2_with fail
  refine HC.out.mono ?_
  rintro e w2 ⟨rfl, ρ', hA2, hT2⟩
  clear HC
  unfold pairV
  go_wp2
  go_ret2
  exact ⟨rfl, ρ', hA2, (Turn.below HB.out).trans hT2⟩

set_option maxRecDepth 100000 in
set_option maxHeartbeats 1000000 in
theorem Do_5 (A : Ar) (ρ : Nat → Nat) (b : Nat) (a b2 c : Int) (flag : Bool) (space : Int) (name s t : ByteArray) (attrs : List AttrD) (av : Value) (w : World) (hA : AMem w ρ b A) (hW : A.WF) (hv : RAttrs w av attrs) (hsmall : A.ns.length + 3 ≤ 1000000) (hl : attrs.length ≤ 1000000) :
    Calls Try.prog 28 #[.pointer (some ⟨b, 0, none⟩), .agg (OpD.cells ⟨5, a, b2, c, flag, space, name, s, t, attrs⟩ av).toArray] w (AddR (A.step ⟨5, a, b2, c, flag, space, name, s, t, attrs⟩).2 ρ b w (pairV (A.step ⟨5, a, b2, c, flag, space, name, s, t, attrs⟩).1)) := by
  have hs1 : A.ns.length ≤ 1000000 := by omega
  obtain ⟨aa, ac, rfl, -⟩ := hv.form
  have hB := below_alloc w (.cells (OpD.cells ⟨5, a, b2, c, flag, space, name, s, t, attrs⟩ (.slice aa attrs.length ac)).toArray 50)
  have hA1 := hA.below hB
  have hv1 := hv.below hB
  unfold OpD.cells at *
  have HC := Lib.hid (Comment_any A ρ b a s _ hA1 hs1)
  have HB := Lib.hid hB
  clear hB hA hA1 hv hv1 hW
  go_enter Try.func28, Try.ntmps28
  go_wp2_with fail
  refine HC.out.mono ?_
  rintro e w2 ⟨rfl, ρ', hA2, hT2⟩
  clear HC
  unfold pairV
  go_wp2
  go_ret2
  exact ⟨rfl, ρ', hA2, (Turn.below HB.out).trans hT2⟩

set_option maxRecDepth 100000 in
set_option maxHeartbeats 1000000 in
theorem Do_6 (A : Ar) (ρ : Nat → Nat) (b : Nat) (a b2 c : Int) (flag : Bool) (space : Int) (name s t : ByteArray) (attrs : List AttrD) (av : Value) (w : World) (hA : AMem w ρ b A) (hW : A.WF) (hv : RAttrs w av attrs) (hsmall : A.ns.length + 3 ≤ 1000000) (hl : attrs.length ≤ 1000000) :
    Calls Try.prog 28 #[.pointer (some ⟨b, 0, none⟩), .agg (OpD.cells ⟨6, a, b2, c, flag, space, name, s, t, attrs⟩ av).toArray] w (AddR (A.step ⟨6, a, b2, c, flag, space, name, s, t, attrs⟩).2 ρ b w (pairV (A.step ⟨6, a, b2, c, flag, space, name, s, t, attrs⟩).1)) := by
  have hs1 : A.ns.length ≤ 1000000 := by omega
  obtain ⟨aa, ac, rfl, -⟩ := hv.form
  have hB := below_alloc w (.cells (OpD.cells ⟨6, a, b2, c, flag, space, name, s, t, attrs⟩ (.slice aa attrs.length ac)).toArray 50)
  have hA1 := hA.below hB
  have hv1 := hv.below hB
  unfold OpD.cells at *
  have HC := Lib.hid (Fragment_any A ρ b a _ hA1 hs1)
  have HB := Lib.hid hB
  clear hB hA hA1 hv hv1 hW
  go_enter Try.func28, Try.ntmps28
  go_wp2_with fail
  refine HC.out.mono ?_
  rintro e w2 ⟨rfl, ρ', hA2, hT2⟩
  clear HC
  unfold pairV
  go_wp2
  go_ret2
  exact ⟨rfl, ρ', hA2, (Turn.below HB.out).trans hT2⟩

set_option maxRecDepth 100000 in
set_option maxHeartbeats 1000000 in
theorem Do_7 (A : Ar) (ρ : Nat → Nat) (b : Nat) (a b2 c : Int) (flag : Bool) (space : Int) (name s t : ByteArray) (attrs : List AttrD) (av : Value) (w : World) (hA : AMem w ρ b A) (hW : A.WF) (hv : RAttrs w av attrs) (hsmall : A.ns.length + 3 ≤ 1000000) (hl : attrs.length ≤ 1000000) :
    Calls Try.prog 28 #[.pointer (some ⟨b, 0, none⟩), .agg (OpD.cells ⟨7, a, b2, c, flag, space, name, s, t, attrs⟩ av).toArray] w (AddR (A.step ⟨7, a, b2, c, flag, space, name, s, t, attrs⟩).2 ρ b w (pairV (A.step ⟨7, a, b2, c, flag, space, name, s, t, attrs⟩).1)) := by
  have hs1 : A.ns.length ≤ 1000000 := by omega
  obtain ⟨aa, ac, rfl, -⟩ := hv.form
  have hB := below_alloc w (.cells (OpD.cells ⟨7, a, b2, c, flag, space, name, s, t, attrs⟩ (.slice aa attrs.length ac)).toArray 50)
  have hA1 := hA.below hB
  have hv1 := hv.below hB
  unfold OpD.cells at *
  have HC := Lib.hid (Inert_any A ρ b a _ hA1 hs1)
  have HB := Lib.hid hB
  clear hB hA hA1 hv hv1 hW
  go_enter Try.func28, Try.ntmps28
  go_wp2_with fail
  refine HC.out.mono ?_
  rintro e w2 ⟨rfl, ρ', hA2, hT2⟩
  clear HC
  unfold pairV
  go_wp2
  go_ret2
  exact ⟨rfl, ρ', hA2, (Turn.below HB.out).trans hT2⟩

set_option maxRecDepth 100000 in
set_option maxHeartbeats 1000000 in
theorem Do_8 (A : Ar) (ρ : Nat → Nat) (b : Nat) (a b2 c : Int) (flag : Bool) (space : Int) (name s t : ByteArray) (attrs : List AttrD) (av : Value) (w : World) (hA : AMem w ρ b A) (hW : A.WF) (hv : RAttrs w av attrs) (hsmall : A.ns.length + 3 ≤ 1000000) (hl : attrs.length ≤ 1000000) :
    Calls Try.prog 28 #[.pointer (some ⟨b, 0, none⟩), .agg (OpD.cells ⟨8, a, b2, c, flag, space, name, s, t, attrs⟩ av).toArray] w (AddR (A.step ⟨8, a, b2, c, flag, space, name, s, t, attrs⟩).2 ρ b w (pairV (A.step ⟨8, a, b2, c, flag, space, name, s, t, attrs⟩).1)) := by
  have hs1 : A.ns.length ≤ 1000000 := by omega
  obtain ⟨aa, ac, rfl, -⟩ := hv.form
  have hB := below_alloc w (.cells (OpD.cells ⟨8, a, b2, c, flag, space, name, s, t, attrs⟩ (.slice aa attrs.length ac)).toArray 50)
  have hA1 := hA.below hB
  have hv1 := hv.below hB
  unfold OpD.cells at *
  have HC := Lib.hid (Put_any A ρ b a b2 c _ hA1 hW hs1)
  have HB := Lib.hid hB
  clear hB hA hA1 hv hv1 hW
  go_enter Try.func28, Try.ntmps28
  go_wp2_with fail
  refine HC.out.mono ?_
  rintro e w2 ⟨rfl, ρ', hA2, hT2⟩
  clear HC
  go_wp2
  go_ret2
  exact ⟨rfl, ρ', hA2, (Turn.below HB.out).trans hT2⟩

set_option maxRecDepth 100000 in
set_option maxHeartbeats 1000000 in
theorem Do_9 (A : Ar) (ρ : Nat → Nat) (b : Nat) (a b2 c : Int) (flag : Bool) (space : Int) (name s t : ByteArray) (attrs : List AttrD) (av : Value) (w : World) (hA : AMem w ρ b A) (hW : A.WF) (hv : RAttrs w av attrs) (hsmall : A.ns.length + 3 ≤ 1000000) (hl : attrs.length ≤ 1000000) :
    Calls Try.prog 28 #[.pointer (some ⟨b, 0, none⟩), .agg (OpD.cells ⟨9, a, b2, c, flag, space, name, s, t, attrs⟩ av).toArray] w (AddR (A.step ⟨9, a, b2, c, flag, space, name, s, t, attrs⟩).2 ρ b w (pairV (A.step ⟨9, a, b2, c, flag, space, name, s, t, attrs⟩).1)) := by
  have hs1 : A.ns.length ≤ 1000000 := by omega
  obtain ⟨aa, ac, rfl, -⟩ := hv.form
  have hB := below_alloc w (.cells (OpD.cells ⟨9, a, b2, c, flag, space, name, s, t, attrs⟩ (.slice aa attrs.length ac)).toArray 50)
  have hA1 := hA.below hB
  have hv1 := hv.below hB
  unfold OpD.cells at *
  have HC := Lib.hid (Cut_any A ρ b a _ hA1 hW)
  have HB := Lib.hid hB
  clear hB hA hA1 hv hv1 hW
  go_enter Try.func28, Try.ntmps28
  go_wp2_with fail
  refine HC.out.mono ?_
  rintro e w2 ⟨rfl, ρ', hA2, hT2⟩
  clear HC
  go_wp2
  go_ret2
  exact ⟨rfl, ρ', hA2, (Turn.below HB.out).trans hT2⟩

set_option maxRecDepth 100000 in
set_option maxHeartbeats 1000000 in
theorem Do_10 (A : Ar) (ρ : Nat → Nat) (b : Nat) (a b2 c : Int) (flag : Bool) (space : Int) (name s t : ByteArray) (attrs : List AttrD) (av : Value) (w : World) (hA : AMem w ρ b A) (hW : A.WF) (hv : RAttrs w av attrs) (hsmall : A.ns.length + 3 ≤ 1000000) (hl : attrs.length ≤ 1000000) :
    Calls Try.prog 28 #[.pointer (some ⟨b, 0, none⟩), .agg (OpD.cells ⟨10, a, b2, c, flag, space, name, s, t, attrs⟩ av).toArray] w (AddR (A.step ⟨10, a, b2, c, flag, space, name, s, t, attrs⟩).2 ρ b w (pairV (A.step ⟨10, a, b2, c, flag, space, name, s, t, attrs⟩).1)) := by
  have hs1 : A.ns.length ≤ 1000000 := by omega
  obtain ⟨aa, ac, rfl, -⟩ := hv.form
  have hB := below_alloc w (.cells (OpD.cells ⟨10, a, b2, c, flag, space, name, s, t, attrs⟩ (.slice aa attrs.length ac)).toArray 50)
  have hA1 := hA.below hB
  have hv1 := hv.below hB
  unfold OpD.cells at *
  have HC := Lib.hid (SetData_any A ρ b a s _ hA1)
  have HB := Lib.hid hB
  clear hB hA hA1 hv hv1 hW
  go_enter Try.func28, Try.ntmps28
  go_wp2_with fail
  refine HC.out.mono ?_
  rintro e w2 ⟨rfl, ρ', hA2, hT2⟩
  clear HC
  go_wp2
  go_ret2
  exact ⟨rfl, ρ', hA2, (Turn.below HB.out).trans hT2⟩

set_option maxRecDepth 100000 in
set_option maxHeartbeats 1000000 in
theorem Do_11 (A : Ar) (ρ : Nat → Nat) (b : Nat) (a b2 c : Int) (flag : Bool) (space : Int) (name s t : ByteArray) (attrs : List AttrD) (av : Value) (w : World) (hA : AMem w ρ b A) (hW : A.WF) (hv : RAttrs w av attrs) (hsmall : A.ns.length + 3 ≤ 1000000) (hl : attrs.length ≤ 1000000) :
    Calls Try.prog 28 #[.pointer (some ⟨b, 0, none⟩), .agg (OpD.cells ⟨11, a, b2, c, flag, space, name, s, t, attrs⟩ av).toArray] w (AddR (A.step ⟨11, a, b2, c, flag, space, name, s, t, attrs⟩).2 ρ b w (pairV (A.step ⟨11, a, b2, c, flag, space, name, s, t, attrs⟩).1)) := by
  have hs1 : A.ns.length ≤ 1000000 := by omega
  obtain ⟨aa, ac, rfl, -⟩ := hv.form
  have hB := below_alloc w (.cells (OpD.cells ⟨11, a, b2, c, flag, space, name, s, t, attrs⟩ (.slice aa attrs.length ac)).toArray 50)
  have hA1 := hA.below hB
  have hv1 := hv.below hB
  unfold OpD.cells at *
  have HC := Lib.hid (SetAttrs_any A ρ b a _ attrs _ hA1 hv1 hl)
  have HB := Lib.hid hB
  clear hB hA hA1 hv hv1 hW
  go_enter Try.func28, Try.ntmps28
  go_wp2_with fail
  refine HC.out.mono ?_
  rintro e w2 ⟨rfl, ρ', hA2, hT2⟩
  clear HC
  go_wp2
  go_ret2
  exact ⟨rfl, ρ', hA2, (Turn.below HB.out).trans hT2⟩

set_option maxRecDepth 100000 in
set_option maxHeartbeats 1000000 in
theorem Do_12 (A : Ar) (ρ : Nat → Nat) (b : Nat) (a b2 c : Int) (flag : Bool) (space : Int) (name s t : ByteArray) (attrs : List AttrD) (av : Value) (w : World) (hA : AMem w ρ b A) (hW : A.WF) (hv : RAttrs w av attrs) (hsmall : A.ns.length + 3 ≤ 1000000) (hl : attrs.length ≤ 1000000) :
    Calls Try.prog 28 #[.pointer (some ⟨b, 0, none⟩), .agg (OpD.cells ⟨12, a, b2, c, flag, space, name, s, t, attrs⟩ av).toArray] w (AddR (A.step ⟨12, a, b2, c, flag, space, name, s, t, attrs⟩).2 ρ b w (pairV (A.step ⟨12, a, b2, c, flag, space, name, s, t, attrs⟩).1)) := by
  have hs1 : A.ns.length ≤ 1000000 := by omega
  obtain ⟨aa, ac, rfl, -⟩ := hv.form
  have hB := below_alloc w (.cells (OpD.cells ⟨12, a, b2, c, flag, space, name, s, t, attrs⟩ (.slice aa attrs.length ac)).toArray 50)
  have hA1 := hA.below hB
  have hv1 := hv.below hB
  unfold OpD.cells at *
  have HC := Lib.hid (SetQuirks_any A ρ b a flag _ hA1)
  have HB := Lib.hid hB
  clear hB hA hA1 hv hv1 hW
  go_enter Try.func28, Try.ntmps28
  go_wp2_with fail
  refine HC.out.mono ?_
  rintro e w2 ⟨rfl, ρ', hA2, hT2⟩
  clear HC
  go_wp2
  go_ret2
  exact ⟨rfl, ρ', hA2, (Turn.below HB.out).trans hT2⟩

set_option maxRecDepth 100000 in
set_option maxHeartbeats 1000000 in
theorem Do_13 (A : Ar) (ρ : Nat → Nat) (b : Nat) (a b2 c : Int) (flag : Bool) (space : Int) (name s t : ByteArray) (attrs : List AttrD) (av : Value) (w : World) (hA : AMem w ρ b A) (hW : A.WF) (hv : RAttrs w av attrs) (hsmall : A.ns.length + 3 ≤ 1000000) (hl : attrs.length ≤ 1000000) :
    Calls Try.prog 28 #[.pointer (some ⟨b, 0, none⟩), .agg (OpD.cells ⟨13, a, b2, c, flag, space, name, s, t, attrs⟩ av).toArray] w (AddR (A.step ⟨13, a, b2, c, flag, space, name, s, t, attrs⟩).2 ρ b w (pairV (A.step ⟨13, a, b2, c, flag, space, name, s, t, attrs⟩).1)) := by
  have hs1 : A.ns.length ≤ 1000000 := by omega
  obtain ⟨aa, ac, rfl, -⟩ := hv.form
  have hB := below_alloc w (.cells (OpD.cells ⟨13, a, b2, c, flag, space, name, s, t, attrs⟩ (.slice aa attrs.length ac)).toArray 50)
  have hA1 := hA.below hB
  have hv1 := hv.below hB
  unfold OpD.cells at *
  have HC := Lib.hid (SetDoc_any A ρ b a b2 _ hA1)
  have HB := Lib.hid hB
  clear hB hA hA1 hv hv1 hW
  go_enter Try.func28, Try.ntmps28
  go_wp2_with fail
  refine HC.out.mono ?_
  rintro e w2 ⟨rfl, ρ', hA2, hT2⟩
  clear HC
  go_wp2
  go_ret2
  exact ⟨rfl, ρ', hA2, (Turn.below HB.out).trans hT2⟩

set_option maxRecDepth 100000 in
set_option maxHeartbeats 1000000 in
theorem Do_none (A : Ar) (ρ : Nat → Nat) (b : Nat) (kind a b2 c : Int) (flag : Bool) (space : Int) (name s t : ByteArray) (attrs : List AttrD) (av : Value) (w : World) (hA : AMem w ρ b A) (hW : A.WF) (hv : RAttrs w av attrs) (hsmall : A.ns.length + 3 ≤ 1000000) (hl : attrs.length ≤ 1000000) (hk : ∀ j : Int, 1 ≤ j → j ≤ 13 → kind ≠ j) :
    Calls Try.prog 28 #[.pointer (some ⟨b, 0, none⟩), .agg (OpD.cells ⟨kind, a, b2, c, flag, space, name, s, t, attrs⟩ av).toArray] w (AddR A ρ b w (pairV (0, 0))) := by
  have hs1 : A.ns.length ≤ 1000000 := by omega
  obtain ⟨aa, ac, rfl, -⟩ := hv.form
  have hB := below_alloc w (.cells (OpD.cells ⟨kind, a, b2, c, flag, space, name, s, t, attrs⟩ (.slice aa attrs.length ac)).toArray 50)
  have hA1 := hA.below hB
  have hv1 := hv.below hB
  unfold OpD.cells at *

  have e1 : (kind == 1) = false := by simp [hk 1 (by omega) (by omega)]
  have e2 : (kind == 2) = false := by simp [hk 2 (by omega) (by omega)]
  have e3 : (kind == 3) = false := by simp [hk 3 (by omega) (by omega)]
  have e4 : (kind == 4) = false := by simp [hk 4 (by omega) (by omega)]
  have e5 : (kind == 5) = false := by simp [hk 5 (by omega) (by omega)]
  have e6 : (kind == 6) = false := by simp [hk 6 (by omega) (by omega)]
  have e7 : (kind == 7) = false := by simp [hk 7 (by omega) (by omega)]
  have e8 : (kind == 8) = false := by simp [hk 8 (by omega) (by omega)]
  have e9 : (kind == 9) = false := by simp [hk 9 (by omega) (by omega)]
  have e10 : (kind == 10) = false := by simp [hk 10 (by omega) (by omega)]
  have e11 : (kind == 11) = false := by simp [hk 11 (by omega) (by omega)]
  have e12 : (kind == 12) = false := by simp [hk 12 (by omega) (by omega)]
  have e13 : (kind == 13) = false := by simp [hk 13 (by omega) (by omega)]
  have HB := Lib.hid hB
  have HA1 := Lib.hid hA1
  clear hB hA hA1 hv hv1 hW hk
  go_enter Try.func28, Try.ntmps28
  go_wp2
  go_ret2
  exact ⟨rfl, ρ, HA1.out, Turn.below HB.out⟩

/-- **Do.** -/
theorem Do_any (A : Ar) (ρ : Nat → Nat) (b : Nat) (x : OpD) (av : Value) (w : World) (hA : AMem w ρ b A) (hW : A.WF) (hv : RAttrs w av x.attrs) (hsmall : A.ns.length + 3 ≤ 1000000) (hl : x.attrs.length ≤ 1000000) :
    Calls Try.prog 28 #[.pointer (some ⟨b, 0, none⟩), .agg (x.cells av).toArray] w (AddR (A.step x).2 ρ b w (pairV (A.step x).1)) := by
  obtain ⟨kind, a, b2, c, flag, space, name, s, t, attrs⟩ := x
  by_cases h1 : kind = 1
  · subst h1; exact Do_1 A ρ b a b2 c flag space name s t attrs av w hA hW hv hsmall hl
  by_cases h2 : kind = 2
  · subst h2; exact Do_2 A ρ b a b2 c flag space name s t attrs av w hA hW hv hsmall hl
  by_cases h3 : kind = 3
  · subst h3; exact Do_3 A ρ b a b2 c flag space name s t attrs av w hA hW hv hsmall hl
  by_cases h4 : kind = 4
  · subst h4; exact Do_4 A ρ b a b2 c flag space name s t attrs av w hA hW hv hsmall hl
  by_cases h5 : kind = 5
  · subst h5; exact Do_5 A ρ b a b2 c flag space name s t attrs av w hA hW hv hsmall hl
  by_cases h6 : kind = 6
  · subst h6; exact Do_6 A ρ b a b2 c flag space name s t attrs av w hA hW hv hsmall hl
  by_cases h7 : kind = 7
  · subst h7; exact Do_7 A ρ b a b2 c flag space name s t attrs av w hA hW hv hsmall hl
  by_cases h8 : kind = 8
  · subst h8; exact Do_8 A ρ b a b2 c flag space name s t attrs av w hA hW hv hsmall hl
  by_cases h9 : kind = 9
  · subst h9; exact Do_9 A ρ b a b2 c flag space name s t attrs av w hA hW hv hsmall hl
  by_cases h10 : kind = 10
  · subst h10; exact Do_10 A ρ b a b2 c flag space name s t attrs av w hA hW hv hsmall hl
  by_cases h11 : kind = 11
  · subst h11; exact Do_11 A ρ b a b2 c flag space name s t attrs av w hA hW hv hsmall hl
  by_cases h12 : kind = 12
  · subst h12; exact Do_12 A ρ b a b2 c flag space name s t attrs av w hA hW hv hsmall hl
  by_cases h13 : kind = 13
  · subst h13; exact Do_13 A ρ b a b2 c flag space name s t attrs av w hA hW hv hsmall hl
  have hz : A.step ⟨kind, a, b2, c, flag, space, name, s, t, attrs⟩ = ((0, 0), A) := by simp [Ar.step, h1, h2, h3, h4, h5, h6, h7, h8, h9, h10, h11, h12, h13]
  rw [hz]
  exact Do_none A ρ b kind a b2 c flag space name s t attrs av w hA hW hv hsmall hl (fun j h1 h2 e => by omega)

end Go.Proofs.Ytnfdcfagdidmhaa
