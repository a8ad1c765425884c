import Derived.Deep.Slices
import Derived.Deep.Fields
import Derived.ChangeSame
import Derived.Test.YtpicinjcmjaogaaGreatDoorW04
set_option maxRecDepth 100000
set_option maxHeartbeats 4000000
set_option linter.unusedVariables false
namespace Go.Proofs.YtpicinjcmjaogaaGreatDoor
section
open Go.RowKit
/-- An operation. -/
structure OpD where
  Xa : Int
  a : Int
  b : Int
  c : Int
  Xe : Bool
  space : Int
  name : ByteArray
  s : ByteArray
  t : ByteArray
  Xb : List Xm
def OpD.cells (x : OpD) (av : Value) : List Value := [.int .i64 x.Xa, .int .i64 x.a, .int .i64 x.b, .int .i64 x.c, .bool x.Xe, .int .i64 x.space, .string x.name, .string x.s, .string x.t, av]
/-- What an operation does. -/
def Ar.step (A : Ar) (x : OpD) : (Int × Int) × Ar :=
  if x.Xa = 1 then ((A.n + 1, 0), A.Xn x.Xe)
  else if x.Xa = 2 then A.make x.a (YT x.name x.s x.t)
  else if x.Xa = 3 then A.element x.a x.space x.name x.Xb
  else if x.Xa = 4 then A.make x.a (Xs x.s)
  else if x.Xa = 5 then A.make x.a (YZ x.s)
  else if x.Xa = 6 then A.make x.a Zm
  else if x.Xa = 7 then A.YA x.a
  else if x.Xa = 8 then ((0, (A.put x.a x.b x.c).1), (A.put x.a x.b x.c).2)
  else if x.Xa = 9 then ((0, (A.XR x.a).1), (A.XR x.a).2)
  else if x.Xa = 10 then ((0, (A.XG x.a x.s).1), (A.XG x.a x.s).2)
  else if x.Xa = 11 then ((0, (A.X0 x.a x.Xb).1), (A.X0 x.a x.Xb).2)
  else if x.Xa = 12 then ((0, (A.YQ x.a x.Xe).1), (A.YQ x.a x.Xe).2)
  else if x.Xa = 13 then ((0, (A.Xt x.a x.b).1), (A.Xt x.a x.b).2)
  else ((0, 0), A)
theorem XjS (A:Ar)(ρ:Nat→Nat)(b:Nat)(a b2 c:Int)(Xe:Bool)(space:Int)(name s t:ByteArray)(Xb:List Xm)(av:Value)(w:World)(hA:Xz w ρ b A)(hW:A.WF)(hv:XE w av Xb)(hsmall:A.ns.length+3≤1000000)(hl:Xb.length≤1000000):Calls Tryz.prog 73 #[.pointer (some ⟨b,0,none⟩),.agg (OpD.cells ⟨1,a,b2,c,Xe,space,name,s,t,Xb⟩ av).toArray] w (Yk (A.step ⟨1,a,b2,c,Xe,space,name,s,t,Xb⟩).2 ρ b w (Xl (A.step ⟨1,a,b2,c,Xe,space,name,s,t,Xb⟩).1)):=by
 have hs1:A.ns.length≤1000000:=by omega
 obtain⟨aa,ac,rfl,-⟩:=hv.form
 have hB:=Xw w (.cells (OpD.cells ⟨1,a,b2,c,Xe,space,name,s,t,Xb⟩ (.slice aa Xb.length ac)).toArray 46)
 have hA1:=hA.below hB
 have hv1:=hv.below hB
 unfold OpD.cells at*
 have HC:=Xqh (XbO A ρ b Xe _ hA1 hs1)
 have HB:=Xqh hB
 clear hB hA hA1 hv hv1 hW
 go_enter Tryz.func73,Tryz.ntmps73
 go_wp2_with fail
 refine HC.out.mono ?_
 rintro e w2⟨rfl,ρ',hA2,hT2⟩
 clear HC
 go_wp2
 go_ret2
 exact⟨rfl,ρ',hA2,(Xr.below HB.out).trans hT2⟩
theorem XjT (A:Ar)(ρ:Nat→Nat)(b:Nat)(a b2 c:Int)(Xe:Bool)(space:Int)(name s t:ByteArray)(Xb:List Xm)(av:Value)(w:World)(hA:Xz w ρ b A)(hW:A.WF)(hv:XE w av Xb)(hsmall:A.ns.length+3≤1000000)(hl:Xb.length≤1000000):Calls Tryz.prog 73 #[.pointer (some ⟨b,0,none⟩),.agg (OpD.cells ⟨2,a,b2,c,Xe,space,name,s,t,Xb⟩ av).toArray] w (Yk (A.step ⟨2,a,b2,c,Xe,space,name,s,t,Xb⟩).2 ρ b w (Xl (A.step ⟨2,a,b2,c,Xe,space,name,s,t,Xb⟩).1)):=by
 have hs1:A.ns.length≤1000000:=by omega
 obtain⟨aa,ac,rfl,-⟩:=hv.form
 have hB:=Xw w (.cells (OpD.cells ⟨2,a,b2,c,Xe,space,name,s,t,Xb⟩ (.slice aa Xb.length ac)).toArray 46)
 have hA1:=hA.below hB
 have hv1:=hv.below hB
 unfold OpD.cells at*
 have HC:=Xqh (XcE A ρ b a name s t _ hA1 hs1)
 have HB:=Xqh hB
 clear hB hA hA1 hv hv1 hW
 go_enter Tryz.func73,Tryz.ntmps73
 go_wp2_with fail
 refine HC.out.mono ?_
 rintro e w2⟨rfl,ρ',hA2,hT2⟩
 clear HC
 unfold Xl
 go_wp2
 go_ret2
 exact⟨rfl,ρ',hA2,(Xr.below HB.out).trans hT2⟩
theorem XjU (A:Ar)(ρ:Nat→Nat)(b:Nat)(a b2 c:Int)(Xe:Bool)(space:Int)(name s t:ByteArray)(Xb:List Xm)(av:Value)(w:World)(hA:Xz w ρ b A)(hW:A.WF)(hv:XE w av Xb)(hsmall:A.ns.length+3≤1000000)(hl:Xb.length≤1000000):Calls Tryz.prog 73 #[.pointer (some ⟨b,0,none⟩),.agg (OpD.cells ⟨3,a,b2,c,Xe,space,name,s,t,Xb⟩ av).toArray] w (Yk (A.step ⟨3,a,b2,c,Xe,space,name,s,t,Xb⟩).2 ρ b w (Xl (A.step ⟨3,a,b2,c,Xe,space,name,s,t,Xb⟩).1)):=by
 have hs1:A.ns.length≤1000000:=by omega
 obtain⟨aa,ac,rfl,-⟩:=hv.form
 have hB:=Xw w (.cells (OpD.cells ⟨3,a,b2,c,Xe,space,name,s,t,Xb⟩ (.slice aa Xb.length ac)).toArray 46)
 have hA1:=hA.below hB
 have hv1:=hv.below hB
 unfold OpD.cells at*
 have HC:=Xqh (XaO A ρ b a space name _ Xb _ hA1 hv1 hsmall hl)
 have HB:=Xqh hB
 clear hB hA hA1 hv hv1 hW
 go_enter Tryz.func73,Tryz.ntmps73
 go_wp2_with fail
 refine HC.out.mono ?_
 rintro e w2⟨rfl,ρ',hA2,hT2⟩
 clear HC
 unfold Xl
 go_wp2
 go_ret2
 exact⟨rfl,ρ',hA2,(Xr.below HB.out).trans hT2⟩
theorem XjV (A:Ar)(ρ:Nat→Nat)(b:Nat)(a b2 c:Int)(Xe:Bool)(space:Int)(name s t:ByteArray)(Xb:List Xm)(av:Value)(w:World)(hA:Xz w ρ b A)(hW:A.WF)(hv:XE w av Xb)(hsmall:A.ns.length+3≤1000000)(hl:Xb.length≤1000000):Calls Tryz.prog 73 #[.pointer (some ⟨b,0,none⟩),.agg (OpD.cells ⟨4,a,b2,c,Xe,space,name,s,t,Xb⟩ av).toArray] w (Yk (A.step ⟨4,a,b2,c,Xe,space,name,s,t,Xb⟩).2 ρ b w (Xl (A.step ⟨4,a,b2,c,Xe,space,name,s,t,Xb⟩).1)):=by
 have hs1:A.ns.length≤1000000:=by omega
 obtain⟨aa,ac,rfl,-⟩:=hv.form
 have hB:=Xw w (.cells (OpD.cells ⟨4,a,b2,c,Xe,space,name,s,t,Xb⟩ (.slice aa Xb.length ac)).toArray 46)
 have hA1:=hA.below hB
 have hv1:=hv.below hB
 unfold OpD.cells at*
 have HC:=Xqh (Xbe A ρ b a s _ hA1 hs1)
 have HB:=Xqh hB
 clear hB hA hA1 hv hv1 hW
 go_enter Tryz.func73,Tryz.ntmps73
 go_wp2_with fail
 refine HC.out.mono ?_
 rintro e w2⟨rfl,ρ',hA2,hT2⟩
 clear HC
 unfold Xl
 go_wp2
 go_ret2
 exact⟨rfl,ρ',hA2,(Xr.below HB.out).trans hT2⟩
theorem XjW (A:Ar)(ρ:Nat→Nat)(b:Nat)(a b2 c:Int)(Xe:Bool)(space:Int)(name s t:ByteArray)(Xb:List Xm)(av:Value)(w:World)(hA:Xz w ρ b A)(hW:A.WF)(hv:XE w av Xb)(hsmall:A.ns.length+3≤1000000)(hl:Xb.length≤1000000):Calls Tryz.prog 73 #[.pointer (some ⟨b,0,none⟩),.agg (OpD.cells ⟨5,a,b2,c,Xe,space,name,s,t,Xb⟩ av).toArray] w (Yk (A.step ⟨5,a,b2,c,Xe,space,name,s,t,Xb⟩).2 ρ b w (Xl (A.step ⟨5,a,b2,c,Xe,space,name,s,t,Xb⟩).1)):=by
 have hs1:A.ns.length≤1000000:=by omega
 obtain⟨aa,ac,rfl,-⟩:=hv.form
 have hB:=Xw w (.cells (OpD.cells ⟨5,a,b2,c,Xe,space,name,s,t,Xb⟩ (.slice aa Xb.length ac)).toArray 46)
 have hA1:=hA.below hB
 have hv1:=hv.below hB
 unfold OpD.cells at*
 have HC:=Xqh (Xd7 A ρ b a s _ hA1 hs1)
 have HB:=Xqh hB
 clear hB hA hA1 hv hv1 hW
 go_enter Tryz.func73,Tryz.ntmps73
 go_wp2_with fail
 refine HC.out.mono ?_
 rintro e w2⟨rfl,ρ',hA2,hT2⟩
 clear HC
 unfold Xl
 go_wp2
 go_ret2
 exact⟨rfl,ρ',hA2,(Xr.below HB.out).trans hT2⟩
theorem XjX (A:Ar)(ρ:Nat→Nat)(b:Nat)(a b2 c:Int)(Xe:Bool)(space:Int)(name s t:ByteArray)(Xb:List Xm)(av:Value)(w:World)(hA:Xz w ρ b A)(hW:A.WF)(hv:XE w av Xb)(hsmall:A.ns.length+3≤1000000)(hl:Xb.length≤1000000):Calls Tryz.prog 73 #[.pointer (some ⟨b,0,none⟩),.agg (OpD.cells ⟨6,a,b2,c,Xe,space,name,s,t,Xb⟩ av).toArray] w (Yk (A.step ⟨6,a,b2,c,Xe,space,name,s,t,Xb⟩).2 ρ b w (Xl (A.step ⟨6,a,b2,c,Xe,space,name,s,t,Xb⟩).1)):=by
 have hs1:A.ns.length≤1000000:=by omega
 obtain⟨aa,ac,rfl,-⟩:=hv.form
 have hB:=Xw w (.cells (OpD.cells ⟨6,a,b2,c,Xe,space,name,s,t,Xb⟩ (.slice aa Xb.length ac)).toArray 46)
 have hA1:=hA.below hB
 have hv1:=hv.below hB
 unfold OpD.cells at*
 have HC:=Xqh (XcF A ρ b a _ hA1 hs1)
 have HB:=Xqh hB
 clear hB hA hA1 hv hv1 hW
 go_enter Tryz.func73,Tryz.ntmps73
 go_wp2_with fail
 refine HC.out.mono ?_
 rintro e w2⟨rfl,ρ',hA2,hT2⟩
 clear HC
 unfold Xl
 go_wp2
 go_ret2
 exact⟨rfl,ρ',hA2,(Xr.below HB.out).trans hT2⟩
theorem XjY (A:Ar)(ρ:Nat→Nat)(b:Nat)(a b2 c:Int)(Xe:Bool)(space:Int)(name s t:ByteArray)(Xb:List Xm)(av:Value)(w:World)(hA:Xz w ρ b A)(hW:A.WF)(hv:XE w av Xb)(hsmall:A.ns.length+3≤1000000)(hl:Xb.length≤1000000):Calls Tryz.prog 73 #[.pointer (some ⟨b,0,none⟩),.agg (OpD.cells ⟨7,a,b2,c,Xe,space,name,s,t,Xb⟩ av).toArray] w (Yk (A.step ⟨7,a,b2,c,Xe,space,name,s,t,Xb⟩).2 ρ b w (Xl (A.step ⟨7,a,b2,c,Xe,space,name,s,t,Xb⟩).1)):=by
 have hs1:A.ns.length≤1000000:=by omega
 obtain⟨aa,ac,rfl,-⟩:=hv.form
 have hB:=Xw w (.cells (OpD.cells ⟨7,a,b2,c,Xe,space,name,s,t,Xb⟩ (.slice aa Xb.length ac)).toArray 46)
 have hA1:=hA.below hB
 have hv1:=hv.below hB
 unfold OpD.cells at*
 have HC:=Xqh (Xel A ρ b a _ hA1 hs1)
 have HB:=Xqh hB
 clear hB hA hA1 hv hv1 hW
 go_enter Tryz.func73,Tryz.ntmps73
 go_wp2_with fail
 refine HC.out.mono ?_
 rintro e w2⟨rfl,ρ',hA2,hT2⟩
 clear HC
 unfold Xl
 go_wp2
 go_ret2
 exact⟨rfl,ρ',hA2,(Xr.below HB.out).trans hT2⟩
theorem XjZ (A:Ar)(ρ:Nat→Nat)(b:Nat)(a b2 c:Int)(Xe:Bool)(space:Int)(name s t:ByteArray)(Xb:List Xm)(av:Value)(w:World)(hA:Xz w ρ b A)(hW:A.WF)(hv:XE w av Xb)(hsmall:A.ns.length+3≤1000000)(hl:Xb.length≤1000000):Calls Tryz.prog 73 #[.pointer (some ⟨b,0,none⟩),.agg (OpD.cells ⟨8,a,b2,c,Xe,space,name,s,t,Xb⟩ av).toArray] w (Yk (A.step ⟨8,a,b2,c,Xe,space,name,s,t,Xb⟩).2 ρ b w (Xl (A.step ⟨8,a,b2,c,Xe,space,name,s,t,Xb⟩).1)):=by
 have hs1:A.ns.length≤1000000:=by omega
 obtain⟨aa,ac,rfl,-⟩:=hv.form
 have hB:=Xw w (.cells (OpD.cells ⟨8,a,b2,c,Xe,space,name,s,t,Xb⟩ (.slice aa Xb.length ac)).toArray 46)
 have hA1:=hA.below hB
 have hv1:=hv.below hB
 unfold OpD.cells at*
 have HC:=Xqh (XbR A ρ b a b2 c _ hA1 hW hs1)
 have HB:=Xqh hB
 clear hB hA hA1 hv hv1 hW
 go_enter Tryz.func73,Tryz.ntmps73
 go_wp2_with fail
 refine HC.out.mono ?_
 rintro e w2⟨rfl,ρ',hA2,hT2⟩
 clear HC
 go_wp2
 go_ret2
 exact⟨rfl,ρ',hA2,(Xr.below HB.out).trans hT2⟩
theorem Xj0 (A:Ar)(ρ:Nat→Nat)(b:Nat)(a b2 c:Int)(Xe:Bool)(space:Int)(name s t:ByteArray)(Xb:List Xm)(av:Value)(w:World)(hA:Xz w ρ b A)(hW:A.WF)(hv:XE w av Xb)(hsmall:A.ns.length+3≤1000000)(hl:Xb.length≤1000000):Calls Tryz.prog 73 #[.pointer (some ⟨b,0,none⟩),.agg (OpD.cells ⟨9,a,b2,c,Xe,space,name,s,t,Xb⟩ av).toArray] w (Yk (A.step ⟨9,a,b2,c,Xe,space,name,s,t,Xb⟩).2 ρ b w (Xl (A.step ⟨9,a,b2,c,Xe,space,name,s,t,Xb⟩).1)):=by
 have hs1:A.ns.length≤1000000:=by omega
 obtain⟨aa,ac,rfl,-⟩:=hv.form
 have hB:=Xw w (.cells (OpD.cells ⟨9,a,b2,c,Xe,space,name,s,t,Xb⟩ (.slice aa Xb.length ac)).toArray 46)
 have hA1:=hA.below hB
 have hv1:=hv.below hB
 unfold OpD.cells at*
 have HC:=Xqh (Xef A ρ b a _ hA1 hW)
 have HB:=Xqh hB
 clear hB hA hA1 hv hv1 hW
 go_enter Tryz.func73,Tryz.ntmps73
 go_wp2_with fail
 refine HC.out.mono ?_
 rintro e w2⟨rfl,ρ',hA2,hT2⟩
 clear HC
 go_wp2
 go_ret2
 exact⟨rfl,ρ',hA2,(Xr.below HB.out).trans hT2⟩
theorem Xj1 (A:Ar)(ρ:Nat→Nat)(b:Nat)(a b2 c:Int)(Xe:Bool)(space:Int)(name s t:ByteArray)(Xb:List Xm)(av:Value)(w:World)(hA:Xz w ρ b A)(hW:A.WF)(hv:XE w av Xb)(hsmall:A.ns.length+3≤1000000)(hl:Xb.length≤1000000):Calls Tryz.prog 73 #[.pointer (some ⟨b,0,none⟩),.agg (OpD.cells ⟨10,a,b2,c,Xe,space,name,s,t,Xb⟩ av).toArray] w (Yk (A.step ⟨10,a,b2,c,Xe,space,name,s,t,Xb⟩).2 ρ b w (Xl (A.step ⟨10,a,b2,c,Xe,space,name,s,t,Xb⟩).1)):=by
 have hs1:A.ns.length≤1000000:=by omega
 obtain⟨aa,ac,rfl,-⟩:=hv.form
 have hB:=Xw w (.cells (OpD.cells ⟨10,a,b2,c,Xe,space,name,s,t,Xb⟩ (.slice aa Xb.length ac)).toArray 46)
 have hA1:=hA.below hB
 have hv1:=hv.below hB
 unfold OpD.cells at*
 have HC:=Xqh (XcG A ρ b a s _ hA1)
 have HB:=Xqh hB
 clear hB hA hA1 hv hv1 hW
 go_enter Tryz.func73,Tryz.ntmps73
 go_wp2_with fail
 refine HC.out.mono ?_
 rintro e w2⟨rfl,ρ',hA2,hT2⟩
 clear HC
 go_wp2
 go_ret2
 exact⟨rfl,ρ',hA2,(Xr.below HB.out).trans hT2⟩
theorem Xj2 (A:Ar)(ρ:Nat→Nat)(b:Nat)(a b2 c:Int)(Xe:Bool)(space:Int)(name s t:ByteArray)(Xb:List Xm)(av:Value)(w:World)(hA:Xz w ρ b A)(hW:A.WF)(hv:XE w av Xb)(hsmall:A.ns.length+3≤1000000)(hl:Xb.length≤1000000):Calls Tryz.prog 73 #[.pointer (some ⟨b,0,none⟩),.agg (OpD.cells ⟨11,a,b2,c,Xe,space,name,s,t,Xb⟩ av).toArray] w (Yk (A.step ⟨11,a,b2,c,Xe,space,name,s,t,Xb⟩).2 ρ b w (Xl (A.step ⟨11,a,b2,c,Xe,space,name,s,t,Xb⟩).1)):=by
 have hs1:A.ns.length≤1000000:=by omega
 obtain⟨aa,ac,rfl,-⟩:=hv.form
 have hB:=Xw w (.cells (OpD.cells ⟨11,a,b2,c,Xe,space,name,s,t,Xb⟩ (.slice aa Xb.length ac)).toArray 46)
 have hA1:=hA.below hB
 have hv1:=hv.below hB
 unfold OpD.cells at*
 have HC:=Xqh (Xea A ρ b a _ Xb _ hA1 hv1 hl)
 have HB:=Xqh hB
 clear hB hA hA1 hv hv1 hW
 go_enter Tryz.func73,Tryz.ntmps73
 go_wp2_with fail
 refine HC.out.mono ?_
 rintro e w2⟨rfl,ρ',hA2,hT2⟩
 clear HC
 go_wp2
 go_ret2
 exact⟨rfl,ρ',hA2,(Xr.below HB.out).trans hT2⟩
theorem Xj3 (A:Ar)(ρ:Nat→Nat)(b:Nat)(a b2 c:Int)(Xe:Bool)(space:Int)(name s t:ByteArray)(Xb:List Xm)(av:Value)(w:World)(hA:Xz w ρ b A)(hW:A.WF)(hv:XE w av Xb)(hsmall:A.ns.length+3≤1000000)(hl:Xb.length≤1000000):Calls Tryz.prog 73 #[.pointer (some ⟨b,0,none⟩),.agg (OpD.cells ⟨12,a,b2,c,Xe,space,name,s,t,Xb⟩ av).toArray] w (Yk (A.step ⟨12,a,b2,c,Xe,space,name,s,t,Xb⟩).2 ρ b w (Xl (A.step ⟨12,a,b2,c,Xe,space,name,s,t,Xb⟩).1)):=by
 have hs1:A.ns.length≤1000000:=by omega
 obtain⟨aa,ac,rfl,-⟩:=hv.form
 have hB:=Xw w (.cells (OpD.cells ⟨12,a,b2,c,Xe,space,name,s,t,Xb⟩ (.slice aa Xb.length ac)).toArray 46)
 have hA1:=hA.below hB
 have hv1:=hv.below hB
 unfold OpD.cells at*
 have HC:=Xqh (Xjs A ρ b a Xe _ hA1)
 have HB:=Xqh hB
 clear hB hA hA1 hv hv1 hW
 go_enter Tryz.func73,Tryz.ntmps73
 go_wp2_with fail
 refine HC.out.mono ?_
 rintro e w2⟨rfl,ρ',hA2,hT2⟩
 clear HC
 go_wp2
 go_ret2
 exact⟨rfl,ρ',hA2,(Xr.below HB.out).trans hT2⟩
theorem Xj4 (A:Ar)(ρ:Nat→Nat)(b:Nat)(a b2 c:Int)(Xe:Bool)(space:Int)(name s t:ByteArray)(Xb:List Xm)(av:Value)(w:World)(hA:Xz w ρ b A)(hW:A.WF)(hv:XE w av Xb)(hsmall:A.ns.length+3≤1000000)(hl:Xb.length≤1000000):Calls Tryz.prog 73 #[.pointer (some ⟨b,0,none⟩),.agg (OpD.cells ⟨13,a,b2,c,Xe,space,name,s,t,Xb⟩ av).toArray] w (Yk (A.step ⟨13,a,b2,c,Xe,space,name,s,t,Xb⟩).2 ρ b w (Xl (A.step ⟨13,a,b2,c,Xe,space,name,s,t,Xb⟩).1)):=by
 have hs1:A.ns.length≤1000000:=by omega
 obtain⟨aa,ac,rfl,-⟩:=hv.form
 have hB:=Xw w (.cells (OpD.cells ⟨13,a,b2,c,Xe,space,name,s,t,Xb⟩ (.slice aa Xb.length ac)).toArray 46)
 have hA1:=hA.below hB
 have hv1:=hv.below hB
 unfold OpD.cells at*
 have HC:=Xqh (Xgg A ρ b a b2 _ hA1)
 have HB:=Xqh hB
 clear hB hA hA1 hv hv1 hW
 go_enter Tryz.func73,Tryz.ntmps73
 go_wp2_with fail
 refine HC.out.mono ?_
 rintro e w2⟨rfl,ρ',hA2,hT2⟩
 clear HC
 go_wp2
 go_ret2
 exact⟨rfl,ρ',hA2,(Xr.below HB.out).trans hT2⟩
theorem Xj5 (A:Ar)(ρ:Nat→Nat)(b:Nat)(Xa a b2 c:Int)(Xe:Bool)(space:Int)(name s t:ByteArray)(Xb:List Xm)(av:Value)(w:World)(hA:Xz w ρ b A)(hW:A.WF)(hv:XE w av Xb)(hsmall:A.ns.length+3≤1000000)(hl:Xb.length≤1000000)(hk:∀j:Int,1≤j→j≤13→Xa≠j):Calls Tryz.prog 73 #[.pointer (some ⟨b,0,none⟩),.agg (OpD.cells ⟨Xa,a,b2,c,Xe,space,name,s,t,Xb⟩ av).toArray] w (Yk A ρ b w (Xl (0,0))):=by
 have hs1:A.ns.length≤1000000:=by omega
 obtain⟨aa,ac,rfl,-⟩:=hv.form
 have hB:=Xw w (.cells (OpD.cells ⟨Xa,a,b2,c,Xe,space,name,s,t,Xb⟩ (.slice aa Xb.length ac)).toArray 46)
 have hA1:=hA.below hB
 have hv1:=hv.below hB
 unfold OpD.cells at*
 have e1:(Xa==1)=false:=by simp[hk 1 (by omega) (by omega)]
 have e2:(Xa==2)=false:=by simp[hk 2 (by omega) (by omega)]
 have e3:(Xa==3)=false:=by simp[hk 3 (by omega) (by omega)]
 have e4:(Xa==4)=false:=by simp[hk 4 (by omega) (by omega)]
 have e5:(Xa==5)=false:=by simp[hk 5 (by omega) (by omega)]
 have e6:(Xa==6)=false:=by simp[hk 6 (by omega) (by omega)]
 have e7:(Xa==7)=false:=by simp[hk 7 (by omega) (by omega)]
 have e8:(Xa==8)=false:=by simp[hk 8 (by omega) (by omega)]
 have e9:(Xa==9)=false:=by simp[hk 9 (by omega) (by omega)]
 have e10:(Xa==10)=false:=by simp[hk 10 (by omega) (by omega)]
 have e11:(Xa==11)=false:=by simp[hk 11 (by omega) (by omega)]
 have e12:(Xa==12)=false:=by simp[hk 12 (by omega) (by omega)]
 have e13:(Xa==13)=false:=by simp[hk 13 (by omega) (by omega)]
 have HB:=Xqh hB
 have HA1:=Xqh hA1
 clear hB hA hA1 hv hv1 hW hk
 go_enter Tryz.func73,Tryz.ntmps73
 go_wp2
 go_ret2
 exact⟨rfl,ρ,HA1.out,Xr.below HB.out⟩
theorem Xj6 (A:Ar)(ρ:Nat→Nat)(b:Nat)(x:OpD)(av:Value)(w:World)(hA:Xz w ρ b A)(hW:A.WF)(hv:XE w av x.Xb)(hsmall:A.ns.length+3≤1000000)(hl:x.Xb.length≤1000000):Calls Tryz.prog 73 #[.pointer (some ⟨b,0,none⟩),.agg (x.cells av).toArray] w (Yk (A.step x).2 ρ b w (Xl (A.step x).1)):=by
 obtain⟨Xa,a,b2,c,Xe,space,name,s,t,Xb⟩:=x
 by_cases h1:Xa=1
 ·subst h1;exact XjS A ρ b a b2 c Xe space name s t Xb av w hA hW hv hsmall hl
 by_cases h2:Xa=2
 ·subst h2;exact XjT A ρ b a b2 c Xe space name s t Xb av w hA hW hv hsmall hl
 by_cases h3:Xa=3
 ·subst h3;exact XjU A ρ b a b2 c Xe space name s t Xb av w hA hW hv hsmall hl
 by_cases h4:Xa=4
 ·subst h4;exact XjV A ρ b a b2 c Xe space name s t Xb av w hA hW hv hsmall hl
 by_cases h5:Xa=5
 ·subst h5;exact XjW A ρ b a b2 c Xe space name s t Xb av w hA hW hv hsmall hl
 by_cases h6:Xa=6
 ·subst h6;exact XjX A ρ b a b2 c Xe space name s t Xb av w hA hW hv hsmall hl
 by_cases h7:Xa=7
 ·subst h7;exact XjY A ρ b a b2 c Xe space name s t Xb av w hA hW hv hsmall hl
 by_cases h8:Xa=8
 ·subst h8;exact XjZ A ρ b a b2 c Xe space name s t Xb av w hA hW hv hsmall hl
 by_cases h9:Xa=9
 ·subst h9;exact Xj0 A ρ b a b2 c Xe space name s t Xb av w hA hW hv hsmall hl
 by_cases h10:Xa=10
 ·subst h10;exact Xj1 A ρ b a b2 c Xe space name s t Xb av w hA hW hv hsmall hl
 by_cases h11:Xa=11
 ·subst h11;exact Xj2 A ρ b a b2 c Xe space name s t Xb av w hA hW hv hsmall hl
 by_cases h12:Xa=12
 ·subst h12;exact Xj3 A ρ b a b2 c Xe space name s t Xb av w hA hW hv hsmall hl
 by_cases h13:Xa=13
 ·subst h13;exact Xj4 A ρ b a b2 c Xe space name s t Xb av w hA hW hv hsmall hl
 have hz:A.step ⟨Xa,a,b2,c,Xe,space,name,s,t,Xb⟩=((0,0),A):=by simp[Ar.step,h1,h2,h3,h4,h5,h6,h7,h8,h9,h10,h11,h12,h13]
 rw[hz]
 exact Xj5 A ρ b Xa a b2 c Xe space name s t Xb av w hA hW hv hsmall hl (fun j h1 h2 e=>by omega)
end
section
open Go.RowKit Go.ChangeShapes Go.WideShapes Go.Deep
section
variable {H : Type} {enc : TypeId × Value → H} {P : Program} {w : World} {base : Nat} {spare : Nat → Bool} {held : Bool}
theorem open_slice_fields {t e:TypeId}{fs:Array Field}{fuel:Nat}{cs:List Value}{x:DataW H×List MemPlace}(ht:P.underlying t=some (.slice e))(he:P.underlying e=some (.struct fs))(hone:oneCellFields P fs=true)(hC:P.cellsOf e=fs.size)(h:DataW.trod enc P w base spare held fuel t cs=some x):cs= [.slice none 0 0]∨∃(a:Addr)(len cap:Nat)(D:Nat→DataW H),cs= [.slice (some a) len cap]∧len≤cap∧cap≤maxLen∧∀i,i<len→∃(ys:List (DataW H×List MemPlace))(n:Nat),∀(j:Nat)(f:Field),fs[j]?=some f→∃(v:Value)(y:DataW H×List MemPlace),w.cell? (a.add (i*fs.size+j))=some v∧ys[j]?=some y∧DataW.trod enc P w base spare held n f.type [v]=some y:=by
 rcases open_slice ht h with h0|⟨a,len,cap,m,n,D,Pl,hcs,hb,hl,hm,hmm,hx,hi⟩
 ·exact .inl h0.1
 ·refine .inr ⟨a,len,cap,D,hcs,hl,hm,fun i hil=>?_⟩;have him:i<m:=by{rw[hmm];split<;>omega};obtain⟨cs',hc,ht'⟩:=hi i him;rw[hC]at hc;obtain⟨ys,n',hn',hy,hlen,hyl,hf⟩:=DataW.trod_struct he ht';obtain⟨_,hcl,hat⟩:=World.cells?_some hc;refine⟨ys,n',fun j f hj=>?_⟩;obtain⟨ho,hk⟩:=hone_of hone j f hj;have hjl:j<fs.size:=(Array.getElem?_eq_some_iff.1 hj).1;have hcell:=hat j hjl;have hv:cs'[j]?=some (cs'[j]'(by omega)):=List.getElem?_eq_getElem (by omega);have h1:=hf j f hj;rw[ho,hk]at h1;have hone':(cs'.drop j).take 1= [cs'[j]'(by omega)]:=by{rw[List.drop_eq_getElem_cons (by omega)];rfl};rw[hone']at h1;have hys:ys[j]?=some (ys[j]'(by omega)):=List.getElem?_eq_getElem (by omega);refine⟨_,_,?_,hys,h1.trans hys⟩;rw[←Go.Deep.add_add,hcell,hv]
end
theorem spot_none {w:World}{a:Addr}{v:Value}(h:w.cell? a=some v):a.spot=none:=by
 unfold World.cell? at h
 split at h
 ·split at h;·{cases h};·rename_i hs;simpa using hs
 ·cases h
theorem list_of {α:Type}(Q:Nat→α→Prop):∀n:Nat,(∀i,i<n→∃x,Q i x)→∃l:List α,l.length=n∧∀i x,l[i]?=some x→Q i x
 |0,_=>⟨[],rfl,fun i x h=>by simp at h⟩
 |n+1,h=>by{obtain⟨l,hl,hq⟩:=list_of Q n (fun i hi=>h i (by omega));obtain⟨x,hx⟩:=h n (by omega);refine⟨l++ [x],by simp[hl],fun i y hy=>?_⟩;rw[List.getElem?_append]at hy;split at hy;·{exact hq i y hy};·have:i=n:=by{have:=(List.getElem?_eq_some_iff.1 hy).1;simp at this;omega};subst this;simp[hl]at hy;subst hy;exact hx}
theorem XcP :∀l:List Xm,(l.flatMap Xv).length=l.length*3
 | []=>rfl
 |a::l=>by{simp only[List.flatMap_cons,List.length_append,XcP l,List.length_cons];simp[Xv];omega}
/-- The cells of an operation at an offset. -/
structure OpF (w : World) (b o : Nat) (x : OpD) (av : Value) : Prop where
  c : ∀ j v, (x.cells av)[j]? = some v → w.cell? ⟨b, o + j, none⟩ = some v
  at' : XE w av x.Xb
/-- A slice of operations. -/
def JW (w : World) (v : Value) (l : List OpD) : Prop :=
  ∃ a c, v = .slice a l.length c ∧ l.length ≤ c ∧ c ≤ 9223372036854775807 ∧ (0 < l.length → ∃ b o, a = some ⟨b, o, none⟩ ∧ ∀ i x, l[i]? = some x → ∃ av, OpF w b (o + i * 10) x av)
theorem JW.below {w w':World}{v:Value}{l:List OpD}(h:JW w v l)(hb:Below w.heap.size w w'):JW w' v l:=by
 obtain⟨a,c,h1,h2,h3,h4⟩:=h
 refine⟨a,c,h1,h2,h3,fun hn=>?_⟩
 obtain⟨b,o,h5,h6⟩:=h4 hn
 refine⟨b,o,h5,fun i x hx=>?_⟩
 obtain⟨av,h7⟩:=h6 i x hx
 exact⟨av,fun j v hv=>Below.old hb (h7.c j v hv),h7.at'.below hb⟩
section
variable {H : Type} {enc : TypeId × Value → H} {w : World} {base : Nat} {spare : Nat → Bool} {held : Bool}
theorem open_attrs {fuel:Nat}{v:Value}{x:DataW H×List MemPlace}(h:DataW.trod enc Tryz.prog w base spare held fuel 39 [v]=some x):∃l:List Xm,XE w v l:=by
 rcases open_slice_fields Tryz.underlying39 Tryz.underlying120 (by kernel_rfl) (by kernel_rfl) h with h0|⟨a,len,cap,D,hcs,hl,hm,hi⟩
 ·simp at h0;subst h0;exact⟨[],rfl,none,0,rfl,Nat.le_refl _,Nat.zero_le _,fun h=>absurd h (by simp)⟩
 ·simp at hcs;subst hcs;have hq:∀i,i<len→∃y:Xm,w.cell? (a.add (i*3+0))=some (.int .i64 y.1)∧w.cell? (a.add (i*3+1))=some (.string y.2.1)∧w.cell? (a.add (i*3+2))=some (.string y.2.2):=by{intro i hil;obtain⟨ys,n,hf⟩:=hi i hil;obtain⟨v0,y0,c0,-,t0⟩:=hf 0 _ rfl;obtain⟨v1,y1,c1,-,t1⟩:=hf 1 _ rfl;obtain⟨v2,y2,c2,-,t2⟩:=hf 2 _ rfl;obtain⟨s,e0,-⟩:=DataW.trod_int Tryz.underlying38 t0;obtain⟨nm,e1,-⟩:=DataW.trod_string Tryz.underlying9 t1;obtain⟨vl,e2,-⟩:=DataW.trod_string Tryz.underlying9 t2;simp at e0 e1 e2;subst e0;subst e1;subst e2;exact⟨(s,nm,vl),c0,c1,c2⟩};obtain⟨l,hll,hlq⟩:=list_of _ len hq;subst hll;refine⟨l,XcP l,some a,cap,rfl,hl,hm,fun hp=>?_⟩;have hsp:a.spot=none:=by{obtain⟨q,-⟩:=hlq 0 _ (List.getElem?_eq_getElem hp);exact spot_none (by simpa[Addr.add]using q)};obtain⟨b,o,sp⟩:=a;simp at hsp;subst hsp;refine⟨b,o,rfl,fun j x hx=>?_⟩;have hj:j<l.length*3:=by{have:=(List.getElem?_eq_some_iff.1 hx).1;rwa[XcP]at this};have h3:j=3*(j/3)+j%3:=by{omega};have hy:l[j/3]?=some (l[j/3]'(by omega)):=List.getElem?_eq_getElem (by omega);rw[h3,XdQ hy _ (by omega)]at hx;have hq:=hlq _ _ hy;have hm3:j%3<3:=by{omega};generalize j%3=r at*;rw[h3];simp only[Addr.add_mid]at hq;rcases(show r=0∨r=1∨r=2 by omega)with rfl|rfl|rfl;·{simp[Xv]at hx;subst hx;rw[show o+(3*(j/3)+0)=o+(j/3*3+0)by(omega)];exact hq.1};·{simp[Xv]at hx;subst hx;rw[show o+(3*(j/3)+1)=o+(j/3*3+1)by(omega)];exact hq.2.1};·simp[Xv]at hx;subst hx;rw[show o+(3*(j/3)+2)=o+(j/3*3+2)by(omega)];exact hq.2.2
theorem open_ops {fuel:Nat}{v:Value}{x:DataW H×List MemPlace}(h:DataW.trod enc Tryz.prog w base spare held fuel 22 [v]=some x):∃l:List OpD,JW w v l:=by
 rcases open_slice_fields Tryz.underlying22 Tryz.underlying46 (by kernel_rfl) (by kernel_rfl) h with h0|⟨a,len,cap,D,hcs,hl,hm,hi⟩
 ·simp at h0;subst h0;exact⟨[],none,0,rfl,Nat.le_refl _,Nat.zero_le _,fun h=>absurd h (by simp)⟩
 ·simp at hcs;subst hcs;have hq:∀i,i<len→∃y:OpD,∃av,(∀j v,(y.cells av)[j]?=some v→w.cell? (a.add (i*10+j))=some v)∧XE w av y.Xb:=by{intro i hil;obtain⟨ys,n,hf⟩:=hi i hil;obtain⟨v0,y0,c0,-,t0⟩:=hf 0 _ rfl;obtain⟨v1,y1,c1,-,t1⟩:=hf 1 _ rfl;obtain⟨v2,y2,c2,-,t2⟩:=hf 2 _ rfl;obtain⟨v3,y3,c3,-,t3⟩:=hf 3 _ rfl;obtain⟨v4,y4,c4,-,t4⟩:=hf 4 _ rfl;obtain⟨v5,y5,c5,-,t5⟩:=hf 5 _ rfl;obtain⟨v6,y6,c6,-,t6⟩:=hf 6 _ rfl;obtain⟨v7,y7,c7,-,t7⟩:=hf 7 _ rfl;obtain⟨v8,y8,c8,-,t8⟩:=hf 8 _ rfl;obtain⟨v9,y9,c9,-,t9⟩:=hf 9 _ rfl;obtain⟨x0,e0,-⟩:=DataW.trod_int Tryz.underlying3 t0;obtain⟨x1,e1,-⟩:=DataW.trod_int Tryz.underlying3 t1;obtain⟨x2,e2,-⟩:=DataW.trod_int Tryz.underlying3 t2;obtain⟨x3,e3,-⟩:=DataW.trod_int Tryz.underlying3 t3;obtain⟨x4,e4,-⟩:=DataW.trod_bool Tryz.underlying4 t4;obtain⟨x5,e5,-⟩:=DataW.trod_int Tryz.underlying38 t5;obtain⟨x6,e6,-⟩:=DataW.trod_string Tryz.underlying9 t6;obtain⟨x7,e7,-⟩:=DataW.trod_string Tryz.underlying9 t7;obtain⟨x8,e8,-⟩:=DataW.trod_string Tryz.underlying9 t8;obtain⟨l,hl⟩:=open_attrs t9;simp at e0 e1 e2 e3 e4 e5 e6 e7 e8;subst e0;subst e1;subst e2;subst e3;subst e4;subst e5;subst e6;subst e7;subst e8;refine⟨⟨x0,x1,x2,x3,x4,x5,x6,x7,x8,l⟩,v9,fun j v hv=>?_,hl⟩;have hj:j<10:=(List.getElem?_eq_some_iff.1 hv).1;rcases(show j=0∨j=1∨j=2∨j=3∨j=4∨j=5∨j=6∨j=7∨j=8∨j=9 by omega)with rfl|rfl|rfl|rfl|rfl|rfl|rfl|rfl|rfl|rfl<;>(simp[OpD.cells]at hv;subst hv;assumption)};obtain⟨l,hll,hlq⟩:=list_of _ len hq;subst hll;refine⟨l,some a,cap,rfl,hl,hm,fun hp=>?_⟩;have hsp:a.spot=none:=by{obtain⟨av,q,-⟩:=hlq 0 _ (List.getElem?_eq_getElem hp);exact spot_none (by simpa[Addr.add]using q 0 _ rfl)};obtain⟨b,o,sp⟩:=a;simp at hsp;subst hsp;refine⟨b,o,rfl,fun i x hx=>?_⟩;obtain⟨av,q,hA⟩:=hlq i x hx;refine⟨av,fun j v hv=>?_,hA⟩;have:=q j v hv;rw[Addr.add_mid]at this;rw[show o+i*10+j=o+(i*10+j)by(omega)];exact this
end
end
section
theorem Ar.Inv.make {A:Ar}(hI:A.Inv){d:Int}{n:Nd}(hk:n.Xc= [])(hp:n.Xd=0)(hh:n.host=0)(hc:n.Xg=0)(hl:n.Local)(h1:n.Xa≠1)(h4:n.Xa≠4):(A.make d n).2.Inv:=by
 unfold Ar.make
 by_cases he:A.XA d≠0
 ·rw[if_pos he];exact hI
 ·rw[if_neg he];have he':A.XA d=0:=Classical.not_not.1 he;refine hI.added (n:={n with doc:=d}) hk hp hh hc ⟨hl.k1,hl.k6,hl.sp,hl.at1,hl.at2,hl.at3,hl.el,hl.nm,hl.ps,hl.da,hl.qu⟩ (.inl ⟨JV he',Xd8 he',h1⟩) (.inl ⟨rfl,fun h=>h4 h.1⟩)
theorem Xgx (a b c:ByteArray):(YT a b c).Local:=⟨by simp[YT],by simp[YT],by simp[YT,XS,XL],by simp[YT,Ys,XL],rfl,by simp[YT,XL],fun _=>⟨rfl,rfl⟩,fun _ h=>absurd rfl h,fun h=>absurd rfl h,fun _ _=>rfl,fun _=>rfl⟩
theorem JX (a:ByteArray):(Xs a).Local:=⟨by simp[Xs],by simp[Xs],by simp[Xs,XS,XL],by simp[Xs,Ys,XL],rfl,by simp[Xs,XL],fun _=>⟨rfl,rfl⟩,fun _ _=>rfl,fun _=>⟨rfl,rfl⟩,fun h=>absurd rfl h,fun _=>rfl⟩
theorem Xgy (a:ByteArray):(YZ a).Local:=⟨by simp[YZ],by simp[YZ],by simp[YZ,XS,XL],by simp[YZ,Ys,XL],rfl,by simp[YZ,XL],fun _=>⟨rfl,rfl⟩,fun _ _=>rfl,fun _=>⟨rfl,rfl⟩,fun _ h=>absurd rfl h,fun _=>rfl⟩
theorem Xgz :Zm.Local:=Xgc (d:=0) (h:=0)
theorem Ar.Inv.YA {A:Ar}(hI:A.Inv)(d:Int):(A.YA d).2.Inv:=by
 unfold Ar.YA
 by_cases he:A.XA d≠0
 ·rw[if_pos he];exact hI
 ·rw[if_neg he];exact Ar.XC.Xq hI (JV (Classical.not_not.1 he))
theorem Ar.Inv.element {A:Ar}(hI:A.Inv)(d s:Int)(name:ByteArray)(l:List Xm)(hl:l.length≤1000):(A.element d s name l).2.Inv:=by
 by_cases he:A.XA d=0
 ·have hd:=JV he;have hdk:=Xd8 he;by_cases hs:XS s∧Ys l;·{by_cases ht:XN (XJ d s name l);·{rw[XaN he hs ht];have h1:(A.add (XJ d s name l)).XC (A.n+1):=Ar.XC.added hI rfl rfl rfl rfl (XbL hs.1 hs.2 hl) (.inl ⟨hd,hdk,by simp[XJ]⟩) (.inr ⟨rfl,rfl⟩);have hd1:(A.add (XJ d s name l)).has d:=(Ar.XO _ _ _).2 (.inl hd);have h2:=h1.Xq hd1;obtain⟨v1,v2⟩:=h1.Xbb hd1;have hx:=Ar.JS (d:=d) (A:=A.add (XJ d s name l)) (x:=A.n+1) ((Ar.XO _ _ _).2 (.inr rfl));exact h2.Xg hx.2 (by rw[hx.1,Ar.YS];exact ht) v1 v2};·rw[XaM he hs ht];exact Ar.XC.added hI rfl rfl rfl rfl (XbL hs.1 hs.2 hl) (.inl ⟨hd,hdk,by simp[XJ]⟩) (.inl ⟨rfl,ht⟩)};·rw[XaL he hs];exact hI
 ·have:A.element d s name l=((0,A.XA d),A):=by{simp[Ar.element,he]};rw[this];exact hI
theorem Ar.Inv.XG {A:Ar}(hI:A.Inv)(h:Int)(s:ByteArray):(A.XG h s).2.Inv:=by
 unfold Ar.XG
 split
 ·exact hI
 ·rename_i hh;have hh:=Classical.not_not.1 hh;split;·{exact hI};·rename_i hk;have hk:=Classical.not_not.1 hk;have:=hI.loc h hh;refine Ar.XC.Xcu hI hh _ ⟨rfl,rfl,rfl,rfl,rfl,rfl,rfl⟩ ⟨this.k1,this.k6,this.sp,this.at1,this.at2,this.at3,this.el,this.nm,this.ps,fun a b=>?_,this.qu⟩ (.inl rfl);rcases hk with hk|hk;·{exact absurd hk a};·exact absurd hk b
theorem Ar.Inv.X0 {A:Ar}(hI:A.Inv)(h:Int)(l:List Xm)(hl:l.length≤1000):(A.X0 h l).2.Inv:=by
 unfold Ar.X0
 split
 ·exact hI
 ·rename_i hh;have hh:=Classical.not_not.1 hh;split;·{exact hI};·rename_i hk;have hk:=Classical.not_not.1 hk;split;·{exact hI};·rename_i hs;have hs:=Classical.not_not.1 hs;have:=hI.loc h hh;exact Ar.XC.Xcu hI hh _ ⟨rfl,rfl,rfl,rfl,rfl,rfl,rfl⟩ ⟨this.k1,this.k6,this.sp,fun a q=>hs a (Xf9 q),Xgb l,Nat.le_trans (Xcz l) hl,fun a=>absurd hk a,this.nm,this.ps,this.da,this.qu⟩ (.inl rfl)
theorem Ar.Inv.YQ {A:Ar}(hI:A.Inv)(h:Int)(q:Bool):(A.YQ h q).2.Inv:=by
 unfold Ar.YQ
 split
 ·exact hI
 ·rename_i hh;have hh:=Classical.not_not.1 hh;split;·{exact hI};·rename_i hk;have hk:=Classical.not_not.1 hk;have:=hI.loc h hh;exact Ar.XC.Xcu hI hh _ ⟨rfl,rfl,rfl,rfl,rfl,rfl,rfl⟩ ⟨this.k1,this.k6,this.sp,this.at1,this.at2,this.at3,this.el,this.nm,this.ps,this.da,fun a=>absurd hk a⟩ (.inl rfl)
theorem Ar.Inv.Xt {A:Ar}(hI:A.Inv)(h d:Int):(A.Xt h d).2.Inv:=by
 unfold Ar.Xt
 split
 ·exact hI
 ·rename_i hh;have hh1:A.has h:=Classical.not_not.1 (fun e=>hh (.inl e));have hh2:A.has d:=Classical.not_not.1 (fun e=>hh (.inr e));split;·{exact hI};·rename_i hk;have hk1:(A.get h).Xa≠1:=fun e=>hk (.inl e);have hk2:(A.get d).Xa=1:=Classical.not_not.1 (fun e=>hk (.inr e));have:=hI.loc h hh1;exact Ar.XC.Xcu hI hh1 _ ⟨rfl,rfl,rfl,rfl,rfl,rfl,rfl⟩ ⟨this.k1,this.k6,this.sp,this.at1,this.at2,this.at3,this.el,this.nm,this.ps,this.da,this.qu⟩ (.inr ⟨hh2,hk2,hk1⟩)
theorem Ar.Inv.XR {A:Ar}(hI:A.Inv)(h:Int):(A.XR h).2.Inv:=by
 unfold Ar.XR
 split
 ·rename_i hh;exact Ar.XC.cut hI hh
 ·exact hI
theorem Xem {A:Ar}{Xd node before:Int}{c:Bool}(h:A.allowed Xd node before c=0):A.has Xd∧A.has node∧(before≠0→A.has before∧before≠node∧(A.get before).Xd=Xd)∧((A.get Xd).Xa=1∨(A.get Xd).Xa=2∨(A.get Xd).Xa=4)∧((A.get node).Xa≠1∧(A.get node).Xa≠2)∧c=false:=by
 unfold Ar.allowed at h
 split at h
 ·exact absurd h (by decide)
 ·rename_i h1;split at h;·{exact absurd h (by decide)};·rename_i h2;split at h;·{exact absurd h (by decide)};·rename_i h3;split at h;·{exact absurd h (by decide)};·rename_i h4;refine⟨Classical.not_not.1 (fun e=>h1 (.inl e)),Classical.not_not.1 (fun e=>h1 (.inr (.inl e))),fun hb=>⟨Classical.not_not.1 (fun e=>h1 (.inr (.inr ⟨hb,e⟩))),fun e=>h4 ⟨hb,.inl e⟩,Classical.not_not.1 (fun e=>h4 ⟨hb,.inr e⟩)⟩,Classical.not_not.1 h2,⟨fun e=>h3 (.inl e),fun e=>h3 (.inr (.inl e))⟩,?_⟩;cases c;·{rfl};·exact absurd (.inr (.inr rfl)) h3
theorem Ar.Inv.put {A:Ar}(hI:A.Inv)(Xd node before:Int):(A.put Xd node before).2.Inv:=by
 unfold Ar.put
 split
 ·exact hI
 ·rename_i h;obtain⟨h1,h2,h3,h4,h5,h6⟩:=Xem (Classical.not_not.1 h);exact Ar.XC.place hI h1 h2 h3 h4 h5 h6
theorem XbS {A:Ar}{x:OpD}{P:(Int×Int)×Ar→Prop}(h1:x.Xa=1→P (((A.n+1,0),A.Xn x.Xe)))(h2:x.Xa=2→P (A.make x.a (YT x.name x.s x.t)))(h3:x.Xa=3→P (A.element x.a x.space x.name x.Xb))(h4:x.Xa=4→P (A.make x.a (Xs x.s)))(h5:x.Xa=5→P (A.make x.a (YZ x.s)))(h6:x.Xa=6→P (A.make x.a Zm))(h7:x.Xa=7→P (A.YA x.a))(h8:x.Xa=8→P (((0,(A.put x.a x.b x.c).1),(A.put x.a x.b x.c).2)))(h9:x.Xa=9→P (((0,(A.XR x.a).1),(A.XR x.a).2)))(h10:x.Xa=10→P (((0,(A.XG x.a x.s).1),(A.XG x.a x.s).2)))(h11:x.Xa=11→P (((0,(A.X0 x.a x.Xb).1),(A.X0 x.a x.Xb).2)))(h12:x.Xa=12→P (((0,(A.YQ x.a x.Xe).1),(A.YQ x.a x.Xe).2)))(h13:x.Xa=13→P (((0,(A.Xt x.a x.b).1),(A.Xt x.a x.b).2)))(h0:(∀j:Int,1≤j→j≤13→x.Xa≠j)→P ((0,0),A)):P (A.step x):=by
 unfold Ar.step
 by_cases e1:x.Xa=1
 ·rw[if_pos e1];exact h1 e1
 rw[if_neg e1]
 by_cases e2:x.Xa=2
 ·rw[if_pos e2];exact h2 e2
 rw[if_neg e2]
 by_cases e3:x.Xa=3
 ·rw[if_pos e3];exact h3 e3
 rw[if_neg e3]
 by_cases e4:x.Xa=4
 ·rw[if_pos e4];exact h4 e4
 rw[if_neg e4]
 by_cases e5:x.Xa=5
 ·rw[if_pos e5];exact h5 e5
 rw[if_neg e5]
 by_cases e6:x.Xa=6
 ·rw[if_pos e6];exact h6 e6
 rw[if_neg e6]
 by_cases e7:x.Xa=7
 ·rw[if_pos e7];exact h7 e7
 rw[if_neg e7]
 by_cases e8:x.Xa=8
 ·rw[if_pos e8];exact h8 e8
 rw[if_neg e8]
 by_cases e9:x.Xa=9
 ·rw[if_pos e9];exact h9 e9
 rw[if_neg e9]
 by_cases e10:x.Xa=10
 ·rw[if_pos e10];exact h10 e10
 rw[if_neg e10]
 by_cases e11:x.Xa=11
 ·rw[if_pos e11];exact h11 e11
 rw[if_neg e11]
 by_cases e12:x.Xa=12
 ·rw[if_pos e12];exact h12 e12
 rw[if_neg e12]
 by_cases e13:x.Xa=13
 ·rw[if_pos e13];exact h13 e13
 rw[if_neg e13]
 exact h0 (fun j h1 h2 e=>by omega)
theorem Ar.Inv.step {A:Ar}(hI:A.Inv)(x:OpD)(hl:x.Xb.length≤20):(A.step x).2.Inv:=by
 refine XbS (P:=fun r=>r.2.Inv) ?_ ?_ ?_ ?_ ?_ ?_ ?_ ?_ ?_ ?_ ?_ ?_ ?_ ?_<;>intro _
 ·exact Ar.XC.Xn hI _
 ·exact hI.make rfl rfl rfl rfl (Xgx _ _ _) (by simp[YT]) (by simp[YT])
 ·exact hI.element _ _ _ _ (Nat.le_trans hl (by omega))
 ·exact hI.make rfl rfl rfl rfl (JX _) (by simp[Xs]) (by simp[Xs])
 ·exact hI.make rfl rfl rfl rfl (Xgy _) (by simp[YZ]) (by simp[YZ])
 ·exact hI.make rfl rfl rfl rfl Xgz (by simp[Zm]) (by simp[Zm])
 ·exact hI.YA _
 ·exact hI.put _ _ _
 ·exact hI.XR _
 ·exact hI.XG _ _
 ·exact hI.X0 _ _ (Nat.le_trans hl (by omega))
 ·exact hI.YQ _ _
 ·exact hI.Xt _ _
 ·exact hI
theorem Xen :Ar.new.Inv:=by
 have hno:∀h,¬Ar.new.has h:=fun h hh=>by have h1:=hh.1;have h2:=hh.2;simp[Ar.new,Ar.n]at h2;omega
 refine⟨⟨fun h hh=>absurd hh (hno h),fun h hh=>absurd hh (hno h),fun h hh=>absurd hh (hno h),fun h hh=>absurd hh (hno h),rfl⟩,fun h hh=>absurd hh (hno h),fun h hh=>absurd hh (hno h),fun h hh=>absurd hh (hno h),fun h hh=>absurd hh (hno h),fun h hh=>absurd hh (hno h),fun h hh=>absurd hh (hno h),fun h hh=>absurd hh (hno h),fun h hh=>absurd hh (hno h),rfl,fun d hd=>?_⟩
 exfalso
 apply hd
 unfold Ar.Xu
 cases h:Ar.new.Xh[d.toNat]? with|none=>{rfl}|some x=>have:=List.mem_of_getElem? h;simp[Ar.new]at this;simp[this]
/-- How much an operation adds; what was there stays there, with its Xa. -/
structure Ar.Ext (A A' : Ar) : Prop where
  le : A.ns.length ≤ A'.ns.length
  Xa : ∀ x, A.has x → (A'.get x).Xa = (A.get x).Xa
theorem Xaj (A:Ar)(x:Int)(f:Nd→Nd):(A.mod x f).ns.length=A.ns.length:=by
 simp[Ar.mod]
theorem JY (A:Ar)(n:Nd):(A.add n).ns.length=A.ns.length+1:=by
 simp[Ar.add]
theorem JM (A:Ar)(d:Int)(n:Nd):(A.make d n).2.ns.length≤A.ns.length+3:=by
 unfold Ar.make
 split
 ·exact Nat.le_add_right _ _
 ·rw[JY];omega
theorem XgA (A:Ar)(x:OpD):(A.step x).2.ns.length≤A.ns.length+3:=by
 have hcut:∀h,(A.cut h).ns.length=A.ns.length:=Ar.YY A
 refine XbS (P:=fun r=>r.2.ns.length≤A.ns.length+3) ?_ ?_ ?_ ?_ ?_ ?_ ?_ ?_ ?_ ?_ ?_ ?_ ?_ ?_<;>intro _
 ·dsimp only[Ar.Xn];rw[JY];omega
 ·exact JM A _ _
 ·unfold Ar.element;split;·{exact Nat.le_add_right _ _};·split;·{exact Nat.le_add_right _ _};·dsimp only;split;·{rw[Xaj,JY];refine Nat.le_trans (Nat.succ_le_succ (Ar.XaK _ _).2) ?_;rw[JY];omega};·rw[JY];omega
 ·exact JM A _ _
 ·exact JM A _ _
 ·exact JM A _ _
 ·unfold Ar.YA;split;·{exact Nat.le_add_right _ _};·have:=(Ar.XaK A x.a).2;dsimp only;omega
 ·dsimp only;unfold Ar.put;split;·{exact Nat.le_add_right _ _};·have:=Ar.XaI A x.a x.b x.c;unfold Ar.n at this;dsimp only;omega
 ·dsimp only;unfold Ar.XR;split;·{dsimp only;rw[hcut];omega};·exact Nat.le_add_right _ _
 ·dsimp only;unfold Ar.XG;(repeat' split);(all_goals(dsimp only;try rw[Xaj]);try omega);all_goals exact Nat.le_add_right _ _
 ·dsimp only;unfold Ar.X0;(repeat' split);(all_goals(dsimp only;try rw[Xaj]);try omega);all_goals exact Nat.le_add_right _ _
 ·dsimp only;unfold Ar.YQ;(repeat' split);(all_goals(dsimp only;try rw[Xaj]);try omega);all_goals exact Nat.le_add_right _ _
 ·dsimp only;unfold Ar.Xt;(repeat' split);(all_goals(dsimp only;try rw[Xaj]);try omega);all_goals exact Nat.le_add_right _ _
 ·exact Nat.le_add_right _ _
end
section
open Go.RowKit
def XcQ (a : Xm) : Prop := a.2.1.size ≤ 400 ∧ a.2.2.size ≤ 400
instance (a : Xm) : Decidable (XcQ a) := inferInstanceAs (Decidable (_ ∧ _))
def XaP (l : List Xm) : Prop := l.length ≤ 20 ∧ ∀ a ∈ l, XcQ a
instance (l : List Xm) : Decidable (XaP l) := inferInstanceAs (Decidable (_ ∧ _))
def ZC (x : OpD) : Prop := x.name.size ≤ 400 ∧ x.s.size ≤ 400 ∧ x.t.size ≤ 400 ∧ XaP x.Xb
instance (x : OpD) : Decidable (ZC x) := inferInstanceAs (Decidable (_ ∧ _))
def XaQ (l : List OpD) (most : Int) : Prop := (l.length : Int) ≤ most ∧ ∀ x ∈ l, ZC x
instance (l : List OpD) (most : Int) : Decidable (XaQ l most) := inferInstanceAs (Decidable (_ ∧ _))
theorem Xj7 (v:Value)(l:List Xm)(w:World)(hv:XE w v l):Calls Tryz.prog 87 #[v] w fun e w'=>e= .returned (.bool (decide (XaP l)))∧w=w':=by
 obtain⟨av,cv,rfl,hc1,hc2,hc3⟩:=hv.form
 go_enter Tryz.func87,Tryz.ntmps87
 go_wp2
 go_loop [3](fun i=>∃k:Nat,k≤l.length∧i= .int .i64 k∧Hid (k≤21∧∀j x,j<k→l[j]?=some x→XcQ x))(fun i=>l.length-(intOf i).toNat)
 case atStart=>exact⟨0,Nat.zero_le _,rfl,by omega,fun j x hj=>by omega⟩
 case round=>obtain⟨k,hk,rfl,hT⟩:=hrel;by_cases hlt:k<l.length;·{by_cases h20:k≤20;·{obtain⟨b1,o1,rfl,hcs⟩:=hc3 (by omega);obtain⟨x,hx⟩:∃x,l[k]?=some x:=⟨_,List.getElem?_eq_getElem hlt⟩;obtain⟨-,c1,c2⟩:=hcs k x hx;clear hc3 hcs;have hno:¬XcQ x→¬XaP l:=fun h hall=>h (hall.2 x (List.mem_of_getElem? hx));have HNO:=Xqh hno;have HX:=Xqh hx;have h20':(k:Int)≤20:=by{omega};clear hno hx;by_cases h1:(400:Int)<x.2.1.size;·{go_wp2;go_ret;exact⟨XW (decide_eq_false (HNO.out (fun h=>by have:=h.1;omega))).symm,rfl⟩};·by_cases h2:(400:Int)<x.2.2.size;·{go_wp2;go_ret;exact⟨XW (decide_eq_false (HNO.out (fun h=>by have:=h.2;omega))).symm,rfl⟩};·have h3:(x.2.1.size:Int)≤400:=by{omega};have h4:(x.2.2.size:Int)≤400:=by{omega};clear h1 h2;go_wp2;go_round;(case rel=>exact⟨k+1,hlt,by go_num,by omega,fun j y hj hy=>by by_cases hjk:j<k;·{exact hT.out.2 j y hjk hy};·have:j=k:=by{omega};rw[this,HX.out]at hy;simp at hy;subst hy;exact⟨by omega,by omega⟩⟩);case measure=>simp[intOf];omega};·have h20':(20:Int)<k:=by{omega};have h20n:(20:Int)<l.length:=by{omega};go_wp2;go_ret;exact⟨XW (by rw[decide_eq_false (show¬(l.length:Int)≤20 by omega),decide_eq_false (show¬XaP l from fun h=>by have:=h.1;omega)]),rfl⟩};·have hfin:decide (XaP l)=decide ((l.length:Int)≤20):=by{have:k=l.length:=by{omega};subst this;rw[Bool.eq_iff_iff];simp only[decide_eq_true_eq];exact⟨fun h=>by have:=h.1;omega,fun h=>⟨by omega,fun a ha=>by obtain⟨j,hj,rfl⟩:=List.getElem_of_mem ha;exact hT.out.2 j _ hj (List.getElem?_eq_getElem hj)⟩⟩};have HF:=Xqh hfin;clear hfin;go_wp2;go_ret;exact⟨XW HF.out.symm,rfl⟩
theorem Xj8 (x:OpD)(av:Value)(w:World)(hv:XE w av x.Xb):Calls Tryz.prog 46 #[.agg (x.cells av).toArray] w fun e w'=>e= .returned (.bool (decide (ZC x)))∧Below w.heap.size w w':=by
 obtain⟨Xa,a,b2,c,Xe,space,name,s,t,Xb⟩:=x
 obtain⟨aa,ac,rfl,-⟩:=hv.form
 have hB:=Xw w (.cells (OpD.cells ⟨Xa,a,b2,c,Xe,space,name,s,t,Xb⟩ (.slice aa Xb.length ac)).toArray 46)
 have hv1:=hv.below hB
 have HC:=Xqh (Xj7 _ Xb _ hv1)
 have HB:=Xqh hB
 clear hB hv hv1
 have hno:(400:Int)<name.size∨(400:Int)<s.size∨(400:Int)<t.size→¬ZC ⟨Xa,a,b2,c,Xe,space,name,s,t,Xb⟩:=fun h hh=>by obtain⟨h1,h2,h3,-⟩:=hh;dsimp only at h1 h2 h3;omega
 have HNO:=Xqh hno
 clear hno
 unfold OpD.cells at*
 by_cases h1:(400:Int)<name.size
 ·have H1:=Xqh h1;go_enter Tryz.func46,Tryz.ntmps46;go_wp2;go_ret;exact⟨XW (decide_eq_false (HNO.out (.inl H1.out))).symm,HB.out⟩
 ·by_cases h2:(400:Int)<s.size;·{have H2:=Xqh h2;go_enter Tryz.func46,Tryz.ntmps46;go_wp2;go_ret;exact⟨XW (decide_eq_false (HNO.out (.inr (.inl H2.out)))).symm,HB.out⟩};·by_cases h3:(400:Int)<t.size;·{have H3:=Xqh h3;go_enter Tryz.func46,Tryz.ntmps46;go_wp2;go_ret;exact⟨XW (decide_eq_false (HNO.out (.inr (.inr H3.out)))).symm,HB.out⟩};·have hfin:decide (ZC ⟨Xa,a,b2,c,Xe,space,name,s,t,Xb⟩)=decide (XaP Xb):=by{exact decide_eq_decide.2 ⟨fun h=>h.2.2.2,fun h=>⟨by dsimp only;omega,by dsimp only;omega,by dsimp only;omega,h⟩⟩};have HF:=Xqh hfin;clear hfin;go_enter Tryz.func46,Tryz.ntmps46;go_wp2_with fail;refine HC.out.mono ?_;rintro e w2⟨rfl,rfl⟩;go_wp2;go_ret;exact⟨XW HF.out.symm,HB.out⟩
theorem OpF.facts {w:World}{b o:Nat}{x:OpD}{av:Value}(h:OpF w b o x av):w.cell? ⟨b,o,none⟩=some (.int .i64 x.Xa)∧w.cell? ⟨b,o+1,none⟩=some (.int .i64 x.a)∧w.cell? ⟨b,o+2,none⟩=some (.int .i64 x.b)∧w.cell? ⟨b,o+3,none⟩=some (.int .i64 x.c)∧w.cell? ⟨b,o+4,none⟩=some (.bool x.Xe)∧w.cell? ⟨b,o+5,none⟩=some (.int .i64 x.space)∧w.cell? ⟨b,o+6,none⟩=some (.string x.name)∧w.cell? ⟨b,o+7,none⟩=some (.string x.s)∧w.cell? ⟨b,o+8,none⟩=some (.string x.t)∧w.cell? ⟨b,o+9,none⟩=some av:=⟨h.c 0 _ rfl,h.c 1 _ rfl,h.c 2 _ rfl,h.c 3 _ rfl,h.c 4 _ rfl,h.c 5 _ rfl,h.c 6 _ rfl,h.c 7 _ rfl,h.c 8 _ rfl,h.c 9 _ rfl⟩
theorem OpF.below {w w':World}{b o:Nat}{x:OpD}{av:Value}(h:OpF w b o x av)(hb:Below w.heap.size w w'):OpF w' b o x av:=⟨fun j v hv=>Below.old hb (h.c j v hv),h.at'.below hb⟩
theorem Xj9 (v:Value)(l:List OpD)(most:Int)(w:World)(hv:JW w v l):Calls Tryz.prog 17 #[v,.int .i64 most] w fun e w'=>e= .returned (.bool (decide (XaQ l most)))∧Below w.heap.size w w':=by
 obtain⟨av,cv,rfl,hc1,hc2,hc3⟩:=id hv
 have hfin:∀k:Nat,k≤l.length→(k<l.length→most<k)→(∀j x,j<k→l[j]?=some x→ZC x)→decide ((l.length:Int)≤most)=decide (XaQ l most):=by intro k h1 h2 h3;refine decide_eq_decide.2 ⟨fun h=>⟨h,fun x hx=>?_⟩,fun h=>h.1⟩;obtain⟨j,hj,rfl⟩:=List.getElem_of_mem hx;exact h3 j _ (by omega) (List.getElem?_eq_getElem hj)
 have HF:=Xqh hfin
 clear hfin
 go_enter Tryz.func17,Tryz.ntmps17
 go_wp2
 go_loopw [5](fun i wr=>∃k:Nat,k≤l.length∧i= .int .i64 k∧Hid (∀j x,j<k→l[j]?=some x→ZC x)∧Below w.heap.size w wr)(fun i _=>l.length-(intOf i).toNat)
 case atStart=>exact⟨0,Nat.zero_le _,rfl,fun j x hj=>by omega,Below.refl _ _⟩
 case round=>obtain⟨k,hk,rfl,hT,hB⟩:=hrel;by_cases hlt:k<l.length;·{by_cases h20:(k:Int)≤most;·{obtain⟨b1,o1,rfl,hcs⟩:=hc3 (by omega);obtain⟨x,hx⟩:∃x,l[k]?=some x:=⟨_,List.getElem?_eq_getElem hlt⟩;obtain⟨av,F⟩:=hcs k x hx;have F:=F.below hB;obtain⟨aa,ac,rfl,-⟩:=F.at'.form;obtain⟨c0,c1,c2,c3,c4,c5,c6,c7,c8,c9⟩:=F.facts;have HC:=Xqh (Xj8 x _ wr F.at');clear hc3 hcs F;have hno:¬ZC x→¬XaQ l most:=fun h hall=>h (hall.2 x (List.mem_of_getElem? hx));have HNO:=Xqh hno;have HX:=Xqh hx;clear hno hx;by_cases h1:ZC x;·{have HD:=Xqh (show decide (ZC x)=true from decide_eq_true h1);have H1:=Xqh h1;clear h1;go_wp2_with fail;refine HC.out.mono ?_;rintro e w2⟨rfl,hB2⟩;rw[HD.out];go_wp2;go_roundw;(case rel=>exact⟨k+1,hlt,by go_num,fun j y hj hy=>by by_cases hjk:j<k;·{exact hT.out j y hjk hy};·have:j=k:=by{omega};rw[this,HX.out]at hy;simp at hy;subst hy;exact H1.out,hB.trans (hB2.mono hB.size)⟩);case measure=>simp[intOf];omega};·have HD:=Xqh (show decide (ZC x)=false from decide_eq_false h1);have HN:=Xqh (HNO.out h1);clear h1;go_wp2_with fail;refine HC.out.mono ?_;rintro e w2⟨rfl,hB2⟩;rw[HD.out];go_wp2;go_ret;exact⟨XW (decide_eq_false HN.out).symm,hB.trans (hB2.mono hB.size)⟩};·have HH:=Xqh (show k<l.length→most<k from fun _=>by omega);have h20':most<(k:Int):=by{omega};go_wp2;go_ret;exact⟨XW (HF.out k hk HH.out hT.out),hB⟩};·have HH:=Xqh (show k<l.length→most<k from fun h=>absurd h hlt);go_wp2;go_ret;exact⟨XW (HF.out k hk HH.out hT.out),hB⟩
end
section
open Go.RowKit
/-- A thing in memory, with the blocks that it takes. -/
structure Xf where
  P : World → (Nat → Prop) → Prop
  upd : ∀ {w w' : World} {S F : Nat → Prop}, P w S → Upd F w w' → (∀ k, S k → ¬ F k) → P w' S
  lt : ∀ {w : World} {S : Nat → Prop}, P w S → ∀ k, S k → k < w.heap.size
def Xf.arena (b : Nat) (A : Ar) : Xf where
  P w S := ∃ ρ, Xz w ρ b A ∧ ∀ k, S k ↔ ρ k ≠ 0
  upd := by
    rintro w w' S F ⟨ρ, h, hs⟩ hu hF
    exact ⟨ρ, h.upd hu (fun k hk => hF k ((hs k).2 hk)), hs⟩
  lt := by
    rintro w S ⟨ρ, h, hs⟩ k hk
    exact h.1 k ((hs k).1 hk)
def Xf.box (g : Nat) (o : Obj) : Xf where
  P w S := w.heap[g]? = some o ∧ ∀ k, S k ↔ k = g
  upd := by
    rintro w w' S F ⟨h, hs⟩ hu hF
    exact ⟨by rw [hu.block g (lt_of_block h) (hF g ((hs g).2 rfl))]; exact h, hs⟩
  lt := by
    rintro w S ⟨h, hs⟩ k hk
    rw [(hs k).1 hk]; exact lt_of_block h
def Xf.row (e : TypeId) (size : Nat) (v : Value) (n : Nat) (xs : List Value) : Xf where
  P w S := w.ownsRow 0 e size v n xs ∧ ∀ k, S k ↔ v.ownBlock = some k
  upd := by
    rintro w w' S F ⟨h, hs⟩ hu hF
    exact ⟨ZS h hu (fun k hk => hF k ((hs k).2 hk)), hs⟩
  lt := by
    rintro w S ⟨h, hs⟩ k hk
    exact (Yx h k ((hs k).1 hk)).2
def ZK (w : World) : List Xf → (Nat → Prop) → Prop
  | [], S => ∀ k, ¬ S k
  | a :: l, S => ∃ S1 S2, a.P w S1 ∧ ZK w l S2 ∧ (∀ k, S1 k → ¬ S2 k) ∧ ∀ k, S k ↔ S1 k ∨ S2 k
theorem ZK.upd {w w':World}{F:Nat→Prop}(hu:Upd F w w'):∀{l:List Xf}{S:Nat→Prop},ZK w l S→(∀k,S k→¬F k)→ZK w' l S
 | [],S,h,_=>h
 |a::l,S,h,hF=>by{obtain⟨S1,S2,h1,h2,h3,h4⟩:=h;exact⟨S1,S2,a.upd h1 hu (fun k hk=>hF k ((h4 k).2 (.inl hk))),ZK.upd hu h2 (fun k hk=>hF k ((h4 k).2 (.inr hk))),h3,h4⟩}
theorem ZK.lt {w:World}:∀{l:List Xf}{S:Nat→Prop},ZK w l S→∀k,S k→k<w.heap.size
 | [],S,h,k,hk=>absurd hk (h k)
 |a::l,S,h,k,hk=>by{obtain⟨S1,S2,h1,h2,h3,h4⟩:=h;rcases(h4 k).1 hk with h|h;·{exact a.lt h1 k h};·exact ZK.lt h2 k h}
/-- The call's own memory begins at B; it began in w0. -/
structure Own (w0 : World) (B : Nat) (l : List Xf) (w : World) : Prop where
  hold : ∃ S, ZK w l S ∧ ∀ k, S k → B ≤ k
  low : Below B w0 w
  size : B ≤ w0.heap.size
theorem Own.start (w:World):Own w w.heap.size [] w:=⟨⟨fun _=>False,fun _ h=>h,fun _ h=>h.elim⟩,Below.refl _ _,Nat.le_refl _⟩
theorem Own.big {w0 w:World}{B:Nat}{l:List Xf}(h:Own w0 B l w):B≤w.heap.size:=Nat.le_trans h.size h.low.size
theorem Own.read {w0 w w':World}{B:Nat}{l:List Xf}(h:Own w0 B l w)(hb:Below w.heap.size w w'):Own w0 B l w':=by
 obtain⟨S,h1,h2⟩:=h.hold
 exact⟨⟨S,h1.upd (F:=fun _=>False) (Upd.below hb) (fun _ _=>id),h2⟩,h.low.trans (hb.mono h.big),h.size⟩
theorem Own.front {w0 w:World}{B:Nat}{a:Xf}{l:List Xf}(h:Own w0 B (a::l) w):∃S1,a.P w S1∧∀(w':World)(a':Xf),(∃S',a'.P w' S'∧Upd S1 w w'∧∀k,k<w.heap.size→S' k→S1 k)→Own w0 B (a'::l) w':=by
 obtain⟨S,⟨S1,S2,h1,h2,h3,h4⟩,h5⟩:=h.hold
 refine⟨S1,h1,?_⟩
 rintro w' a'⟨S',m1,m2,m3⟩
 have hlow:Below B w w':=⟨m2.os,m2.tape,m2.output,m2.size,fun k hk=>m2.block k (Nat.lt_of_lt_of_le hk h.big) (fun hf=>by have:=h5 k ((h4 k).2 (.inl hf));omega)⟩
 refine⟨⟨fun k=>S' k∨S2 k,⟨S',S2,m1,h2.upd m2 (fun k hk hf=>h3 k hf hk),fun k hk hf=>h3 k (m3 k (h2.lt k hf) hk) hf,fun k=>Iff.rfl⟩,fun k hk=>?_⟩,h.low.trans hlow,h.size⟩
 rcases hk with hk|hk
 ·by_cases hlt:k<w.heap.size;·{exact h5 k ((h4 k).2 (.inl (m3 k hlt hk)))};·have:=h.big;omega
 ·exact h5 k ((h4 k).2 (.inr hk))
theorem Own.fresh {w0 w w':World}{B:Nat}{a:Xf}{l:List Xf}(h:Own w0 B l w)(hb:Below w.heap.size w w')(ha:∃S,a.P w' S∧∀k,S k→w.heap.size≤k):Own w0 B (a::l) w':=by
 obtain⟨S,h1,h2⟩:=(h.read hb).hold
 obtain⟨S0,h01,_⟩:=h.hold
 obtain⟨Sa,a1,a2⟩:=ha
 have hlt:∃S,ZK w' l S∧(∀k,S k→B≤k)∧∀k,S k→k<w.heap.size:=by obtain⟨S,q1,q2⟩:=h.hold;exact⟨S,q1.upd (F:=fun _=>False) (Upd.below hb) (fun _ _=>id),q2,q1.lt⟩
 obtain⟨S,q1,q2,q3⟩:=hlt
 refine⟨⟨fun k=>Sa k∨S k,⟨Sa,S,a1,q1,fun k hk hf=>by have:=a2 k hk;have:=q3 k hf;omega,fun k=>Iff.rfl⟩,fun k hk=>?_⟩,h.low.trans (hb.mono h.big),h.size⟩
 rcases hk with hk|hk
 ·have:=a2 k hk;have:=h.big;omega
 ·exact q2 k hk
theorem Own.drop {w0 w:World}{B:Nat}{a:Xf}{l:List Xf}(h:Own w0 B (a::l) w):Own w0 B l w:=by
 obtain⟨S,⟨S1,S2,h1,h2,h3,h4⟩,h5⟩:=h.hold
 exact⟨⟨S2,h2,fun k hk=>h5 k ((h4 k).2 (.inr hk))⟩,h.low,h.size⟩
theorem Own.swap {w0 w:World}{B:Nat}{a b:Xf}{l:List Xf}(h:Own w0 B (a::b::l) w):Own w0 B (b::a::l) w:=by
 obtain⟨S,⟨S1,S2,h1,⟨S3,S4,g1,g2,g3,g4⟩,h3,h4⟩,h5⟩:=h.hold
 refine⟨⟨S,⟨S3,fun k=>S1 k∨S4 k,g1,⟨S1,S4,h1,g2,fun k hk hf=>h3 k hk ((g4 k).2 (.inr hf)),fun k=>Iff.rfl⟩,fun k hk hf=>?_,fun k=>?_⟩,h5⟩,h.low,h.size⟩
 ·rcases hf with hf|hf;·{exact h3 k hf ((g4 k).2 (.inl hk))};·exact g3 k hk hf
 ·rw[h4 k,g4 k];constructor;·{rintro(q|q|q);·{exact .inr (.inl q)};·{exact .inl q};·exact .inr (.inr q)};·rintro(q|q|q);·{exact .inr (.inl q)};·{exact .inl q};·exact .inr (.inr q)
theorem Own.ZI {w0 w:World}{B:Nat}{a b c:Xf}{l:List Xf}(h:Own w0 B (a::b::c::l) w):Own w0 B (c::a::b::l) w:=by
 obtain⟨S,⟨S1,S2,h1,h2,h3,h4⟩,h5⟩:=h.hold
 have hin:Own w0 B (b::c::l) w:=h.drop
 obtain⟨S3,S4,g1,⟨S5,S6,k1,k2,k3,k4⟩,g3,g4⟩:=h2
 have h':Own w0 B (a::c::b::l) w:=by refine⟨⟨S,⟨S1,S2,h1,⟨S5,fun k=>S3 k∨S6 k,k1,⟨S3,S6,g1,k2,fun k hk hf=>g3 k hk ((k4 k).2 (.inr hf)),fun k=>Iff.rfl⟩,fun k hk hf=>?_,fun k=>?_⟩,h3,h4⟩,h5⟩,h.low,h.size⟩;·{rcases hf with hf|hf;·{exact g3 k hf ((k4 k).2 (.inl hk))};·exact k3 k hk hf};·rw[g4 k,k4 k];constructor;·{rintro(q|q|q);·{exact .inr (.inl q)};·{exact .inl q};·exact .inr (.inr q)};·rintro(q|q|q);·{exact .inr (.inl q)};·{exact .inl q};·exact .inr (.inr q)
 exact h'.swap
theorem ZK.mem {w:World}:∀{l:List Xf}{S:Nat→Prop}{a:Xf},ZK w l S→a∈l→∃S',a.P w S'∧∀k,S' k→S k
 | [],_,_,_,hm=>by{simp at hm}
 |b::l,S,a,h,hm=>by{obtain⟨S1,S2,h1,h2,h3,h4⟩:=h;rcases List.mem_cons.1 hm with rfl|hm;·{exact⟨S1,h1,fun k hk=>(h4 k).2 (.inl hk)⟩};·obtain⟨S',q1,q2⟩:=ZK.mem h2 hm;exact⟨S',q1,fun k hk=>(h4 k).2 (.inr (q2 k hk))⟩}
theorem Own.get {w0 w:World}{B:Nat}{l:List Xf}{a:Xf}(h:Own w0 B l w)(hm:a∈l):∃S,a.P w S∧∀k,S k→B≤k:=by
 obtain⟨S,h1,h2⟩:=h.hold
 obtain⟨S',q1,q2⟩:=h1.mem hm
 exact⟨S',q1,fun k hk=>h2 k (q2 k hk)⟩
theorem Own.arena {w0 w:World}{B b:Nat}{A:Ar}{l:List Xf}(h:Own w0 B l w)(hm:Xf.arena b A∈l):∃ρ,Xz w ρ b A:=by
 obtain⟨S,⟨ρ,h1,_⟩,_⟩:=h.get hm
 exact⟨ρ,h1⟩
theorem Own.box {w0 w:World}{B g:Nat}{o:Obj}{l:List Xf}(h:Own w0 B l w)(hm:Xf.box g o∈l):w.heap[g]?=some o:=by
 obtain⟨S,⟨h1,_⟩,_⟩:=h.get hm
 exact h1
theorem Own.row {w0 w:World}{B:Nat}{e:TypeId}{size:Nat}{v:Value}{n:Nat}{xs:List Value}{l:List Xf}(h:Own w0 B l w)(hm:Xf.row e size v n xs∈l):w.ownsRow B e size v n xs:=by
 obtain⟨S,⟨h1,h2⟩,h3⟩:=h.get hm
 refine⟨h1.1,?_⟩
 rcases h1.2 with q|⟨g,cap,cur,rfl,q1,q2⟩
 ·exact .inl q
 ·exact .inr ⟨g,cap,cur,rfl,h3 g ((h2 g).2 rfl),q2⟩
theorem Own.alloc {w0 w:World}{B:Nat}{l:List Xf}(h:Own w0 B l w)(o:Obj):Own w0 B (.box w.heap.size o::l) (w.alloc o):=h.fresh (Xw w o) ⟨fun k=>k=w.heap.size,⟨heap_alloc_new w o,fun _=>Iff.rfl⟩,fun k hk=>by omega⟩
theorem Own.newRow {w0 w w':World}{B:Nat}{e:TypeId}{size:Nat}{v:Value}{n:Nat}{xs:List Value}{l:List Xf}(h:Own w0 B l w)(hb:Below w.heap.size w w')(ho:w'.ownsRow w.heap.size e size v n xs):Own w0 B (.row e size v n xs::l) w':=h.fresh hb ⟨fun k=>v.ownBlock=some k,⟨YP ho (Nat.zero_le _),fun _=>Iff.rfl⟩,fun k hk=>(Yx ho k hk).1⟩
theorem Own.Xak {w0 w w':World}{B g:Nat}{o o':Obj}{l:List Xf}(h:Own w0 B (.box g o::l) w)(hu:Upd (fun k=>k=g) w w')(ho:w'.heap[g]?=some o'):Own w0 B (.box g o'::l) w':=let⟨S,⟨_,h2⟩,hf⟩:=h.front;hf w' _ ⟨S,⟨ho,h2⟩,hu.mono (fun k _ hk=>(h2 k).2 hk),fun k _ hk=>hk⟩
end
section
open Go.RowKit
theorem Own.call {w0 w:World}{B b:Nat}{A A':Ar}{l:List Xf}{v:Value}{f:Nat}{args:Array Value}(h:Own w0 B (.arena b A::l) w)(hc:∀ρ,Xz w ρ b A→Calls Tryz.prog f args w (Yk A' ρ b w v)):Calls Tryz.prog f args w fun e w'=>e= .returned v∧Own w0 B (.arena b A'::l) w':=by
 obtain⟨S,⟨ρ,hA,hS⟩,hf⟩:=h.front
 refine(hc ρ hA).mono ?_
 rintro e w'⟨rfl,ρ',hA',hT⟩
 exact⟨rfl,hf w' _ ⟨fun k=>ρ' k≠0,⟨ρ',hA',fun _=>Iff.rfl⟩,hT.upd.mono (fun k _ hk=>(hS k).2 hk),fun k hk hp=>(hS k).2 (by rw[←hT.role k hk];exact hp)⟩⟩
theorem Own.XgB {w0 w:World}{B:Nat}{l:List Xf}(h:Own w0 B l w):Own w0 B (.arena w.heap.size Ar.new::l) (w.alloc (.cells #[.slice none 0 0,.map none] 72)):=h.fresh (Xw w _) ⟨fun k=>Xbi w.heap.size k≠0,⟨Xbi w.heap.size,Xz.new w,fun _=>Iff.rfl⟩,fun k hk=>by dsimp only[Xbi]at hk;by_cases e:k=w.heap.size;·{omega};·rw[if_neg e]at hk;exact absurd rfl hk⟩
end
section
theorem Ar.Inv.short {A:Ar}(hI:A.Inv)(h:A.ns.length≤1000000):A.YC:=by
 refine⟨h,fun n hn=>?_⟩
 obtain⟨i,hi,rfl⟩:=List.getElem_of_mem hn
 have hh:A.has ((i:Int)+1):=⟨by omega,by unfold Ar.n;omega⟩
 have hg:A.get ((i:Int)+1)=A.ns[i]:=by simp[Ar.get,hi]
 rw[←hg]
 exact⟨Nat.le_trans (Ar.Yz hI.wf hh) h,Nat.le_trans (hI.loc _ hh).at3 (by omega)⟩
end
section
open Go.RowKit
theorem XgC (w:World):XE w (.slice none 0 0) []:=⟨rfl,none,0,rfl,Nat.le_refl _,Nat.zero_le _,fun h=>absurd h (by simp)⟩
/-- The zero description's cells, as the Xi writes them. -/
abbrev JN : Array Value := #[.int .i64 0, .int .i64 0, .slice none 0 0, .int .i64 0, .int .i64 0, .string ⟨#[]⟩, .slice none 0 0, .string ⟨#[]⟩, .string ⟨#[]⟩, .string ⟨#[]⟩, .bool false, .int .i64 0, .int .i64 0]
theorem Own.XU {w0 w:World}{B:Nat}{l:List Xf}(o:Own w0 B l w)(n:Nd)(kv av:Value):Own w0 B (.box w.heap.size (.cells (n.cells kv av).toArray 41 (0,0))::l) ((w.alloc (.cells JN 41)).setCells w.heap.size 0 (n.cells kv av)):=by
 have o1:=o.alloc (.cells JN 41)
 have hz:(w.alloc (.cells JN 41)).heap[w.heap.size]?=some (.cells JN 41 (0,0)):=heap_alloc_new w _
 refine o1.Xak ((Upd.refl (fun k=>k=w.heap.size) _).setCells (b:=w.heap.size) (.inr rfl) 0 (n.cells kv av)) ?_
 exact XcM n kv av hz rfl
theorem XV {w:World}(n:Nd)(ka kc aa ac:_)(kl al:Nat):(w.alloc (.cells JN 41)).there w.heap.size 0 (n.cells (.slice ka kl kc) (.slice aa al ac)).toArray.size∧∀u∈n.cells (.slice ka kl kc) (.slice aa al ac),u.oneCell'=true:=⟨XcN n _ _ (heap_alloc_new w _) rfl,JU n _ _ rfl rfl⟩
theorem JZ {w0 w:World}{B b:Nat}{A:Ar}{l:List Xf}{h:Int}{n:Nd}(o:Own w0 B l w)(hm:Xf.arena b A∈l)(hS:A.YC)(hh:A.has h)(hn:A.get h=n):Calls Tryz.prog 15 #[.pointer (some ⟨b,0,none⟩),.int .i64 h] w fun e w'=>∃ka kl kc aa al ac,e= .returned (.tuple #[.agg (n.cells (.slice ka kl kc) (.slice aa al ac)).toArray,.int .i64 0])∧Own w0 B l w'∧Below w.heap.size w w':=by
 subst hn
 obtain⟨ρ,hA⟩:=o.arena hm
 refine(XcO A ρ b h w hA hS).mono ?_
 rintro e w'⟨hB,kv,av,rfl,h1,h2⟩
 obtain⟨ka,kc,rfl⟩:=X6 h1
 obtain⟨aa,ac,rfl⟩:=X6 h2
 rw[if_pos hh,if_pos hh]
 exact⟨ka,_,kc,aa,_,ac,rfl,o.read hB,hB⟩
end
end Go.Proofs.YtpicinjcmjaogaaGreatDoor
