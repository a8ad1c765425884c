import Derived.Test.YtpicinjcmjaogaaGreatX32
set_option maxRecDepth 100000
set_option maxHeartbeats 4000000
set_option linter.unusedVariables false
namespace Go.Proofs.YtpicinjcmjaogaaGreat
section
open Go.RowKit Go.Shelf
attribute [local go_sem] Oper.semAt_some
theorem Own.boxed {w0 w:World}{B b:Nat}{A:Ar}{L:List Xf}(o:Own w0 B (.arena b A::L) w)(ob:Obj):Own w0 B (.arena b A:: .box w.heap.size ob::L) (w.alloc ob):=(o.alloc ob).swap
theorem Own.unbox {w0 w:World}{B b g:Nat}{A:Ar}{ob:Obj}{L:List Xf}(o:Own w0 B (.arena b A:: .box g ob::L) w):Own w0 B (.arena b A::L) w:=o.swap.drop
theorem Xib (f:Bool)(w:World):Calls Tryz.prog 56 #[.bool f] w fun e w'=>e= .returned (.int .i64 (Xb1 f))∧w'=w:=by
 cases f with|true=>{go_enter Tryz.func56,Tryz.ntmps56;go_wp2;go_ret;exact⟨rfl,rfl⟩}|false=>go_enter Tryz.func56,Tryz.ntmps56;go_wp2;go_ret;exact⟨rfl,rfl⟩
theorem XmO {w0 w:World}{B b:Nat}{A:Ar}{L:List Xf}(o:Own w0 B (.arena b A::L) w)(hI:A.Inv)(hsz:A.ns.length+10≤100000)(a b2 c:Int)(Xe:Bool)(space:Int)(name s t:ByteArray)(Xb:List Xm)(aa:Option Addr)(al ac:Nat)(hn:name.size≤1000000):Calls Tryz.prog 74 #[.pointer (some ⟨b,0,none⟩),.agg (OpD.cells ⟨21,a,b2,c,Xe,space,name,s,t,Xb⟩ (.slice aa al ac)).toArray] w fun e w'=>e= .returned (Xl (A.Xo ⟨21,a,b2,c,Xe,space,name,s,t,Xb⟩).1)∧Own w0 B (.arena b (A.Xo ⟨21,a,b2,c,Xe,space,name,s,t,Xb⟩).2::L) w':=by
 have hst:A.Xo ⟨21,a,b2,c,Xe,space,name,s,t,Xb⟩=((0,(A.XX a b2 c).1),(A.XX a b2 c).2):=rfl
 rw[hst]
 clear hst
 unfold OpD.cells Xl at*
 have HC:=Xqh (Xe0 (p:=a) (n:=b2) (c:=c) (o.boxed (.cells #[.int .i64 21,.int .i64 a,.int .i64 b2,.int .i64 c,.bool Xe,.int .i64 space,.string name,.string s,.string t,.slice aa al ac] 92)) hI (by omega))
 clear o
 go_enter Tryz.func74,Tryz.ntmps74
 go_wp2_with fail
 refine HC.out.mono ?_
 rintro e w1⟨rfl,o1⟩
 have HO:=Xqh o1.unbox
 clear o1 HC
 go_wp2
 go_ret2
 exact⟨rfl,HO.out⟩
theorem XmP {w0 w:World}{B b:Nat}{A:Ar}{L:List Xf}(o:Own w0 B (.arena b A::L) w)(hI:A.Inv)(hsz:A.ns.length+10≤100000)(a b2 c:Int)(Xe:Bool)(space:Int)(name s t:ByteArray)(Xb:List Xm)(aa:Option Addr)(al ac:Nat)(hn:name.size≤1000000):Calls Tryz.prog 74 #[.pointer (some ⟨b,0,none⟩),.agg (OpD.cells ⟨22,a,b2,c,Xe,space,name,s,t,Xb⟩ (.slice aa al ac)).toArray] w fun e w'=>e= .returned (Xl (A.Xo ⟨22,a,b2,c,Xe,space,name,s,t,Xb⟩).1)∧Own w0 B (.arena b (A.Xo ⟨22,a,b2,c,Xe,space,name,s,t,Xb⟩).2::L) w':=by
 have hst:A.Xo ⟨22,a,b2,c,Xe,space,name,s,t,Xb⟩=((0,(A.XX a b2 0).1),(A.XX a b2 0).2):=rfl
 rw[hst]
 clear hst
 unfold OpD.cells Xl at*
 have HC:=Xqh (Xas (p:=a) (n:=b2) (o.boxed (.cells #[.int .i64 22,.int .i64 a,.int .i64 b2,.int .i64 c,.bool Xe,.int .i64 space,.string name,.string s,.string t,.slice aa al ac] 92)) hI (by omega))
 clear o
 go_enter Tryz.func74,Tryz.ntmps74
 go_wp2_with fail
 refine HC.out.mono ?_
 rintro e w1⟨rfl,o1⟩
 have HO:=Xqh o1.unbox
 clear o1 HC
 go_wp2
 go_ret2
 exact⟨rfl,HO.out⟩
theorem XmQ {w0 w:World}{B b:Nat}{A:Ar}{L:List Xf}(o:Own w0 B (.arena b A::L) w)(hI:A.Inv)(hsz:A.ns.length+10≤100000)(a b2 c:Int)(Xe:Bool)(space:Int)(name s t:ByteArray)(Xb:List Xm)(aa:Option Addr)(al ac:Nat)(hn:name.size≤1000000):Calls Tryz.prog 74 #[.pointer (some ⟨b,0,none⟩),.agg (OpD.cells ⟨23,a,b2,c,Xe,space,name,s,t,Xb⟩ (.slice aa al ac)).toArray] w fun e w'=>e= .returned (Xl (A.Xo ⟨23,a,b2,c,Xe,space,name,s,t,Xb⟩).1)∧Own w0 B (.arena b (A.Xo ⟨23,a,b2,c,Xe,space,name,s,t,Xb⟩).2::L) w':=by
 have hst:A.Xo ⟨23,a,b2,c,Xe,space,name,s,t,Xb⟩=((0,(A.YU a b2 c).1),(A.YU a b2 c).2):=rfl
 rw[hst]
 clear hst
 unfold OpD.cells Xl at*
 have HC:=Xqh (Xla (p:=a) (n:=b2) (c:=c) (o.boxed (.cells #[.int .i64 23,.int .i64 a,.int .i64 b2,.int .i64 c,.bool Xe,.int .i64 space,.string name,.string s,.string t,.slice aa al ac] 92)) hI (by omega))
 clear o
 go_enter Tryz.func74,Tryz.ntmps74
 go_wp2_with fail
 refine HC.out.mono ?_
 rintro e w1⟨rfl,o1⟩
 have HO:=Xqh o1.unbox
 clear o1 HC
 go_wp2
 go_ret2
 exact⟨rfl,HO.out⟩
theorem XmR {w0 w:World}{B b:Nat}{A:Ar}{L:List Xf}(o:Own w0 B (.arena b A::L) w)(hI:A.Inv)(hsz:A.ns.length+10≤100000)(a b2 c:Int)(Xe:Bool)(space:Int)(name s t:ByteArray)(Xb:List Xm)(aa:Option Addr)(al ac:Nat)(hn:name.size≤1000000):Calls Tryz.prog 74 #[.pointer (some ⟨b,0,none⟩),.agg (OpD.cells ⟨24,a,b2,c,Xe,space,name,s,t,Xb⟩ (.slice aa al ac)).toArray] w fun e w'=>e= .returned (Xl (A.Xo ⟨24,a,b2,c,Xe,space,name,s,t,Xb⟩).1)∧Own w0 B (.arena b (A.Xo ⟨24,a,b2,c,Xe,space,name,s,t,Xb⟩).2::L) w':=by
 have hst:A.Xo ⟨24,a,b2,c,Xe,space,name,s,t,Xb⟩=((0,(A.Zo a b2).1),(A.Zo a b2).2):=rfl
 rw[hst]
 clear hst
 unfold OpD.cells Xl at*
 have HC:=Xqh (Xlb (p:=a) (c:=b2) (o.boxed (.cells #[.int .i64 24,.int .i64 a,.int .i64 b2,.int .i64 c,.bool Xe,.int .i64 space,.string name,.string s,.string t,.slice aa al ac] 92)) hI (by omega))
 clear o
 go_enter Tryz.func74,Tryz.ntmps74
 go_wp2_with fail
 refine HC.out.mono ?_
 rintro e w1⟨rfl,o1⟩
 have HO:=Xqh o1.unbox
 clear o1 HC
 go_wp2
 go_ret2
 exact⟨rfl,HO.out⟩
theorem XmS {w0 w:World}{B b:Nat}{A:Ar}{L:List Xf}(o:Own w0 B (.arena b A::L) w)(hI:A.Inv)(hsz:A.ns.length+10≤100000)(a b2 c:Int)(Xe:Bool)(space:Int)(name s t:ByteArray)(Xb:List Xm)(aa:Option Addr)(al ac:Nat)(hn:name.size≤1000000):Calls Tryz.prog 74 #[.pointer (some ⟨b,0,none⟩),.agg (OpD.cells ⟨25,a,b2,c,Xe,space,name,s,t,Xb⟩ (.slice aa al ac)).toArray] w fun e w'=>e= .returned (Xl (A.Xo ⟨25,a,b2,c,Xe,space,name,s,t,Xb⟩).1)∧Own w0 B (.arena b (A.Xo ⟨25,a,b2,c,Xe,space,name,s,t,Xb⟩).2::L) w':=by
 have hst:A.Xo ⟨25,a,b2,c,Xe,space,name,s,t,Xb⟩=((0,(A.XR a).1),(A.XR a).2):=rfl
 rw[hst]
 clear hst
 unfold OpD.cells Xl at*
 have HC:=Xqh (Xlc (h:=a) (o.boxed (.cells #[.int .i64 25,.int .i64 a,.int .i64 b2,.int .i64 c,.bool Xe,.int .i64 space,.string name,.string s,.string t,.slice aa al ac] 92)) hI (by omega))
 clear o
 go_enter Tryz.func74,Tryz.ntmps74
 go_wp2_with fail
 refine HC.out.mono ?_
 rintro e w1⟨rfl,o1⟩
 have HO:=Xqh o1.unbox
 clear o1 HC
 go_wp2
 go_ret2
 exact⟨rfl,HO.out⟩
theorem XmT {w0 w:World}{B b:Nat}{A:Ar}{L:List Xf}(o:Own w0 B (.arena b A::L) w)(hI:A.Inv)(hsz:A.ns.length+10≤100000)(a b2 c:Int)(Xe:Bool)(space:Int)(name s t:ByteArray)(Xb:List Xm)(aa:Option Addr)(al ac:Nat)(hn:name.size≤1000000):Calls Tryz.prog 74 #[.pointer (some ⟨b,0,none⟩),.agg (OpD.cells ⟨26,a,b2,c,Xe,space,name,s,t,Xb⟩ (.slice aa al ac)).toArray] w fun e w'=>e= .returned (Xl (A.Xo ⟨26,a,b2,c,Xe,space,name,s,t,Xb⟩).1)∧Own w0 B (.arena b (A.Xo ⟨26,a,b2,c,Xe,space,name,s,t,Xb⟩).2::L) w':=by
 have hst:A.Xo ⟨26,a,b2,c,Xe,space,name,s,t,Xb⟩=((0,(A.Yq a b2).1),(A.Yq a b2).2):=rfl
 rw[hst]
 clear hst
 unfold OpD.cells Xl at*
 have HC:=Xqh (Xme (p:=a) (n:=b2) (o.boxed (.cells #[.int .i64 26,.int .i64 a,.int .i64 b2,.int .i64 c,.bool Xe,.int .i64 space,.string name,.string s,.string t,.slice aa al ac] 92)) hI (by omega))
 clear o
 go_enter Tryz.func74,Tryz.ntmps74
 go_wp2_with fail
 refine HC.out.mono ?_
 rintro e w1⟨rfl,o1⟩
 have HO:=Xqh o1.unbox
 clear o1 HC
 go_wp2
 go_ret2
 exact⟨rfl,HO.out⟩
theorem XmU {w0 w:World}{B b:Nat}{A:Ar}{L:List Xf}(o:Own w0 B (.arena b A::L) w)(hI:A.Inv)(hsz:A.ns.length+10≤100000)(a b2 c:Int)(Xe:Bool)(space:Int)(name s t:ByteArray)(Xb:List Xm)(aa:Option Addr)(al ac:Nat)(hn:name.size≤1000000):Calls Tryz.prog 74 #[.pointer (some ⟨b,0,none⟩),.agg (OpD.cells ⟨27,a,b2,c,Xe,space,name,s,t,Xb⟩ (.slice aa al ac)).toArray] w fun e w'=>e= .returned (Xl (A.Xo ⟨27,a,b2,c,Xe,space,name,s,t,Xb⟩).1)∧Own w0 B (.arena b (A.Xo ⟨27,a,b2,c,Xe,space,name,s,t,Xb⟩).2::L) w':=by
 have hst:A.Xo ⟨27,a,b2,c,Xe,space,name,s,t,Xb⟩=((0,(A.YV a b2).1),(A.YV a b2).2):=rfl
 rw[hst]
 clear hst
 unfold OpD.cells Xl at*
 have HC:=Xqh (Xmf (n:=a) (d:=b2) (o.boxed (.cells #[.int .i64 27,.int .i64 a,.int .i64 b2,.int .i64 c,.bool Xe,.int .i64 space,.string name,.string s,.string t,.slice aa al ac] 92)) hI (by omega))
 clear o
 go_enter Tryz.func74,Tryz.ntmps74
 go_wp2_with fail
 refine HC.out.mono ?_
 rintro e w1⟨rfl,o1⟩
 have HO:=Xqh o1.unbox
 clear o1 HC
 go_wp2
 go_ret2
 exact⟨rfl,HO.out⟩
theorem XmV {w0 w:World}{B b:Nat}{A:Ar}{L:List Xf}(o:Own w0 B (.arena b A::L) w)(hI:A.Inv)(hsz:A.ns.length+10≤100000)(a b2 c:Int)(Xe:Bool)(space:Int)(name s t:ByteArray)(Xb:List Xm)(aa:Option Addr)(al ac:Nat)(hn:name.size≤1000000):Calls Tryz.prog 74 #[.pointer (some ⟨b,0,none⟩),.agg (OpD.cells ⟨28,a,b2,c,Xe,space,name,s,t,Xb⟩ (.slice aa al ac)).toArray] w fun e w'=>e= .returned (Xl (A.Xo ⟨28,a,b2,c,Xe,space,name,s,t,Xb⟩).1)∧Own w0 B (.arena b (A.Xo ⟨28,a,b2,c,Xe,space,name,s,t,Xb⟩).2::L) w':=by
 have hst:A.Xo ⟨28,a,b2,c,Xe,space,name,s,t,Xb⟩=A.Y0 a name:=rfl
 rw[hst]
 clear hst
 unfold OpD.cells Xl at*
 have HC:=Xqh (Xmr (d:=a) (name:=name) (o.boxed (.cells #[.int .i64 28,.int .i64 a,.int .i64 b2,.int .i64 c,.bool Xe,.int .i64 space,.string name,.string s,.string t,.slice aa al ac] 92)) hI (by omega) hn)
 clear o
 unfold Xl at HC
 go_enter Tryz.func74,Tryz.ntmps74
 go_wp2_with fail
 refine HC.out.mono ?_
 rintro e w1⟨rfl,o1⟩
 have HO:=Xqh o1.unbox
 clear o1 HC
 go_wp2
 go_ret2
 exact⟨rfl,HO.out⟩
theorem XmW {w0 w:World}{B b:Nat}{A:Ar}{L:List Xf}(o:Own w0 B (.arena b A::L) w)(hI:A.Inv)(hsz:A.ns.length+10≤100000)(a b2 c:Int)(Xe:Bool)(space:Int)(name s t:ByteArray)(Xb:List Xm)(aa:Option Addr)(al ac:Nat)(hn:name.size≤1000000):Calls Tryz.prog 74 #[.pointer (some ⟨b,0,none⟩),.agg (OpD.cells ⟨29,a,b2,c,Xe,space,name,s,t,Xb⟩ (.slice aa al ac)).toArray] w fun e w'=>e= .returned (Xl (A.Xo ⟨29,a,b2,c,Xe,space,name,s,t,Xb⟩).1)∧Own w0 B (.arena b (A.Xo ⟨29,a,b2,c,Xe,space,name,s,t,Xb⟩).2::L) w':=by
 have hst:A.Xo ⟨29,a,b2,c,Xe,space,name,s,t,Xb⟩=((0,(A.YO a space name s).1),(A.YO a space name s).2):=rfl
 rw[hst]
 clear hst
 unfold OpD.cells Xl at*
 have HC:=Xqh (Xmt (el:=a) (s:=space) (name:=name) (val:=s) (o.boxed (.cells #[.int .i64 29,.int .i64 a,.int .i64 b2,.int .i64 c,.bool Xe,.int .i64 space,.string name,.string s,.string t,.slice aa al ac] 92)) hI (by omega) hn)
 clear o
 go_enter Tryz.func74,Tryz.ntmps74
 go_wp2_with fail
 refine HC.out.mono ?_
 rintro e w1⟨rfl,o1⟩
 have HO:=Xqh o1.unbox
 clear o1 HC
 go_wp2
 go_ret2
 exact⟨rfl,HO.out⟩
theorem XmX {w0 w:World}{B b:Nat}{A:Ar}{L:List Xf}(o:Own w0 B (.arena b A::L) w)(hI:A.Inv)(hsz:A.ns.length+10≤100000)(a b2 c:Int)(Xe:Bool)(space:Int)(name s t:ByteArray)(Xb:List Xm)(aa:Option Addr)(al ac:Nat)(hn:name.size≤1000000):Calls Tryz.prog 74 #[.pointer (some ⟨b,0,none⟩),.agg (OpD.cells ⟨30,a,b2,c,Xe,space,name,s,t,Xb⟩ (.slice aa al ac)).toArray] w fun e w'=>e= .returned (Xl (A.Xo ⟨30,a,b2,c,Xe,space,name,s,t,Xb⟩).1)∧Own w0 B (.arena b (A.Xo ⟨30,a,b2,c,Xe,space,name,s,t,Xb⟩).2::L) w':=by
 have hst:A.Xo ⟨30,a,b2,c,Xe,space,name,s,t,Xb⟩=((Xb1 (A.Yy a space name).1.1,(A.Yy a space name).1.2),(A.Yy a space name).2):=rfl
 rw[hst]
 clear hst
 unfold OpD.cells Xl at*
 have HC:=Xqh (Xmx (el:=a) (s:=space) (name:=name) (o.boxed (.cells #[.int .i64 30,.int .i64 a,.int .i64 b2,.int .i64 c,.bool Xe,.int .i64 space,.string name,.string s,.string t,.slice aa al ac] 92)) hI (by omega) hn)
 clear o
 go_enter Tryz.func74,Tryz.ntmps74
 go_wp2_with fail
 refine HC.out.mono ?_
 rintro e w1⟨rfl,o1⟩
 have HO:=Xqh o1.unbox
 clear o1 HC
 go_wp2_with fail
 refine(Xib _ _).mono ?_
 rintro e w2⟨rfl,rfl⟩
 go_wp2
 go_ret2
 exact⟨rfl,HO.out⟩
theorem XmY {w0 w:World}{B b:Nat}{A:Ar}{L:List Xf}(o:Own w0 B (.arena b A::L) w)(hI:A.Inv)(hsz:2*A.ns.length+10≤300000)(a b2 c:Int)(Xe:Bool)(space:Int)(name s t:ByteArray)(Xb:List Xm)(aa:Option Addr)(al ac:Nat)(hn:name.size≤1000000):Calls Tryz.prog 74 #[.pointer (some ⟨b,0,none⟩),.agg (OpD.cells ⟨31,a,b2,c,Xe,space,name,s,t,Xb⟩ (.slice aa al ac)).toArray] w fun e w'=>e= .returned (Xl (A.Xo ⟨31,a,b2,c,Xe,space,name,s,t,Xb⟩).1)∧Own w0 B (.arena b (A.Xo ⟨31,a,b2,c,Xe,space,name,s,t,Xb⟩).2::L) w':=by
 have hst:A.Xo ⟨31,a,b2,c,Xe,space,name,s,t,Xb⟩=A.Zx a Xe:=rfl
 rw[hst]
 clear hst
 unfold OpD.cells Xl at*
 have HC:=Xqh (XmL (h:=a) (deep:=Xe) (o.boxed (.cells #[.int .i64 31,.int .i64 a,.int .i64 b2,.int .i64 c,.bool Xe,.int .i64 space,.string name,.string s,.string t,.slice aa al ac] 92)) hI hsz)
 clear o
 unfold Xl at HC
 go_enter Tryz.func74,Tryz.ntmps74
 go_wp2_with fail
 refine HC.out.mono ?_
 rintro e w1⟨rfl,o1⟩
 have HO:=Xqh o1.unbox
 clear o1 HC
 go_wp2
 go_ret2
 exact⟨rfl,HO.out⟩
theorem XmZ {w0 w:World}{B b:Nat}{A:Ar}{L:List Xf}(o:Own w0 B (.arena b A::L) w)(hI:A.Inv)(hsz:2*A.ns.length+10≤300000)(a b2 c:Int)(Xe:Bool)(space:Int)(name s t:ByteArray)(Xb:List Xm)(aa:Option Addr)(al ac:Nat)(hn:name.size≤1000000):Calls Tryz.prog 74 #[.pointer (some ⟨b,0,none⟩),.agg (OpD.cells ⟨32,a,b2,c,Xe,space,name,s,t,Xb⟩ (.slice aa al ac)).toArray] w fun e w'=>e= .returned (Xl (A.Xo ⟨32,a,b2,c,Xe,space,name,s,t,Xb⟩).1)∧Own w0 B (.arena b (A.Xo ⟨32,a,b2,c,Xe,space,name,s,t,Xb⟩).2::L) w':=by
 have hst:A.Xo ⟨32,a,b2,c,Xe,space,name,s,t,Xb⟩=A.Zp A a b2:=rfl
 rw[hst]
 clear hst
 unfold OpD.cells Xl at*
 have HC:=Xqh (XmM (bf:=b) (C:=A) (d:=a) (h:=b2) (o.boxed (.cells #[.int .i64 32,.int .i64 a,.int .i64 b2,.int .i64 c,.bool Xe,.int .i64 space,.string name,.string s,.string t,.slice aa al ac] 92)) hI hI (.inl ⟨rfl,rfl⟩) (by omega))
 clear o
 unfold Xl at HC
 go_enter Tryz.func74,Tryz.ntmps74
 go_wp2_with fail
 refine HC.out.mono ?_
 rintro e w1⟨rfl,o1⟩
 have HO:=Xqh o1.unbox
 clear o1 HC
 go_wp2
 go_ret2
 exact⟨rfl,HO.out⟩
theorem Xm0 {w0 w:World}{B b:Nat}{A:Ar}{L:List Xf}(o:Own w0 B (.arena b A::L) w)(hI:A.Inv)(hsz:A.ns.length+10≤100000)(a b2 c:Int)(Xe:Bool)(space:Int)(name s t:ByteArray)(Xb:List Xm)(aa:Option Addr)(al ac:Nat)(hn:name.size≤1000000):Calls Tryz.prog 74 #[.pointer (some ⟨b,0,none⟩),.agg (OpD.cells ⟨33,a,b2,c,Xe,space,name,s,t,Xb⟩ (.slice aa al ac)).toArray] w fun e w'=>e= .returned (Xl (A.Xo ⟨33,a,b2,c,Xe,space,name,s,t,Xb⟩).1)∧Own w0 B (.arena b (A.Xo ⟨33,a,b2,c,Xe,space,name,s,t,Xb⟩).2::L) w':=by
 have hst:A.Xo ⟨33,a,b2,c,Xe,space,name,s,t,Xb⟩=((0,(A.YE a s).1),(A.YE a s).2):=rfl
 rw[hst]
 clear hst
 unfold OpD.cells Xl at*
 have HC:=Xqh (Xmp (h:=a) (s:=s) (o.boxed (.cells #[.int .i64 33,.int .i64 a,.int .i64 b2,.int .i64 c,.bool Xe,.int .i64 space,.string name,.string s,.string t,.slice aa al ac] 92)) hI (by omega))
 clear o
 go_enter Tryz.func74,Tryz.ntmps74
 go_wp2_with fail
 refine HC.out.mono ?_
 rintro e w1⟨rfl,o1⟩
 have HO:=Xqh o1.unbox
 clear o1 HC
 go_wp2
 go_ret2
 exact⟨rfl,HO.out⟩
theorem Xm1 {w0 w:World}{B b:Nat}{A:Ar}{L:List Xf}(o:Own w0 B (.arena b A::L) w)(hI:A.Inv)(hsz:A.ns.length+10≤100000)(a b2 c:Int)(Xe:Bool)(space:Int)(name s t:ByteArray)(Xb:List Xm)(aa:Option Addr)(al ac:Nat)(hn:name.size≤1000000)(hm:∀y,A.has y→A.YJ y≤9223372036854775807):Calls Tryz.prog 74 #[.pointer (some ⟨b,0,none⟩),.agg (OpD.cells ⟨34,a,b2,c,Xe,space,name,s,t,Xb⟩ (.slice aa al ac)).toArray] w fun e w'=>e= .returned (Xl (A.Xo ⟨34,a,b2,c,Xe,space,name,s,t,Xb⟩).1)∧Own w0 B (.arena b (A.Xo ⟨34,a,b2,c,Xe,space,name,s,t,Xb⟩).2::L) w':=by
 have hst:A.Xo ⟨34,a,b2,c,Xe,space,name,s,t,Xb⟩=((0,(A.normalize a).1),(A.normalize a).2):=rfl
 rw[hst]
 clear hst
 unfold OpD.cells Xl at*
 have HC:=Xqh (Xia (h:=a) (o.boxed (.cells #[.int .i64 34,.int .i64 a,.int .i64 b2,.int .i64 c,.bool Xe,.int .i64 space,.string name,.string s,.string t,.slice aa al ac] 92)) hI (by omega) hm)
 clear o
 go_enter Tryz.func74,Tryz.ntmps74
 go_wp2_with fail
 refine HC.out.mono ?_
 rintro e w1⟨rfl,o1⟩
 have HO:=Xqh o1.unbox
 clear o1 HC
 go_wp2
 go_ret2
 exact⟨rfl,HO.out⟩
theorem Xm2 {w0 w:World}{B b:Nat}{A:Ar}{L:List Xf}(o:Own w0 B (.arena b A::L) w)(hI:A.Inv)(hsz:A.ns.length+10≤100000)(a b2 c:Int)(Xe:Bool)(space:Int)(name s t:ByteArray)(Xb:List Xm)(aa:Option Addr)(al ac:Nat)(hn:name.size≤1000000):Calls Tryz.prog 74 #[.pointer (some ⟨b,0,none⟩),.agg (OpD.cells ⟨35,a,b2,c,Xe,space,name,s,t,Xb⟩ (.slice aa al ac)).toArray] w fun e w'=>e= .returned (Xl (A.Xo ⟨35,a,b2,c,Xe,space,name,s,t,Xb⟩).1)∧Own w0 B (.arena b (A.Xo ⟨35,a,b2,c,Xe,space,name,s,t,Xb⟩).2::L) w':=by
 have hst:A.Xo ⟨35,a,b2,c,Xe,space,name,s,t,Xb⟩=A.split a b2:=rfl
 rw[hst]
 clear hst
 unfold OpD.cells Xl at*
 have HC:=Xqh (Xh9 (h:=a) (at':=b2) (o.boxed (.cells #[.int .i64 35,.int .i64 a,.int .i64 b2,.int .i64 c,.bool Xe,.int .i64 space,.string name,.string s,.string t,.slice aa al ac] 92)) hI (by omega))
 clear o
 unfold Xl at HC
 go_enter Tryz.func74,Tryz.ntmps74
 go_wp2_with fail
 refine HC.out.mono ?_
 rintro e w1⟨rfl,o1⟩
 have HO:=Xqh o1.unbox
 clear o1 HC
 go_wp2
 go_ret2
 exact⟨rfl,HO.out⟩
theorem Xm3 {w0 w:World}{B b:Nat}{A:Ar}{L:List Xf}(o:Own w0 B (.arena b A::L) w)(hI:A.Inv)(hsz:A.ns.length+10≤100000)(Xa a b2 c:Int)(Xe:Bool)(space:Int)(name s t:ByteArray)(Xb:List Xm)(av:Value)(hv:XE w av Xb)(hl:Xb.length≤1000000)(hk:∀j:Int,21≤j→j≤35→Xa≠j):Calls Tryz.prog 74 #[.pointer (some ⟨b,0,none⟩),.agg (OpD.cells ⟨Xa,a,b2,c,Xe,space,name,s,t,Xb⟩ av).toArray] w fun e w'=>e= .returned (Xl (A.Xo ⟨Xa,a,b2,c,Xe,space,name,s,t,Xb⟩).1)∧Own w0 B (.arena b (A.Xo ⟨Xa,a,b2,c,Xe,space,name,s,t,Xb⟩).2::L) w':=by
 obtain⟨aa,ac,rfl,-⟩:=hv.form
 have hst:A.Xo ⟨Xa,a,b2,c,Xe,space,name,s,t,Xb⟩=A.step ⟨Xa,a,b2,c,Xe,space,name,s,t,Xb⟩:=by unfold Ar.Xo;dsimp only;rw[if_neg (hk 21 (by omega) (by omega))];rw[if_neg (hk 22 (by omega) (by omega))];rw[if_neg (hk 23 (by omega) (by omega))];rw[if_neg (hk 24 (by omega) (by omega))];rw[if_neg (hk 25 (by omega) (by omega))];rw[if_neg (hk 26 (by omega) (by omega))];rw[if_neg (hk 27 (by omega) (by omega))];rw[if_neg (hk 28 (by omega) (by omega))];rw[if_neg (hk 29 (by omega) (by omega))];rw[if_neg (hk 30 (by omega) (by omega))];rw[if_neg (hk 31 (by omega) (by omega))];rw[if_neg (hk 32 (by omega) (by omega))];rw[if_neg (hk 33 (by omega) (by omega))];rw[if_neg (hk 34 (by omega) (by omega))];rw[if_neg (hk 35 (by omega) (by omega))]
 rw[hst]
 clear hst
 have e21:(Xa==21)=false:=by simp[hk 21 (by omega) (by omega)]
 have e22:(Xa==22)=false:=by simp[hk 22 (by omega) (by omega)]
 have e23:(Xa==23)=false:=by simp[hk 23 (by omega) (by omega)]
 have e24:(Xa==24)=false:=by simp[hk 24 (by omega) (by omega)]
 have e25:(Xa==25)=false:=by simp[hk 25 (by omega) (by omega)]
 have e26:(Xa==26)=false:=by simp[hk 26 (by omega) (by omega)]
 have e27:(Xa==27)=false:=by simp[hk 27 (by omega) (by omega)]
 have e28:(Xa==28)=false:=by simp[hk 28 (by omega) (by omega)]
 have e29:(Xa==29)=false:=by simp[hk 29 (by omega) (by omega)]
 have e30:(Xa==30)=false:=by simp[hk 30 (by omega) (by omega)]
 have e31:(Xa==31)=false:=by simp[hk 31 (by omega) (by omega)]
 have e32:(Xa==32)=false:=by simp[hk 32 (by omega) (by omega)]
 have e33:(Xa==33)=false:=by simp[hk 33 (by omega) (by omega)]
 have e34:(Xa==34)=false:=by simp[hk 34 (by omega) (by omega)]
 have e35:(Xa==35)=false:=by simp[hk 35 (by omega) (by omega)]
 have hB:=Xw w (.cells (OpD.cells ⟨Xa,a,b2,c,Xe,space,name,s,t,Xb⟩ (.slice aa Xb.length ac)).toArray 92)
 have HC:=Xqh ((o.boxed (.cells (OpD.cells ⟨Xa,a,b2,c,Xe,space,name,s,t,Xb⟩ (.slice aa Xb.length ac)).toArray 92)).call (fun ρ hA=>Xj6 A ρ b ⟨Xa,a,b2,c,Xe,space,name,s,t,Xb⟩ (.slice aa Xb.length ac) _ hA hI.wf (hv.below hB) (by omega) hl))
 clear o hI hv hB hk
 unfold OpD.cells Xl at*
 go_enter Tryz.func74,Tryz.ntmps74
 go_wp2_with fail
 refine HC.out.mono ?_
 rintro e w1⟨rfl,o1⟩
 have HO:=Xqh o1.unbox
 clear o1 HC
 go_wp2
 go_ret2
 exact⟨rfl,HO.out⟩
theorem Xm4 {w0 w:World}{B b:Nat}{A:Ar}{L:List Xf}{x:OpD}{av:Value}(o:Own w0 B (.arena b A::L) w)(hI:A.Inv)(hsz:A.ns.length+10≤100000)(hn:x.name.size≤1000000)(hv:XE w av x.Xb)(hl:x.Xb.length≤1000000)(hm:x.Xa=34→∀y,A.has y→A.YJ y≤9223372036854775807):Calls Tryz.prog 74 #[.pointer (some ⟨b,0,none⟩),.agg (x.cells av).toArray] w fun e w'=>e= .returned (Xl (A.Xo x).1)∧Own w0 B (.arena b (A.Xo x).2::L) w':=by
 obtain⟨Xa,a,b2,c,Xe,space,name,s,t,Xb⟩:=x
 dsimp only at*
 by_cases hk:∀j:Int,21≤j→j≤35→Xa≠j
 ·exact Xm3 o hI hsz Xa a b2 c Xe space name s t Xb av hv hl hk
 obtain⟨aa,ac,rfl,-⟩:=hv.form
 by_cases e21:Xa=21
 ·subst e21;exact XmO o hI hsz a b2 c Xe space name s t Xb aa Xb.length ac hn
 by_cases e22:Xa=22
 ·subst e22;exact XmP o hI hsz a b2 c Xe space name s t Xb aa Xb.length ac hn
 by_cases e23:Xa=23
 ·subst e23;exact XmQ o hI hsz a b2 c Xe space name s t Xb aa Xb.length ac hn
 by_cases e24:Xa=24
 ·subst e24;exact XmR o hI hsz a b2 c Xe space name s t Xb aa Xb.length ac hn
 by_cases e25:Xa=25
 ·subst e25;exact XmS o hI hsz a b2 c Xe space name s t Xb aa Xb.length ac hn
 by_cases e26:Xa=26
 ·subst e26;exact XmT o hI hsz a b2 c Xe space name s t Xb aa Xb.length ac hn
 by_cases e27:Xa=27
 ·subst e27;exact XmU o hI hsz a b2 c Xe space name s t Xb aa Xb.length ac hn
 by_cases e28:Xa=28
 ·subst e28;exact XmV o hI hsz a b2 c Xe space name s t Xb aa Xb.length ac hn
 by_cases e29:Xa=29
 ·subst e29;exact XmW o hI hsz a b2 c Xe space name s t Xb aa Xb.length ac hn
 by_cases e30:Xa=30
 ·subst e30;exact XmX o hI hsz a b2 c Xe space name s t Xb aa Xb.length ac hn
 by_cases e31:Xa=31
 ·subst e31;exact XmY o hI (by omega) a b2 c Xe space name s t Xb aa Xb.length ac hn
 by_cases e32:Xa=32
 ·subst e32;exact XmZ o hI (by omega) a b2 c Xe space name s t Xb aa Xb.length ac hn
 by_cases e33:Xa=33
 ·subst e33;exact Xm0 o hI hsz a b2 c Xe space name s t Xb aa Xb.length ac hn
 by_cases e34:Xa=34
 ·subst e34;exact Xm1 o hI hsz a b2 c Xe space name s t Xb aa Xb.length ac hn (hm rfl)
 by_cases e35:Xa=35
 ·subst e35;exact Xm2 o hI hsz a b2 c Xe space name s t Xb aa Xb.length ac hn
 exact absurd (fun j h1 h2 e=>by omega) hk
end
end Go.Proofs.YtpicinjcmjaogaaGreat
