import Derived.Test.YtpicinjcmjaogaaGreatY40
import Derived.Test.YtpicinjcmjaogaaGreatY42
set_option maxRecDepth 100000
set_option maxHeartbeats 4000000
set_option linter.unusedVariables false
namespace Go.Proofs.YtpicinjcmjaogaaGreat
variable{w0 w:World}{B b:Nat}{A:Ar}{L:List Xf}{h:Int}
section
open Go.RowKit Go.Shelf
theorem XoY {deep:Bool}(o:Own w0 B (.refar b A::L) w)(hI:A.Inv)(hsz:2*A.ns.length+10<=300000):Calls Tryz.prog 191 #[.pointer (some ⟨b,0,none⟩),.int .i64 h,.bool deep] w λe w'=>e= .returned (Xl (A.Zx h deep).1)/\Own w0 B (.refar b (A.Zx h deep).2::L) w':=by
 unfold Xl
 have HH:=Xqh (ZG (h:=h) o (b:=b) (A:=A) (by simp))
 by_cases hh:A.has h
 ·rw[decide_eq_true hh]at HH;have hwl:=Z3 hI h;obtain⟨d1,d2⟩:=hI.ZV h hh;have hcl:=Ar.Jk A (A.get h).doc;obtain⟨nb,cN,z0,z1,z2,z3,ka,kc,aa,ac,F,-,-⟩:=o.XaB (b:=b) (A:=A) (by simp) hh;have c3:=F.c3;have HDU:=Xqh (XfR hI (by omega) (b:=b) (bf:=b) A.ns.length deep A (A.get h).doc h L w0 w B hI d1 d2 hh hwl (by split<;>omega) (.inl ⟨rfl,λx hx=>⟨hx,rfl⟩⟩) o);have HF:Hid (A.Zx h deep=(((dupF A deep A.ns.length A (A.get h).doc h).1,0),(dupF A deep A.ns.length A (A.get h).doc h).2)):=Xqh (by unfold Ar.Zx;rw[if_pos hh]);clear o hI hh hwl d1 d2 hcl F;generalize dupF A deep A.ns.length A (A.get h).doc h=R at*;generalize(A.get h).doc=dc at*;go_enter Tryz.func191,Tryz.ntmps191;go_wp2_with fail;refine HH.out.mono ?_;rintro e w1⟨rfl,rfl⟩;go_wp2_with fail;refine HDU.out.mono ?_;rintro e w3⟨rfl,o3⟩;have HO:=Xqh o3;clear HDU o3;go_wp2;go_ret2;rw[HF.out];exact⟨rfl,HO.out⟩
 ·rw[decide_eq_false hh]at HH;have HF:Hid (A.Zx h deep=((0,3),A)):=Xqh (if_neg hh);have HO:=Xqh o;clear o hI hh;go_enter Tryz.func191,Tryz.ntmps191;go_wp2_with fail;refine HH.out.mono ?_;rintro e w1⟨rfl,rfl⟩;go_wp2;go_ret2;rw[HF.out];exact⟨rfl,HO.out⟩
theorem XoZ {bf:Nat}{C:Ar}{d:Int}(o:Own w0 B (.refar b A::L) w)(hI:A.Inv)(hC:C.Inv)(hm:(bf=b/\C=A)\/Xf.refar bf C∈L)(hsz:A.ns.length+C.ns.length+10<=300000):Calls Tryz.prog 71 #[.pointer (some ⟨b,0,none⟩),.int .i64 d,.pointer (some ⟨bf,0,none⟩),.int .i64 h] w λe w'=>e= .returned (Xl (A.Zp C d h).1)/\Own w0 B (.refar b (A.Zp C d h).2::L) w':=by
 have hmem:Xf.refar bf C∈Xf.refar b A::L:=by rcases hm with⟨rfl,rfl⟩|q;{simp};·simp[q]
 have hsrc:Jz C b bf A L:=by rcases hm with⟨rfl,rfl⟩|q;{exact .inl ⟨rfl,λx hx=>⟨hx,rfl⟩⟩};·exact .inr q
 unfold Xl
 have HH1:=Xqh (ZG (h:=d) o (b:=b) (A:=A) (by simp))
 have HH2:=Xqh (ZG (h:=h) o (b:=bf) (A:=C) hmem)
 by_cases hd:A.has d
 case neg=>rw[decide_eq_false hd]at HH1;have HF:Hid (A.Zp C d h=((0,3),A)):=Xqh (if_neg (λq=>hd q.1));have HO:=Xqh o;clear o hI hC hd hm hmem hsrc HH2;go_enter Tryz.func71,Tryz.ntmps71;go_wp2_with fail;refine HH1.out.mono ?_;rintro e w1⟨rfl,rfl⟩;go_wp2;go_ret2;rw[HF.out];exact⟨rfl,HO.out⟩
 case pos=>rw[decide_eq_true hd]at HH1;by_cases hh:C.has h;(case neg=>rw[decide_eq_false hh]at HH2;have HF:Hid (A.Zp C d h=((0,3),A)):=Xqh (if_neg (λq=>hh q.2));have HO:=Xqh o;clear o hI hC hh hm hmem hsrc;go_enter Tryz.func71,Tryz.ntmps71;go_wp2_with fail;refine HH1.out.mono ?_;rintro e w1⟨rfl,rfl⟩;go_wp2_with fail;refine HH2.out.mono ?_;rintro e w1⟨rfl,rfl⟩;go_wp2;go_ret2;rw[HF.out];exact⟨rfl,HO.out⟩);case pos=>rw[decide_eq_true hh]at HH2;have hwl:=Z3 hC h;have hcl:=Ar.Jk A d;obtain⟨nb,cN,z0,z1,z2,z3,ka,kc,aa,ac,F,-,-⟩:=o.XaB (b:=b) (A:=A) (by simp) hd;obtain⟨nb',cN',z0',z1',z2',z3',ka',kc',aa',ac',F',-,-⟩:=o.XaB (b:=bf) (A:=C) hmem hh;have c0:=F.c0;have d0:=F'.c0;have HE:Hid (A.Zp C d h=if(A.get d).Xa≠1\/(C.get h).Xa=1 then((0,9),A)else(((dupF C true C.ns.length A d h).1,0),(dupF C true C.ns.length A d h).2)):=Xqh (by unfold Ar.Zp;rw[if_pos ⟨hd,hh⟩]);have HDU:=Xqh (fun(hk:(A.get d).Xa=1)=>XfR hC (by omega) (b:=b) (bf:=bf) C.ns.length true A d h L w0 w B hI hd hk hh hwl (by split<;>omega) hsrc o);have HO:=Xqh o;clear o hI hC hd hh hwl hcl hm hmem hsrc F F';generalize dupF C true C.ns.length A d h=R at*;generalize(A.get d).Xa=kd at*;generalize(C.get h).Xa=kh at*;by_cases hk:kd=1;(case neg=>have g1:(kd !=1)=true:=by{simp[hk]};have HF:=Xqh (HE.out.trans (if_pos (.inl hk)));clear hk HE HDU;go_enter Tryz.func71,Tryz.ntmps71;go_wp2_with fail;refine HH1.out.mono ?_;rintro e w1⟨rfl,rfl⟩;go_wp2_with fail;refine HH2.out.mono ?_;rintro e w1⟨rfl,rfl⟩;go_wp2;go_ret2;rw[HF.out];exact⟨rfl,HO.out⟩);case pos=>have g1:(kd !=1)=false:=by{simp[hk]};by_cases hh1:kh=1;{have g2:(kh==1)=true:=by{simp[hh1]};have HF:=Xqh (HE.out.trans (if_pos (.inr hh1)));clear hk hh1 HE HDU;go_enter Tryz.func71,Tryz.ntmps71;go_wp2_with fail;refine HH1.out.mono ?_;rintro e w1⟨rfl,rfl⟩;go_wp2_with fail;refine HH2.out.mono ?_;rintro e w1⟨rfl,rfl⟩;go_wp2;go_ret2;rw[HF.out];exact⟨rfl,HO.out⟩};·have g2:(kh==1)=false:=by{simp[hh1]};have HF:=Xqh (HE.out.trans (if_neg (λq=>q.elim (λz=>z hk) hh1)));have HDU2:=Xqh (HDU.out hk);clear hk hh1 HE HDU;go_enter Tryz.func71,Tryz.ntmps71;go_wp2_with fail;refine HH1.out.mono ?_;rintro e w1⟨rfl,rfl⟩;go_wp2_with fail;refine HH2.out.mono ?_;rintro e w1⟨rfl,rfl⟩;go_wp2_with fail;refine HDU2.out.mono ?_;rintro e w5⟨rfl,o5⟩;have HO5:=Xqh o5;clear o5 HDU2;go_wp2;go_ret2;rw[HF.out];exact⟨rfl,HO5.out⟩
end
section
open Go.RowKit Go.Shelf
attribute [local go_sem] Oper.semAt_some
theorem Own.ZX (o:Own w0 B (.refar b A::L) w)(ob:Obj):Own w0 B (.refar b A:: .box w.heap.size ob::L) (w.alloc ob):=(o.alloc ob).swap
theorem Own.ZY {g:Nat}{ob:Obj}(o:Own w0 B (.refar b A:: .box g ob::L) w):Own w0 B (.refar b A::L) w:=o.swap.drop
theorem Xo0 (o:Own w0 B (.refar b A::L) w)(hI:A.Inv)(hsz:A.ns.length+10<=100000)(a b2 c:Int)(Xe:Bool)(space:Int)(name s t:ByteArray)(Xb:List Xm)(aa:Option Addr)(al ac:Nat)(hn:name.size<=1000000):Calls Tryz.prog 127 #[.pointer (some ⟨b,0,none⟩),.agg (OpD.cells ⟨21,a,b2,c,Xe,space,name,s,t,Xb⟩ (.slice aa al ac)).toArray] w λe w'=>e= .returned (Xl (A.Xo ⟨21,a,b2,c,Xe,space,name,s,t,Xb⟩).1)/\Own w0 B (.refar b (A.Xo ⟨21,a,b2,c,Xe,space,name,s,t,Xb⟩).2::L) w':=by
 have hst:A.Xo ⟨21,a,b2,c,Xe,space,name,s,t,Xb⟩=((0,(A.XX a b2 c).1),(A.XX a b2 c).2):=rfl
 rw[hst]
 clear hst
 unfold OpD.cells Xl at*
 have o':=o.ZX (.cells #[.int .i64 21,.int .i64 a,.int .i64 b2,.int .i64 c,.bool Xe,.int .i64 space,.string name,.string s,.string t,.slice aa al ac] 92)
 have HC:=Xqh (XiV (p:=a) (n:=b2) (c:=c) hI (by omega) o')
 clear o o'
 go_enter Tryz.func127,Tryz.ntmps127
 go_wp2_with fail
 refine HC.out.mono ?_
 rintro e w1⟨rfl,o1⟩
 have HO:=Xqh o1.ZY
 clear o1 HC
 go_wp2
 go_ret2
 exact⟨rfl,HO.out⟩
theorem Xo1 (o:Own w0 B (.refar b A::L) w)(hI:A.Inv)(hsz:A.ns.length+10<=100000)(a b2 c:Int)(Xe:Bool)(space:Int)(name s t:ByteArray)(Xb:List Xm)(aa:Option Addr)(al ac:Nat)(hn:name.size<=1000000):Calls Tryz.prog 127 #[.pointer (some ⟨b,0,none⟩),.agg (OpD.cells ⟨22,a,b2,c,Xe,space,name,s,t,Xb⟩ (.slice aa al ac)).toArray] w λe w'=>e= .returned (Xl (A.Xo ⟨22,a,b2,c,Xe,space,name,s,t,Xb⟩).1)/\Own w0 B (.refar b (A.Xo ⟨22,a,b2,c,Xe,space,name,s,t,Xb⟩).2::L) w':=by
 have hst:A.Xo ⟨22,a,b2,c,Xe,space,name,s,t,Xb⟩=((0,(A.XX a b2 0).1),(A.XX a b2 0).2):=rfl
 rw[hst]
 clear hst
 unfold OpD.cells Xl at*
 have o':=o.ZX (.cells #[.int .i64 22,.int .i64 a,.int .i64 b2,.int .i64 c,.bool Xe,.int .i64 space,.string name,.string s,.string t,.slice aa al ac] 92)
 have HC:=Xqh (XiV (p:=a) (n:=b2) (c:=0) hI (by omega) o')
 clear o o'
 go_enter Tryz.func127,Tryz.ntmps127
 go_wp2_with fail
 refine HC.out.mono ?_
 rintro e w1⟨rfl,o1⟩
 have HO:=Xqh o1.ZY
 clear o1 HC
 go_wp2
 go_ret2
 exact⟨rfl,HO.out⟩
theorem Xo2 (o:Own w0 B (.refar b A::L) w)(hI:A.Inv)(hsz:A.ns.length+10<=100000)(a b2 c:Int)(Xe:Bool)(space:Int)(name s t:ByteArray)(Xb:List Xm)(aa:Option Addr)(al ac:Nat)(hn:name.size<=1000000):Calls Tryz.prog 127 #[.pointer (some ⟨b,0,none⟩),.agg (OpD.cells ⟨23,a,b2,c,Xe,space,name,s,t,Xb⟩ (.slice aa al ac)).toArray] w λe w'=>e= .returned (Xl (A.Xo ⟨23,a,b2,c,Xe,space,name,s,t,Xb⟩).1)/\Own w0 B (.refar b (A.Xo ⟨23,a,b2,c,Xe,space,name,s,t,Xb⟩).2::L) w':=by
 have hst:A.Xo ⟨23,a,b2,c,Xe,space,name,s,t,Xb⟩=((0,(A.YU a b2 c).1),(A.YU a b2 c).2):=rfl
 rw[hst]
 clear hst
 unfold OpD.cells Xl at*
 have o':=o.ZX (.cells #[.int .i64 23,.int .i64 a,.int .i64 b2,.int .i64 c,.bool Xe,.int .i64 space,.string name,.string s,.string t,.slice aa al ac] 92)
 have HC:=Xqh (Xoi (p:=a) (n:=b2) (c:=c) hI (by omega) o')
 clear o o'
 go_enter Tryz.func127,Tryz.ntmps127
 go_wp2_with fail
 refine HC.out.mono ?_
 rintro e w1⟨rfl,o1⟩
 have HO:=Xqh o1.ZY
 clear o1 HC
 go_wp2
 go_ret2
 exact⟨rfl,HO.out⟩
theorem Xo3 (o:Own w0 B (.refar b A::L) w)(hI:A.Inv)(hsz:A.ns.length+10<=100000)(a b2 c:Int)(Xe:Bool)(space:Int)(name s t:ByteArray)(Xb:List Xm)(aa:Option Addr)(al ac:Nat)(hn:name.size<=1000000):Calls Tryz.prog 127 #[.pointer (some ⟨b,0,none⟩),.agg (OpD.cells ⟨24,a,b2,c,Xe,space,name,s,t,Xb⟩ (.slice aa al ac)).toArray] w λe w'=>e= .returned (Xl (A.Xo ⟨24,a,b2,c,Xe,space,name,s,t,Xb⟩).1)/\Own w0 B (.refar b (A.Xo ⟨24,a,b2,c,Xe,space,name,s,t,Xb⟩).2::L) w':=by
 have hst:A.Xo ⟨24,a,b2,c,Xe,space,name,s,t,Xb⟩=((0,(A.Zo a b2).1),(A.Zo a b2).2):=rfl
 rw[hst]
 clear hst
 unfold OpD.cells Xl at*
 have o':=o.ZX (.cells #[.int .i64 24,.int .i64 a,.int .i64 b2,.int .i64 c,.bool Xe,.int .i64 space,.string name,.string s,.string t,.slice aa al ac] 92)
 have HC:=Xqh (Xoj (p:=a) (c:=b2) hI (by omega) o')
 clear o o'
 go_enter Tryz.func127,Tryz.ntmps127
 go_wp2_with fail
 refine HC.out.mono ?_
 rintro e w1⟨rfl,o1⟩
 have HO:=Xqh o1.ZY
 clear o1 HC
 go_wp2
 go_ret2
 exact⟨rfl,HO.out⟩
theorem Xo4 (o:Own w0 B (.refar b A::L) w)(hI:A.Inv)(hsz:A.ns.length+10<=100000)(a b2 c:Int)(Xe:Bool)(space:Int)(name s t:ByteArray)(Xb:List Xm)(aa:Option Addr)(al ac:Nat)(hn:name.size<=1000000):Calls Tryz.prog 127 #[.pointer (some ⟨b,0,none⟩),.agg (OpD.cells ⟨25,a,b2,c,Xe,space,name,s,t,Xb⟩ (.slice aa al ac)).toArray] w λe w'=>e= .returned (Xl (A.Xo ⟨25,a,b2,c,Xe,space,name,s,t,Xb⟩).1)/\Own w0 B (.refar b (A.Xo ⟨25,a,b2,c,Xe,space,name,s,t,Xb⟩).2::L) w':=by
 have hst:A.Xo ⟨25,a,b2,c,Xe,space,name,s,t,Xb⟩=((0,(A.XR a).1),(A.XR a).2):=rfl
 rw[hst]
 clear hst
 unfold OpD.cells Xl at*
 have o':=o.ZX (.cells #[.int .i64 25,.int .i64 a,.int .i64 b2,.int .i64 c,.bool Xe,.int .i64 space,.string name,.string s,.string t,.slice aa al ac] 92)
 have HC:=Xqh (XbA (h:=a) hI (by omega) o')
 clear o o'
 go_enter Tryz.func127,Tryz.ntmps127
 go_wp2_with fail
 refine HC.out.mono ?_
 rintro e w1⟨rfl,o1⟩
 have HO:=Xqh o1.ZY
 clear o1 HC
 go_wp2
 go_ret2
 exact⟨rfl,HO.out⟩
theorem Xo5 (o:Own w0 B (.refar b A::L) w)(hI:A.Inv)(hsz:A.ns.length+10<=100000)(a b2 c:Int)(Xe:Bool)(space:Int)(name s t:ByteArray)(Xb:List Xm)(aa:Option Addr)(al ac:Nat)(hn:name.size<=1000000):Calls Tryz.prog 127 #[.pointer (some ⟨b,0,none⟩),.agg (OpD.cells ⟨26,a,b2,c,Xe,space,name,s,t,Xb⟩ (.slice aa al ac)).toArray] w λe w'=>e= .returned (Xl (A.Xo ⟨26,a,b2,c,Xe,space,name,s,t,Xb⟩).1)/\Own w0 B (.refar b (A.Xo ⟨26,a,b2,c,Xe,space,name,s,t,Xb⟩).2::L) w':=by
 have hst:A.Xo ⟨26,a,b2,c,Xe,space,name,s,t,Xb⟩=((0,(A.Yq a b2).1),(A.Yq a b2).2):=rfl
 rw[hst]
 clear hst
 unfold OpD.cells Xl at*
 have o':=o.ZX (.cells #[.int .i64 26,.int .i64 a,.int .i64 b2,.int .i64 c,.bool Xe,.int .i64 space,.string name,.string s,.string t,.slice aa al ac] 92)
 have HC:=Xqh (Xol (p:=a) (n:=b2) hI (by omega) o')
 clear o o'
 go_enter Tryz.func127,Tryz.ntmps127
 go_wp2_with fail
 refine HC.out.mono ?_
 rintro e w1⟨rfl,o1⟩
 have HO:=Xqh o1.ZY
 clear o1 HC
 go_wp2
 go_ret2
 exact⟨rfl,HO.out⟩
theorem Xo6 (o:Own w0 B (.refar b A::L) w)(hI:A.Inv)(hsz:A.ns.length+10<=100000)(a b2 c:Int)(Xe:Bool)(space:Int)(name s t:ByteArray)(Xb:List Xm)(aa:Option Addr)(al ac:Nat)(hn:name.size<=1000000):Calls Tryz.prog 127 #[.pointer (some ⟨b,0,none⟩),.agg (OpD.cells ⟨27,a,b2,c,Xe,space,name,s,t,Xb⟩ (.slice aa al ac)).toArray] w λe w'=>e= .returned (Xl (A.Xo ⟨27,a,b2,c,Xe,space,name,s,t,Xb⟩).1)/\Own w0 B (.refar b (A.Xo ⟨27,a,b2,c,Xe,space,name,s,t,Xb⟩).2::L) w':=by
 have hst:A.Xo ⟨27,a,b2,c,Xe,space,name,s,t,Xb⟩=((0,(A.YV a b2).1),(A.YV a b2).2):=rfl
 rw[hst]
 clear hst
 unfold OpD.cells Xl at*
 have o':=o.ZX (.cells #[.int .i64 27,.int .i64 a,.int .i64 b2,.int .i64 c,.bool Xe,.int .i64 space,.string name,.string s,.string t,.slice aa al ac] 92)
 have HC:=Xqh (Xok (n:=a) (d:=b2) hI (by omega) o')
 clear o o'
 go_enter Tryz.func127,Tryz.ntmps127
 go_wp2_with fail
 refine HC.out.mono ?_
 rintro e w1⟨rfl,o1⟩
 have HO:=Xqh o1.ZY
 clear o1 HC
 go_wp2
 go_ret2
 exact⟨rfl,HO.out⟩
theorem Xo7 (o:Own w0 B (.refar b A::L) w)(hI:A.Inv)(hsz:A.ns.length+10<=100000)(a b2 c:Int)(Xe:Bool)(space:Int)(name s t:ByteArray)(Xb:List Xm)(aa:Option Addr)(al ac:Nat)(hn:name.size<=1000000):Calls Tryz.prog 127 #[.pointer (some ⟨b,0,none⟩),.agg (OpD.cells ⟨28,a,b2,c,Xe,space,name,s,t,Xb⟩ (.slice aa al ac)).toArray] w λe w'=>e= .returned (Xl (A.Xo ⟨28,a,b2,c,Xe,space,name,s,t,Xb⟩).1)/\Own w0 B (.refar b (A.Xo ⟨28,a,b2,c,Xe,space,name,s,t,Xb⟩).2::L) w':=by
 have hst:A.Xo ⟨28,a,b2,c,Xe,space,name,s,t,Xb⟩=A.Y0 a name:=rfl
 rw[hst]
 clear hst
 unfold OpD.cells Xl at*
 have o':=o.ZX (.cells #[.int .i64 28,.int .i64 a,.int .i64 b2,.int .i64 c,.bool Xe,.int .i64 space,.string name,.string s,.string t,.slice aa al ac] 92)
 have HC:=Xqh (XnZ (d:=a) (name:=name) o' (by omega) hn)
 clear o o'
 unfold Xl at HC
 go_enter Tryz.func127,Tryz.ntmps127
 go_wp2_with fail
 refine HC.out.mono ?_
 rintro e w1⟨rfl,o1⟩
 have HO:=Xqh o1.ZY
 clear o1 HC
 go_wp2
 go_ret2
 exact⟨rfl,HO.out⟩
theorem Xo8 (o:Own w0 B (.refar b A::L) w)(hI:A.Inv)(hsz:A.ns.length+10<=100000)(a b2 c:Int)(Xe:Bool)(space:Int)(name s t:ByteArray)(Xb:List Xm)(aa:Option Addr)(al ac:Nat)(hn:name.size<=1000000):Calls Tryz.prog 127 #[.pointer (some ⟨b,0,none⟩),.agg (OpD.cells ⟨29,a,b2,c,Xe,space,name,s,t,Xb⟩ (.slice aa al ac)).toArray] w λe w'=>e= .returned (Xl (A.Xo ⟨29,a,b2,c,Xe,space,name,s,t,Xb⟩).1)/\Own w0 B (.refar b (A.Xo ⟨29,a,b2,c,Xe,space,name,s,t,Xb⟩).2::L) w':=by
 have hst:A.Xo ⟨29,a,b2,c,Xe,space,name,s,t,Xb⟩=((0,(A.YO a space name s).1),(A.YO a space name s).2):=rfl
 rw[hst]
 clear hst
 unfold OpD.cells Xl at*
 have o':=o.ZX (.cells #[.int .i64 29,.int .i64 a,.int .i64 b2,.int .i64 c,.bool Xe,.int .i64 space,.string name,.string s,.string t,.slice aa al ac] 92)
 have HC:=Xqh (Xn0 (el:=a) (s:=space) (name:=name) (val:=s) o' hI (by omega) hn)
 clear o o'
 go_enter Tryz.func127,Tryz.ntmps127
 go_wp2_with fail
 refine HC.out.mono ?_
 rintro e w1⟨rfl,o1⟩
 have HO:=Xqh o1.ZY
 clear o1 HC
 go_wp2
 go_ret2
 exact⟨rfl,HO.out⟩
theorem Xo9 (o:Own w0 B (.refar b A::L) w)(hI:A.Inv)(hsz:A.ns.length+10<=100000)(a b2 c:Int)(Xe:Bool)(space:Int)(name s t:ByteArray)(Xb:List Xm)(aa:Option Addr)(al ac:Nat)(hn:name.size<=1000000):Calls Tryz.prog 127 #[.pointer (some ⟨b,0,none⟩),.agg (OpD.cells ⟨30,a,b2,c,Xe,space,name,s,t,Xb⟩ (.slice aa al ac)).toArray] w λe w'=>e= .returned (Xl (A.Xo ⟨30,a,b2,c,Xe,space,name,s,t,Xb⟩).1)/\Own w0 B (.refar b (A.Xo ⟨30,a,b2,c,Xe,space,name,s,t,Xb⟩).2::L) w':=by
 have hst:A.Xo ⟨30,a,b2,c,Xe,space,name,s,t,Xb⟩=((Xb1 (A.Yy a space name).1.1,(A.Yy a space name).1.2),(A.Yy a space name).2):=rfl
 rw[hst]
 clear hst
 unfold OpD.cells Xl at*
 have o':=o.ZX (.cells #[.int .i64 30,.int .i64 a,.int .i64 b2,.int .i64 c,.bool Xe,.int .i64 space,.string name,.string s,.string t,.slice aa al ac] 92)
 have HC:=Xqh (Xoq (el:=a) (s:=space) (name:=name) o' hI (by omega) hn)
 clear o o'
 go_enter Tryz.func127,Tryz.ntmps127
 go_wp2_with fail
 refine HC.out.mono ?_
 rintro e w1⟨rfl,o1⟩
 have HO:=Xqh o1.ZY
 clear o1 HC
 go_wp2_with fail
 refine(Xib _ _).mono ?_
 rintro e w2⟨rfl,rfl⟩
 go_wp2
 go_ret2
 exact⟨rfl,HO.out⟩
theorem Xpa (o:Own w0 B (.refar b A::L) w)(hI:A.Inv)(hsz:2*A.ns.length+10<=300000)(a b2 c:Int)(Xe:Bool)(space:Int)(name s t:ByteArray)(Xb:List Xm)(aa:Option Addr)(al ac:Nat)(hn:name.size<=1000000):Calls Tryz.prog 127 #[.pointer (some ⟨b,0,none⟩),.agg (OpD.cells ⟨31,a,b2,c,Xe,space,name,s,t,Xb⟩ (.slice aa al ac)).toArray] w λe w'=>e= .returned (Xl (A.Xo ⟨31,a,b2,c,Xe,space,name,s,t,Xb⟩).1)/\Own w0 B (.refar b (A.Xo ⟨31,a,b2,c,Xe,space,name,s,t,Xb⟩).2::L) w':=by
 have hst:A.Xo ⟨31,a,b2,c,Xe,space,name,s,t,Xb⟩=A.Zx a Xe:=rfl
 rw[hst]
 clear hst
 unfold OpD.cells Xl at*
 have o':=o.ZX (.cells #[.int .i64 31,.int .i64 a,.int .i64 b2,.int .i64 c,.bool Xe,.int .i64 space,.string name,.string s,.string t,.slice aa al ac] 92)
 have HC:=Xqh (XoY (h:=a) (deep:=Xe) o' hI hsz)
 clear o o'
 unfold Xl at HC
 go_enter Tryz.func127,Tryz.ntmps127
 go_wp2_with fail
 refine HC.out.mono ?_
 rintro e w1⟨rfl,o1⟩
 have HO:=Xqh o1.ZY
 clear o1 HC
 go_wp2
 go_ret2
 exact⟨rfl,HO.out⟩
theorem Xpb (o:Own w0 B (.refar b A::L) w)(hI:A.Inv)(hsz:2*A.ns.length+10<=300000)(a b2 c:Int)(Xe:Bool)(space:Int)(name s t:ByteArray)(Xb:List Xm)(aa:Option Addr)(al ac:Nat)(hn:name.size<=1000000):Calls Tryz.prog 127 #[.pointer (some ⟨b,0,none⟩),.agg (OpD.cells ⟨32,a,b2,c,Xe,space,name,s,t,Xb⟩ (.slice aa al ac)).toArray] w λe w'=>e= .returned (Xl (A.Xo ⟨32,a,b2,c,Xe,space,name,s,t,Xb⟩).1)/\Own w0 B (.refar b (A.Xo ⟨32,a,b2,c,Xe,space,name,s,t,Xb⟩).2::L) w':=by
 have hst:A.Xo ⟨32,a,b2,c,Xe,space,name,s,t,Xb⟩=A.Zp A a b2:=rfl
 rw[hst]
 clear hst
 unfold OpD.cells Xl at*
 have o':=o.ZX (.cells #[.int .i64 32,.int .i64 a,.int .i64 b2,.int .i64 c,.bool Xe,.int .i64 space,.string name,.string s,.string t,.slice aa al ac] 92)
 have HC:=Xqh (XoZ (bf:=b) (C:=A) (d:=a) (h:=b2) o' hI hI (.inl ⟨rfl,rfl⟩) (by omega))
 clear o o'
 unfold Xl at HC
 go_enter Tryz.func127,Tryz.ntmps127
 go_wp2_with fail
 refine HC.out.mono ?_
 rintro e w1⟨rfl,o1⟩
 have HO:=Xqh o1.ZY
 clear o1 HC
 go_wp2
 go_ret2
 exact⟨rfl,HO.out⟩
theorem Xpc (o:Own w0 B (.refar b A::L) w)(hI:A.Inv)(hsz:A.ns.length+10<=100000)(a b2 c:Int)(Xe:Bool)(space:Int)(name s t:ByteArray)(Xb:List Xm)(aa:Option Addr)(al ac:Nat)(hn:name.size<=1000000):Calls Tryz.prog 127 #[.pointer (some ⟨b,0,none⟩),.agg (OpD.cells ⟨33,a,b2,c,Xe,space,name,s,t,Xb⟩ (.slice aa al ac)).toArray] w λe w'=>e= .returned (Xl (A.Xo ⟨33,a,b2,c,Xe,space,name,s,t,Xb⟩).1)/\Own w0 B (.refar b (A.Xo ⟨33,a,b2,c,Xe,space,name,s,t,Xb⟩).2::L) w':=by
 have hst:A.Xo ⟨33,a,b2,c,Xe,space,name,s,t,Xb⟩=((0,(A.YE a s).1),(A.YE a s).2):=rfl
 rw[hst]
 clear hst
 unfold OpD.cells Xl at*
 have o':=o.ZX (.cells #[.int .i64 33,.int .i64 a,.int .i64 b2,.int .i64 c,.bool Xe,.int .i64 space,.string name,.string s,.string t,.slice aa al ac] 92)
 have HC:=Xqh (Xos (h:=a) (s:=s) hI (by omega) o')
 clear o o'
 go_enter Tryz.func127,Tryz.ntmps127
 go_wp2_with fail
 refine HC.out.mono ?_
 rintro e w1⟨rfl,o1⟩
 have HO:=Xqh o1.ZY
 clear o1 HC
 go_wp2
 go_ret2
 exact⟨rfl,HO.out⟩
theorem Xpd (o:Own w0 B (.refar b A::L) w)(hI:A.Inv)(hsz:A.ns.length+10<=100000)(a b2 c:Int)(Xe:Bool)(space:Int)(name s t:ByteArray)(Xb:List Xm)(aa:Option Addr)(al ac:Nat)(hn:name.size<=1000000)(hm:∀y,A.has y->A.YJ y<=9223372036854775807):Calls Tryz.prog 127 #[.pointer (some ⟨b,0,none⟩),.agg (OpD.cells ⟨34,a,b2,c,Xe,space,name,s,t,Xb⟩ (.slice aa al ac)).toArray] w λe w'=>e= .returned (Xl (A.Xo ⟨34,a,b2,c,Xe,space,name,s,t,Xb⟩).1)/\Own w0 B (.refar b (A.Xo ⟨34,a,b2,c,Xe,space,name,s,t,Xb⟩).2::L) w':=by
 have hst:A.Xo ⟨34,a,b2,c,Xe,space,name,s,t,Xb⟩=((0,(A.normalize a).1),(A.normalize a).2):=rfl
 rw[hst]
 clear hst
 unfold OpD.cells Xl at*
 have o':=o.ZX (.cells #[.int .i64 34,.int .i64 a,.int .i64 b2,.int .i64 c,.bool Xe,.int .i64 space,.string name,.string s,.string t,.slice aa al ac] 92)
 have HC:=Xqh (XoX (h:=a) o' hI (by omega) hm)
 clear o o'
 go_enter Tryz.func127,Tryz.ntmps127
 go_wp2_with fail
 refine HC.out.mono ?_
 rintro e w1⟨rfl,o1⟩
 have HO:=Xqh o1.ZY
 clear o1 HC
 go_wp2
 go_ret2
 exact⟨rfl,HO.out⟩
theorem Xpe (o:Own w0 B (.refar b A::L) w)(hI:A.Inv)(hsz:A.ns.length+10<=100000)(a b2 c:Int)(Xe:Bool)(space:Int)(name s t:ByteArray)(Xb:List Xm)(aa:Option Addr)(al ac:Nat)(hn:name.size<=1000000):Calls Tryz.prog 127 #[.pointer (some ⟨b,0,none⟩),.agg (OpD.cells ⟨35,a,b2,c,Xe,space,name,s,t,Xb⟩ (.slice aa al ac)).toArray] w λe w'=>e= .returned (Xl (A.Xo ⟨35,a,b2,c,Xe,space,name,s,t,Xb⟩).1)/\Own w0 B (.refar b (A.Xo ⟨35,a,b2,c,Xe,space,name,s,t,Xb⟩).2::L) w':=by
 have hst:A.Xo ⟨35,a,b2,c,Xe,space,name,s,t,Xb⟩=A.split a b2:=rfl
 rw[hst]
 clear hst
 unfold OpD.cells Xl at*
 have o':=o.ZX (.cells #[.int .i64 35,.int .i64 a,.int .i64 b2,.int .i64 c,.bool Xe,.int .i64 space,.string name,.string s,.string t,.slice aa al ac] 92)
 have HC:=Xqh (Xov (h:=a) (at':=b2) hI (by omega) o')
 clear o o'
 unfold Xl at HC
 go_enter Tryz.func127,Tryz.ntmps127
 go_wp2_with fail
 refine HC.out.mono ?_
 rintro e w1⟨rfl,o1⟩
 have HO:=Xqh o1.ZY
 clear o1 HC
 go_wp2
 go_ret2
 exact⟨rfl,HO.out⟩
theorem Xpf (o:Own w0 B (.refar b A::L) w)(hI:A.Inv)(hsz:A.ns.length+10<=100000)(Xa a b2 c:Int)(Xe:Bool)(space:Int)(name s t:ByteArray)(Xb:List Xm)(av:Value)(hv:XE w av Xb)(hl:Xb.length<=1000000)(hk:∀j:Int,21<=j->j<=35->Xa≠j):Calls Tryz.prog 127 #[.pointer (some ⟨b,0,none⟩),.agg (OpD.cells ⟨Xa,a,b2,c,Xe,space,name,s,t,Xb⟩ av).toArray] w λe w'=>e= .returned (Xl (A.Xo ⟨Xa,a,b2,c,Xe,space,name,s,t,Xb⟩).1)/\Own w0 B (.refar b (A.Xo ⟨Xa,a,b2,c,Xe,space,name,s,t,Xb⟩).2::L) w':=by
 obtain⟨aa,ac,rfl,-⟩:=hv.form
 have hst:A.Xo ⟨Xa,a,b2,c,Xe,space,name,s,t,Xb⟩=A.step ⟨Xa,a,b2,c,Xe,space,name,s,t,Xb⟩:=by unfold Ar.Xo;dsimp only;rw[if_neg (hk 21 (by omega) (by omega))];rw[if_neg (hk 22 (by omega) (by omega))];rw[if_neg (hk 23 (by omega) (by omega))];rw[if_neg (hk 24 (by omega) (by omega))];rw[if_neg (hk 25 (by omega) (by omega))];rw[if_neg (hk 26 (by omega) (by omega))];rw[if_neg (hk 27 (by omega) (by omega))];rw[if_neg (hk 28 (by omega) (by omega))];rw[if_neg (hk 29 (by omega) (by omega))];rw[if_neg (hk 30 (by omega) (by omega))];rw[if_neg (hk 31 (by omega) (by omega))];rw[if_neg (hk 32 (by omega) (by omega))];rw[if_neg (hk 33 (by omega) (by omega))];rw[if_neg (hk 34 (by omega) (by omega))];rw[if_neg (hk 35 (by omega) (by omega))]
 rw[hst]
 clear hst
 have e21:(Xa==21)=false:=by simp[hk 21 (by omega) (by omega)]
 have e22:(Xa==22)=false:=by simp[hk 22 (by omega) (by omega)]
 have e23:(Xa==23)=false:=by simp[hk 23 (by omega) (by omega)]
 have e24:(Xa==24)=false:=by simp[hk 24 (by omega) (by omega)]
 have e25:(Xa==25)=false:=by simp[hk 25 (by omega) (by omega)]
 have e26:(Xa==26)=false:=by simp[hk 26 (by omega) (by omega)]
 have e27:(Xa==27)=false:=by simp[hk 27 (by omega) (by omega)]
 have e28:(Xa==28)=false:=by simp[hk 28 (by omega) (by omega)]
 have e29:(Xa==29)=false:=by simp[hk 29 (by omega) (by omega)]
 have e30:(Xa==30)=false:=by simp[hk 30 (by omega) (by omega)]
 have e31:(Xa==31)=false:=by simp[hk 31 (by omega) (by omega)]
 have e32:(Xa==32)=false:=by simp[hk 32 (by omega) (by omega)]
 have e33:(Xa==33)=false:=by simp[hk 33 (by omega) (by omega)]
 have e34:(Xa==34)=false:=by simp[hk 34 (by omega) (by omega)]
 have e35:(Xa==35)=false:=by simp[hk 35 (by omega) (by omega)]
 have hB:=Xw w (.cells (OpD.cells ⟨Xa,a,b2,c,Xe,space,name,s,t,Xb⟩ (.slice aa Xb.length ac)).toArray 92)
 have HC:=Xqh ((o.ZX (.cells (OpD.cells ⟨Xa,a,b2,c,Xe,space,name,s,t,Xb⟩ (.slice aa Xb.length ac)).toArray 92)).Jh (λρ hA=>XlU A ρ b ⟨Xa,a,b2,c,Xe,space,name,s,t,Xb⟩ (.slice aa Xb.length ac) _ hA hI.wf (hv.below hB) (by omega) hl))
 clear o hI hv hB hk
 unfold OpD.cells Xl at*
 go_enter Tryz.func127,Tryz.ntmps127
 go_wp2_with fail
 refine HC.out.mono ?_
 rintro e w1⟨rfl,o1⟩
 have HO:=Xqh o1.ZY
 clear o1 HC
 go_wp2
 go_ret2
 exact⟨rfl,HO.out⟩
theorem Xpg {x:OpD}{av:Value}(o:Own w0 B (.refar b A::L) w)(hI:A.Inv)(hsz:A.ns.length+10<=100000)(hn:x.name.size<=1000000)(hv:XE w av x.Xb)(hl:x.Xb.length<=1000000)(hm:x.Xa=34->∀y,A.has y->A.YJ y<=9223372036854775807):Calls Tryz.prog 127 #[.pointer (some ⟨b,0,none⟩),.agg (x.cells av).toArray] w λe w'=>e= .returned (Xl (A.Xo x).1)/\Own w0 B (.refar b (A.Xo x).2::L) w':=by
 obtain⟨Xa,a,b2,c,Xe,space,name,s,t,Xb⟩:=x
 dsimp only at*
 by_cases hk:∀j:Int,21<=j->j<=35->Xa≠j
 ·exact Xpf o hI hsz Xa a b2 c Xe space name s t Xb av hv hl hk
 obtain⟨aa,ac,rfl,-⟩:=hv.form
 by_cases e21:Xa=21
 ·subst e21;exact Xo0 o hI hsz a b2 c Xe space name s t Xb aa Xb.length ac hn
 by_cases e22:Xa=22
 ·subst e22;exact Xo1 o hI hsz a b2 c Xe space name s t Xb aa Xb.length ac hn
 by_cases e23:Xa=23
 ·subst e23;exact Xo2 o hI hsz a b2 c Xe space name s t Xb aa Xb.length ac hn
 by_cases e24:Xa=24
 ·subst e24;exact Xo3 o hI hsz a b2 c Xe space name s t Xb aa Xb.length ac hn
 by_cases e25:Xa=25
 ·subst e25;exact Xo4 o hI hsz a b2 c Xe space name s t Xb aa Xb.length ac hn
 by_cases e26:Xa=26
 ·subst e26;exact Xo5 o hI hsz a b2 c Xe space name s t Xb aa Xb.length ac hn
 by_cases e27:Xa=27
 ·subst e27;exact Xo6 o hI hsz a b2 c Xe space name s t Xb aa Xb.length ac hn
 by_cases e28:Xa=28
 ·subst e28;exact Xo7 o hI hsz a b2 c Xe space name s t Xb aa Xb.length ac hn
 by_cases e29:Xa=29
 ·subst e29;exact Xo8 o hI hsz a b2 c Xe space name s t Xb aa Xb.length ac hn
 by_cases e30:Xa=30
 ·subst e30;exact Xo9 o hI hsz a b2 c Xe space name s t Xb aa Xb.length ac hn
 by_cases e31:Xa=31
 ·subst e31;exact Xpa o hI (by omega) a b2 c Xe space name s t Xb aa Xb.length ac hn
 by_cases e32:Xa=32
 ·subst e32;exact Xpb o hI (by omega) a b2 c Xe space name s t Xb aa Xb.length ac hn
 by_cases e33:Xa=33
 ·subst e33;exact Xpc o hI hsz a b2 c Xe space name s t Xb aa Xb.length ac hn
 by_cases e34:Xa=34
 ·subst e34;exact Xpd o hI hsz a b2 c Xe space name s t Xb aa Xb.length ac hn (hm rfl)
 by_cases e35:Xa=35
 ·subst e35;exact Xpe o hI hsz a b2 c Xe space name s t Xb aa Xb.length ac hn
 exact absurd (λj h1 h2 e=>by omega) hk
end
end Go.Proofs.YtpicinjcmjaogaaGreat
