import Derived.Test.YtpicinjcmjaogaaGreatX13
set_option maxRecDepth 100000
set_option maxHeartbeats 4000000
set_option linter.unusedVariables false
namespace Go.Proofs.YtpicinjcmjaogaaGreat
section
open Go.RowKit Go.Shelf
attribute [local go_sem] Oper.semAt_some
theorem XkX {w0 w:World}{B b:Nat}{A:Ar}{l:List Xf}{p n c:Int}{r:Bool}(o:Own w0 B l w)(hm:Xf.arena b A∈l)(hI:A.Inv)(hs:A.ns.length≤100000)(hp:A.has p)(hn:A.has n)(hcc:c≠0→A.has c):Calls Tryz.prog 218 #[.agg #[.pointer (some ⟨b,0,none⟩),.int .i64 p,.int .i64 n,.int .i64 c,.bool r]] w fun e w'=>e= .returned (.bool (decide (A.rule p n c r 0)))∧Own w0 B l w':=by
 have o1:=o.alloc (.cells #[.pointer (some ⟨b,0,none⟩),.int .i64 p,.int .i64 n,.int .i64 c,.bool r] 141)
 have HS:=Xqh (hI.short (by omega))
 obtain⟨nd,hnd⟩:∃nd,A.get p=nd:=⟨_,rfl⟩
 have HK:=Xqh (Zv (b:=b) (A:=A) o1 (by simp[hm]) HS.out hp hnd)
 have HF:Hid (decide (A.rule p n c r 0)=(!decide (nd.Xa=1)&&(!decide (nd.Xa=2)&& !decide (nd.Xa=4)))):=Xqh (by rw[←hnd,Bool.eq_iff_iff];simp[Ar.rule])
 clear o o1 hm hI hnd
 generalize decide (A.rule p n c r 0)=eb at*
 generalize nd.Xa=kd at*
 go_enter Tryz.func218,Tryz.ntmps218
 by_cases h1:kd=1
 ·have e1:(kd !=1)=false:=by{simp[h1]};have HE:Hid (eb=false):=Xqh (by rw[HF.out,decide_eq_true h1];rfl);clear h1 HF;go_wp2_with fail;refine HK.out.mono ?_;rintro e w1⟨rfl,o2,-⟩;have HO:=Xqh o2;clear o2 HK;go_wp2;go_ret;exact⟨by rw[HE.out];try rfl,HO.out.drop⟩
 ·have e1:(kd !=1)=true:=by{simp[h1]};by_cases h2:kd=2;·{have e2:(kd !=2)=false:=by{simp[h2]};have HE:Hid (eb=false):=Xqh (by rw[HF.out,decide_eq_false h1,decide_eq_true h2];rfl);clear h1 h2 HF;go_wp2_with fail;refine HK.out.mono ?_;rintro e w1⟨rfl,o2,-⟩;have HO:=Xqh o2;clear o2 HK;go_wp2;go_ret;exact⟨by rw[HE.out];try rfl,HO.out.drop⟩};·have e2:(kd !=2)=true:=by{simp[h2]};have HE:Hid (eb=(kd !=4)):=Xqh (by rw[HF.out,decide_eq_false h1,decide_eq_false h2];simp[bne,Bool.beq_eq_decide_eq]);clear h1 h2 HF;go_wp2_with fail;refine HK.out.mono ?_;rintro e w1⟨rfl,o2,-⟩;have HO:=Xqh o2;clear o2 HK;go_wp2;go_ret;exact⟨by rw[HE.out];try rfl,HO.out.drop⟩
theorem XkY {w0 w:World}{B b:Nat}{A:Ar}{l:List Xf}{p n c:Int}{r:Bool}(o:Own w0 B l w)(hm:Xf.arena b A∈l)(hI:A.Inv)(hs:A.ns.length≤100000)(hp:A.has p)(hn:A.has n)(hcc:c≠0→A.has c):Calls Tryz.prog 219 #[.agg #[.pointer (some ⟨b,0,none⟩),.int .i64 p,.int .i64 n,.int .i64 c,.bool r]] w fun e w'=>e= .returned (.bool (decide (A.rule p n c r 1)))∧Own w0 B l w':=by
 have o1:=o.alloc (.cells #[.pointer (some ⟨b,0,none⟩),.int .i64 p,.int .i64 n,.int .i64 c,.bool r] 141)
 have HS:=Xqh (hI.short (by omega))
 obtain⟨ρ,hA⟩:=o1.arena (b:=b) (A:=A) (by simp[hm])
 have HC:=Xqh (Xgw A ρ b n p _ hA hI.wf)
 have HF:Hid (decide (A.rule p n c r 1)=A.contains n p):=Xqh (by show decide (A.contains n p=true)=_;simp)
 have HO:=Xqh o1
 clear o o1 hm hI hA
 go_enter Tryz.func219,Tryz.ntmps219
 go_wp2_with fail
 refine HC.out.mono ?_
 rintro e w1⟨rfl,hB⟩
 have HO1:=Xqh (HO.out.read hB)
 clear HC hB HO
 go_wp2
 go_ret
 exact⟨by rw[HF.out];try rfl,HO1.out.drop⟩
theorem XkZ {w0 w:World}{B b:Nat}{A:Ar}{l:List Xf}{p n c:Int}{r:Bool}(o:Own w0 B l w)(hm:Xf.arena b A∈l)(hI:A.Inv)(hs:A.ns.length≤100000)(hp:A.has p)(hn:A.has n)(hcc:c≠0→A.has c):Calls Tryz.prog 220 #[.agg #[.pointer (some ⟨b,0,none⟩),.int .i64 p,.int .i64 n,.int .i64 c,.bool r]] w fun e w'=>e= .returned (.bool (decide (A.rule p n c r 2)))∧Own w0 B l w':=by
 have o1:=o.alloc (.cells #[.pointer (some ⟨b,0,none⟩),.int .i64 p,.int .i64 n,.int .i64 c,.bool r] 141)
 have HS:=Xqh (hI.short (by omega))
 have HF:Hid (decide (A.rule p n c r 2)=(decide (c≠0)&& !decide ((A.get c).Xd=p))):=Xqh (by rw[Bool.eq_iff_iff];simp[Ar.rule])
 have HCC:=Xqh hcc
 have HO:=Xqh o1
 obtain⟨m1,m2,m3,m4,m5⟩:=Z4 (o1.box (g:=w.heap.size) (o:=mvO b p n c r) (by simp))
 have HP:=Xqh (fun x:Wld (w.alloc (.cells #[.pointer (some ⟨b,0,none⟩),.int .i64 p,.int .i64 n,.int .i64 c,.bool r] 141))=>Xev (b:=b) (A:=A) (h:=c) (o1.read x.2) (by simp[hm]))
 clear o o1 hm hI hcc
 generalize decide (A.rule p n c r 2)=eb at*
 go_enter Tryz.func220,Tryz.ntmps220
 go_upto_region 1 with fail
 generalize hw1:w.alloc _=w1 at*
 generalize hg:w.heap.size=g at*
 clear hw1 hg
 have x1:=Wld.cell (w:=w1) m1
 have x2:=Wld.cell (w:=w1) m2
 have x4:=Wld.cell (w:=w1) m4
 by_cases hc0:c=0
 ·have e0:(c !=0)=false:=by{simp[hc0]};have HE:Hid (eb=false):=Xqh (by rw[HF.out,hc0];rfl);clear hc0 HF;refine XaV (by kernel_rfl) (by kernel_rfl) ?_;(repeat(go_big_quiet_step(first|(go_at_call 37;exact Wld.same (HP.out _)))));refine wpQuiet_nil ?_;rintro Wx⟨⟨W9,hW9⟩,hWx⟩;have hWx':Wx=W9:=hWx;clear hWx;subst hWx';have HO9:=Xqh (HO.out.read hW9);clear x1 x2 x4 m1 m2 m3 m4 m5 hW9 HO HP;go_wp2;go_ret;exact⟨by rw[HE.out];try rfl,HO9.out.drop⟩
 ·have e0:(c !=0)=true:=by{simp[hc0]};have hpo:A.parentOf c=(A.get c).Xd:=if_pos (HCC.out hc0);rw[hpo]at HP;have HE:Hid (eb=((A.get c).Xd !=p)):=Xqh (by rw[HF.out,decide_eq_true hc0];simp[bne,Bool.beq_eq_decide_eq]);clear hc0 HF hpo;generalize(A.get c).Xd=pp at*;refine XaV (by kernel_rfl) (by kernel_rfl) ?_;(repeat(go_big_quiet_step(first|(go_at_call 37;exact Wld.same (HP.out _)))));refine wpQuiet_nil ?_;rintro Wx⟨⟨W9,hW9⟩,hWx⟩;have hWx':Wx=W9:=hWx;clear hWx;subst hWx';have HO9:=Xqh (HO.out.read hW9);clear x1 x2 x4 m1 m2 m3 m4 m5 hW9 HO HP;go_wp2;go_ret;exact⟨by rw[HE.out];try rfl,HO9.out.drop⟩
theorem Xk0 {w0 w:World}{B b:Nat}{A:Ar}{l:List Xf}{p n c:Int}{r:Bool}(o:Own w0 B l w)(hm:Xf.arena b A∈l)(hI:A.Inv)(hs:A.ns.length≤100000)(hp:A.has p)(hn:A.has n)(hcc:c≠0→A.has c):Calls Tryz.prog 221 #[.agg #[.pointer (some ⟨b,0,none⟩),.int .i64 p,.int .i64 n,.int .i64 c,.bool r]] w fun e w'=>e= .returned (.bool (decide (A.rule p n c r 3)))∧Own w0 B l w':=by
 have o1:=o.alloc (.cells #[.pointer (some ⟨b,0,none⟩),.int .i64 p,.int .i64 n,.int .i64 c,.bool r] 141)
 have HS:=Xqh (hI.short (by omega))
 obtain⟨nd,hnd⟩:∃nd,A.get n=nd:=⟨_,rfl⟩
 have HK:=Xqh (Zv (b:=b) (A:=A) o1 (by simp[hm]) HS.out hn hnd)
 have HF:Hid (decide (A.rule p n c r 3)=(nd.Xa==1)):=Xqh (by rw[←hnd];simp[Ar.rule,Bool.beq_eq_decide_eq])
 clear o o1 hm hI hnd
 go_enter Tryz.func221,Tryz.ntmps221
 go_wp2_with fail
 refine HK.out.mono ?_
 rintro e w1⟨rfl,o2,-⟩
 have HO:=Xqh o2
 clear o2 HK
 go_wp2
 go_ret
 exact⟨by rw[HF.out];try rfl,HO.out.drop⟩
theorem Xk1 {w0 w:World}{B b:Nat}{A:Ar}{l:List Xf}{p n c:Int}{r:Bool}(o:Own w0 B l w)(hm:Xf.arena b A∈l)(hI:A.Inv)(hs:A.ns.length≤100000)(hp:A.has p)(hn:A.has n)(hcc:c≠0→A.has c):Calls Tryz.prog 222 #[.agg #[.pointer (some ⟨b,0,none⟩),.int .i64 p,.int .i64 n,.int .i64 c,.bool r]] w fun e w'=>e= .returned (.bool (decide (A.rule p n c r 4)))∧Own w0 B l w':=by
 have o1:=o.alloc (.cells #[.pointer (some ⟨b,0,none⟩),.int .i64 p,.int .i64 n,.int .i64 c,.bool r] 141)
 have HS:=Xqh (hI.short (by omega))
 obtain⟨pd,hpd⟩:∃nd,A.get p=nd:=⟨_,rfl⟩
 obtain⟨nd,hnd⟩:∃nd,A.get n=nd:=⟨_,rfl⟩
 have HF:Hid (decide (A.rule p n c r 4)=(decide (pd.Xa=1)&&decide (nd.Xa=5)||(!decide (pd.Xa=1)&&decide (nd.Xa=3)))):=Xqh (by rw[←hnd,←hpd,Bool.eq_iff_iff];simp[Ar.rule])
 have HO:=Xqh o1
 obtain⟨m1,m2,m3,m4,m5⟩:=Z4 (o1.box (g:=w.heap.size) (o:=mvO b p n c r) (by simp))
 have HKP:=Xqh (fun x:Wld (w.alloc (.cells #[.pointer (some ⟨b,0,none⟩),.int .i64 p,.int .i64 n,.int .i64 c,.bool r] 141))=>(Zv (b:=b) (A:=A) (o1.read x.2) (by simp[hm]) HS.out hp hpd).mono (fun e w' q=>show e= .returned (.int .i64 pd.Xa)∧Below x.val.heap.size x.val w' from⟨q.1,q.2.2⟩))
 have HKN:=Xqh (fun x:Wld (w.alloc (.cells #[.pointer (some ⟨b,0,none⟩),.int .i64 p,.int .i64 n,.int .i64 c,.bool r] 141))=>(Zv (b:=b) (A:=A) (o1.read x.2) (by simp[hm]) HS.out hn hnd).mono (fun e w' q=>show e= .returned (.int .i64 nd.Xa)∧Below x.val.heap.size x.val w' from⟨q.1,q.2.2⟩))
 clear o o1 hm hI hcc hnd hpd
 generalize decide (A.rule p n c r 4)=eb at*
 generalize pd.Xa=kp at*
 generalize nd.Xa=kn at*
 go_enter Tryz.func222,Tryz.ntmps222
 go_upto_region 1 with fail
 generalize hw1:w.alloc _=w1 at*
 generalize hg:w.heap.size=g at*
 clear hw1 hg
 have x1:=Wld.cell (w:=w1) m1
 have x2:=Wld.cell (w:=w1) m2
 have x3:=Wld.cell (w:=w1) m3
 by_cases hk1:kp=1
 ·have e0:(kp==1)=true:=by{simp[hk1]};have HE:Hid (eb=(kn==5)):=Xqh (by rw[HF.out,decide_eq_true hk1];simp[Bool.beq_eq_decide_eq]);clear hk1 HF;by_cases hk5:kn=5;·{have e5:(kn==5)=true:=by{simp[hk5]};rw[e5]at HE;clear hk5;refine XaV (by kernel_rfl) (by kernel_rfl) ?_;(repeat(go_big_quiet_step(first|(go_at_call 90;(with_reducible exact Wld.call (HKP.out _)))|(go_at_call 90;(with_reducible exact Wld.call (HKN.out _))))));refine wpQuiet_nil ?_;rintro Wx⟨⟨W9,hW9⟩,hWx⟩;have hWx':Wx=W9:=hWx;clear hWx;subst hWx';have HO9:=Xqh (HO.out.read hW9);clear x1 x2 x3 m1 m2 m3 m4 m5 hW9 HO HKP HKN;go_wp2;go_ret;exact⟨by rw[HE.out];try rfl,HO9.out.drop⟩};·have e5:(kn==5)=false:=by{simp[hk5]};rw[e5]at HE;clear hk5;refine XaV (by kernel_rfl) (by kernel_rfl) ?_;(repeat(go_big_quiet_step(first|(go_at_call 90;(with_reducible exact Wld.call (HKP.out _)))|(go_at_call 90;(with_reducible exact Wld.call (HKN.out _))))));refine wpQuiet_nil ?_;rintro Wx⟨⟨W9,hW9⟩,hWx⟩;have hWx':Wx=W9:=hWx;clear hWx;subst hWx';have HO9:=Xqh (HO.out.read hW9);clear x1 x2 x3 m1 m2 m3 m4 m5 hW9 HO HKP HKN;go_wp2;go_ret;exact⟨by rw[HE.out];try rfl,HO9.out.drop⟩
 ·have e0:(kp==1)=false:=by{simp[hk1]};have HE:Hid (eb=(kn==3)):=Xqh (by rw[HF.out,decide_eq_false hk1];simp[Bool.beq_eq_decide_eq]);clear hk1 HF;refine XaV (by kernel_rfl) (by kernel_rfl) ?_;(repeat(go_big_quiet_step(first|(go_at_call 90;(with_reducible exact Wld.call (HKP.out _)))|(go_at_call 90;(with_reducible exact Wld.call (HKN.out _))))));refine wpQuiet_nil ?_;rintro Wx⟨⟨W9,hW9⟩,hWx⟩;have hWx':Wx=W9:=hWx;clear hWx;subst hWx';have HO9:=Xqh (HO.out.read hW9);clear x1 x2 x3 m1 m2 m3 m4 m5 hW9 HO HKP HKN;go_wp2;go_ret;exact⟨by rw[HE.out];try rfl,HO9.out.drop⟩
theorem Xk2 {w0 w:World}{B b:Nat}{A:Ar}{l:List Xf}{p n c:Int}{r:Bool}(o:Own w0 B l w)(hm:Xf.arena b A∈l)(hI:A.Inv)(hs:A.ns.length≤100000)(hp:A.has p)(hn:A.has n)(hcc:c≠0→A.has c):Calls Tryz.prog 223 #[.agg #[.pointer (some ⟨b,0,none⟩),.int .i64 p,.int .i64 n,.int .i64 c,.bool r]] w fun e w'=>e= .returned (.bool (decide (A.rule p n c r 5)))∧Own w0 B l w':=by
 have o1:=o.alloc (.cells #[.pointer (some ⟨b,0,none⟩),.int .i64 p,.int .i64 n,.int .i64 c,.bool r] 141)
 have HS:=Xqh (hI.short (by omega))
 obtain⟨pd,hpd⟩:∃nd,A.get p=nd:=⟨_,rfl⟩
 have HK:=Xqh (Zv (b:=b) (A:=A) o1 (by simp[hm]) HS.out hp hpd)
 have HF:Hid (decide (A.rule p n c r 5)=(decide (pd.Xa=1)&&decide (A.Xan p n c r))):=Xqh (by rw[←hpd,Bool.eq_iff_iff];simp[Ar.rule])
 have HM:=Xqh hm
 have HI:=Xqh hI
 have HCC:=Xqh hcc
 have HPN:=Xqh (And.intro hp hn)
 clear o o1 hm hI hcc hpd hp hn
 generalize decide (A.rule p n c r 5)=eb at*
 go_enter Tryz.func223,Tryz.ntmps223
 by_cases hk1:pd.Xa=1
 ·have e0:(pd.Xa==1)=true:=by{simp[hk1]};have HE:Hid (eb=decide (A.Xan p n c r)):=Xqh (by rw[HF.out,decide_eq_true hk1];simp);clear hk1 HF;go_wp2_with fail;refine HK.out.mono ?_;rintro e w1⟨rfl,o2,-⟩;have HC:=Xqh (XkW (b:=b) (A:=A) (r:=r) (n:=n) (c:=c) o2 (by simp[HM.out]) HI.out hs HPN.out.1 HPN.out.2 HCC.out);obtain⟨m1,m2,m3,m4,m5⟩:=Z4 (o2.box (g:=w.heap.size) (o:=mvO b p n c r) (by simp));clear o2 HK;go_wp2_with fail;refine HC.out.mono ?_;rintro e w2⟨rfl,o3⟩;have HO:=Xqh o3;clear o3 HC m1 m2 m3 m4 m5;go_wp2;go_ret;exact⟨by rw[HE.out];try rfl,HO.out.drop⟩
 ·have e0:(pd.Xa==1)=false:=by{simp[hk1]};have HE:Hid (eb=false):=Xqh (by rw[HF.out,decide_eq_false hk1];rfl);clear hk1 HF;go_wp2_with fail;refine HK.out.mono ?_;rintro e w1⟨rfl,o2,-⟩;have HO:=Xqh o2;clear o2 HK;go_wp2;go_ret;exact⟨by rw[HE.out];try rfl,HO.out.drop⟩
/-- The table of the rules, as its cells. -/
abbrev Z5 : Array Value := #[.func (.func 218) #[] #[], .int .i64 4, .func (.func 219) #[] #[], .int .i64 4, .func (.func 220) #[] #[], .int .i64 5, .func (.func 221) #[] #[], .int .i64 4, .func (.func 222) #[] #[], .int .i64 4, .func (.func 223) #[] #[], .int .i64 4]
theorem Xk3 (w:World):Calls Tryz.prog 177 #[] w fun e w'=>e= .returned (.slice (some ⟨w.heap.size,0,none⟩) 6 6)∧w'=w.alloc (.cells Z5 184):=by
 go_enter Tryz.func177,Tryz.ntmps177
 go_wp2
 go_ret
 exact⟨rfl,rfl⟩
end
end Go.Proofs.YtpicinjcmjaogaaGreat
