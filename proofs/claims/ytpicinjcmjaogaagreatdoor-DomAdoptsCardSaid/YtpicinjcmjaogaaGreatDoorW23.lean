import Derived.Test.YtpicinjcmjaogaaGreatDoorW22
set_option maxRecDepth 100000
set_option maxHeartbeats 4000000
set_option linter.unusedVariables false
namespace Go.Proofs.YtpicinjcmjaogaaGreatDoor
section
open Go.RowKit Go.Shelf
theorem Xg6 {w0 w:World}{B b:Nat}{A:Ar}{l:List Xf}{p n c:Int}{r:Bool}(o:Own w0 B l w)(hm:Xf.arena b A∈l)(hI:A.Inv)(hs:A.ns.length≤100000)(hp:A.has p)(hcc:c≠0→A.has c):Calls Tryz.prog 156 #[.agg #[.pointer (some ⟨b,0,none⟩),.int .i64 p,.int .i64 n,.int .i64 c,.bool r]] w fun e w'=>e= .returned (.bool (decide (A.Zu p c r)))∧Own w0 B l w':=by
 have o1:=o.alloc (.cells #[.pointer (some ⟨b,0,none⟩),.int .i64 p,.int .i64 n,.int .i64 c,.bool r] 130)
 have HC:=Xqh (Xg5 (b:=b) (A:=A) (r:=r) (n:=n) (c:=c) o1 (by simp[hm]) hI hs hp)
 have HS:=Xqh (hI.short (by omega))
 have HM:=Xqh hm
 have HCC:=Xqh hcc
 obtain⟨nd,hnd⟩:∃nd,A.get c=nd:=⟨_,rfl⟩
 have HE:Hid (decide (A.Zu p c r)=(decide (4∈(A.Zn p c).1)||decide (4∈(A.Zn p c).2)||decide (3∈(A.Zn p c).2)||(!r&&decide (c≠0)&&(decide (nd.Xa=4)||decide (nd.Xa=3))))):=Xqh (by rw[←hnd,Bool.eq_iff_iff];cases r<;>simp[Ar.Zu,or_assoc])
 have HN:=Xqh hnd
 clear o o1 hm hI hcc hnd hs
 generalize(A.Zn p c).1=l1 at*
 generalize(A.Zn p c).2=l2 at*
 generalize decide (A.Zu p c r)=eb at*
 go_enter Tryz.func156,Tryz.ntmps156
 go_wp2_with fail
 refine HC.out.mono ?_
 rintro e w1⟨v1,v2,rfl,o2⟩
 have C1:=Xqh (Xbm v1 l1 4 w1 (o2.kinds (by simp)))
 have C2:=Xqh (Xbm v2 l2 4 w1 (o2.kinds (by simp)))
 have C3:=Xqh (Xbm v2 l2 3 w1 (o2.kinds (by simp)))
 obtain⟨m1,m2,m3,m4,m5⟩:=Z4 (o2.box (g:=w.heap.size) (o:=mvO b p n c r) (by simp))
 have HO:=Xqh o2
 clear o2 HC
 generalize w.heap.size=g at*
 generalize decide (4∈l1)=z1 at*
 generalize decide (4∈l2)=z2 at*
 generalize decide (3∈l2)=z3 at*
 cases z1 with|true=>{go_wp2_with fail;refine C1.out.mono ?_;rintro e w2⟨rfl,rfl⟩;clear C1 C2 C3;go_wp2;go_ret;exact⟨by rw[HE.out];simp,HO.out.drop.drop.drop⟩}|false=>cases z2 with|true=>{go_wp2_with fail;refine C1.out.mono ?_;rintro e w2⟨rfl,rfl⟩;go_wp2_with fail;refine C2.out.mono ?_;rintro e w3⟨rfl,rfl⟩;clear C1 C2 C3;go_wp2;go_ret;exact⟨by rw[HE.out];simp,HO.out.drop.drop.drop⟩}|false=>cases z3 with|true=>{go_wp2_with fail;refine C1.out.mono ?_;rintro e w2⟨rfl,rfl⟩;go_wp2_with fail;refine C2.out.mono ?_;rintro e w3⟨rfl,rfl⟩;go_wp2_with fail;refine C3.out.mono ?_;rintro e w4⟨rfl,rfl⟩;clear C1 C2 C3;go_wp2;go_ret;exact⟨by rw[HE.out];simp,HO.out.drop.drop.drop⟩}|false=>cases r with|true=>{go_wp2_with fail;refine C1.out.mono ?_;rintro e w2⟨rfl,rfl⟩;go_wp2_with fail;refine C2.out.mono ?_;rintro e w3⟨rfl,rfl⟩;go_wp2_with fail;refine C3.out.mono ?_;rintro e w4⟨rfl,rfl⟩;clear C1 C2 C3;go_wp2;go_ret;exact⟨by rw[HE.out];simp,HO.out.drop.drop.drop⟩}|false=>by_cases hc0:c=0;·{have e0:(c !=0)=false:=by{simp[hc0]};have HC0:=Xqh hc0;clear hc0;go_wp2_with fail;refine C1.out.mono ?_;rintro e w2⟨rfl,rfl⟩;go_wp2_with fail;refine C2.out.mono ?_;rintro e w3⟨rfl,rfl⟩;go_wp2_with fail;refine C3.out.mono ?_;rintro e w4⟨rfl,rfl⟩;clear C1 C2 C3;go_wp2;go_ret;exact⟨by rw[HE.out];simp[HC0.out],HO.out.drop.drop.drop⟩};·have e0:(c !=0)=true:=by{simp[hc0]};have HH:=Xqh (HCC.out hc0);have HC0:=Xqh hc0;clear hc0;have HK:=Xqh (Zv (b:=b) (A:=A) HO.out (by simp[HM.out]) HS.out HH.out HN.out);by_cases h4:nd.Xa=4;·{have e4:(nd.Xa==4)=true:=by{simp[h4]};have H4:=Xqh h4;clear h4;go_wp2_with fail;refine C1.out.mono ?_;rintro e w2⟨rfl,rfl⟩;go_wp2_with fail;refine C2.out.mono ?_;rintro e w3⟨rfl,rfl⟩;go_wp2_with fail;refine C3.out.mono ?_;rintro e w4⟨rfl,rfl⟩;clear C1 C2 C3;go_wp2_with fail;refine HK.out.mono ?_;rintro e w5⟨rfl,o5,-⟩;have HO5:=Xqh o5;clear o5 HK m1 m2 m3 m4 m5;go_wp2;go_ret;exact⟨by rw[HE.out];simp[H4.out,HC0.out],HO5.out.drop.drop.drop⟩};·have e4:(nd.Xa==4)=false:=by{simp[h4]};have H4:=Xqh h4;clear h4;go_wp2_with fail;refine C1.out.mono ?_;rintro e w2⟨rfl,rfl⟩;go_wp2_with fail;refine C2.out.mono ?_;rintro e w3⟨rfl,rfl⟩;go_wp2_with fail;refine C3.out.mono ?_;rintro e w4⟨rfl,rfl⟩;clear C1 C2 C3;go_wp2_with fail;refine HK.out.mono ?_;rintro e w5⟨rfl,o5,-⟩;have HK5:=Xqh (Zv (b:=b) (A:=A) o5 (by simp[HM.out]) HS.out HH.out HN.out);clear HK m1 m2 m3 m4 m5;obtain⟨m1,m2,m3,m4,m5⟩:=Z4 (o5.box (g:=g) (o:=mvO b p n c false) (by simp));clear o5;by_cases h3:nd.Xa=3;·{have e3:(nd.Xa==3)=true:=by{simp[h3]};have H3:=Xqh h3;clear h3;go_wp2_with fail;refine HK5.out.mono ?_;rintro e w6⟨rfl,o6,-⟩;have HO6:=Xqh o6;clear o6 HK5 m1 m2 m3 m4 m5;go_wp2;go_ret;exact⟨by rw[HE.out];simp[H3.out,HC0.out],HO6.out.drop.drop.drop⟩};·have e3:(nd.Xa==3)=false:=by{simp[h3]};have H3:=Xqh h3;clear h3;go_wp2_with fail;refine HK5.out.mono ?_;rintro e w6⟨rfl,o6,-⟩;have HO6:=Xqh o6;clear o6 HK5 m1 m2 m3 m4 m5;go_wp2;go_ret;exact⟨by rw[HE.out];simp[H3.out,H4.out],HO6.out.drop.drop.drop⟩
theorem XkU {w0 w:World}{B b:Nat}{A:Ar}{l:List Xf}{p n c:Int}{r:Bool}(o:Own w0 B l w)(hm:Xf.arena b A∈l)(hI:A.Inv)(hs:A.ns.length≤100000)(hp:A.has p)(hcc:c≠0→A.has c):Calls Tryz.prog 157 #[.agg #[.pointer (some ⟨b,0,none⟩),.int .i64 p,.int .i64 n,.int .i64 c,.bool r]] w fun e w'=>e= .returned (.bool (decide (A.Jd p c r)))∧Own w0 B l w':=by
 have o1:=o.alloc (.cells #[.pointer (some ⟨b,0,none⟩),.int .i64 p,.int .i64 n,.int .i64 c,.bool r] 130)
 have HC:=Xqh (Xg5 (b:=b) (A:=A) (r:=r) (n:=n) (c:=c) o1 (by simp[hm]) hI hs hp)
 have HS:=Xqh (hI.short (by omega))
 have HM:=Xqh hm
 have HCC:=Xqh hcc
 obtain⟨nd,hnd⟩:∃nd,A.get c=nd:=⟨_,rfl⟩
 have HE:Hid (decide (A.Jd p c r)=(decide (3∈(A.Zn p c).1)||decide (3∈(A.Zn p c).2)||decide (4∈(A.Zn p c).1)||(!r&&decide (c≠0)&&decide (nd.Xa=3)))):=Xqh (by rw[←hnd,Bool.eq_iff_iff];cases r<;>simp[Ar.Jd,or_assoc])
 have HN:=Xqh hnd
 clear o o1 hm hI hcc hnd hs
 generalize(A.Zn p c).1=l1 at*
 generalize(A.Zn p c).2=l2 at*
 generalize decide (A.Jd p c r)=eb at*
 go_enter Tryz.func157,Tryz.ntmps157
 go_wp2_with fail
 refine HC.out.mono ?_
 rintro e w1⟨v1,v2,rfl,o2⟩
 have C1:=Xqh (Xbm v1 l1 3 w1 (o2.kinds (by simp)))
 have C2:=Xqh (Xbm v2 l2 3 w1 (o2.kinds (by simp)))
 have C3:=Xqh (Xbm v1 l1 4 w1 (o2.kinds (by simp)))
 obtain⟨m1,m2,m3,m4,m5⟩:=Z4 (o2.box (g:=w.heap.size) (o:=mvO b p n c r) (by simp))
 have HO:=Xqh o2
 clear o2 HC
 generalize w.heap.size=g at*
 generalize decide (3∈l1)=z1 at*
 generalize decide (3∈l2)=z2 at*
 generalize decide (4∈l1)=z3 at*
 cases z1 with|true=>{go_wp2_with fail;refine C1.out.mono ?_;rintro e w2⟨rfl,rfl⟩;clear C1 C2 C3;go_wp2;go_ret;exact⟨by rw[HE.out];simp,HO.out.drop.drop.drop⟩}|false=>cases z2 with|true=>{go_wp2_with fail;refine C1.out.mono ?_;rintro e w2⟨rfl,rfl⟩;go_wp2_with fail;refine C2.out.mono ?_;rintro e w3⟨rfl,rfl⟩;clear C1 C2 C3;go_wp2;go_ret;exact⟨by rw[HE.out];simp,HO.out.drop.drop.drop⟩}|false=>cases z3 with|true=>{go_wp2_with fail;refine C1.out.mono ?_;rintro e w2⟨rfl,rfl⟩;go_wp2_with fail;refine C2.out.mono ?_;rintro e w3⟨rfl,rfl⟩;go_wp2_with fail;refine C3.out.mono ?_;rintro e w4⟨rfl,rfl⟩;clear C1 C2 C3;go_wp2;go_ret;exact⟨by rw[HE.out];simp,HO.out.drop.drop.drop⟩}|false=>cases r with|true=>{go_wp2_with fail;refine C1.out.mono ?_;rintro e w2⟨rfl,rfl⟩;go_wp2_with fail;refine C2.out.mono ?_;rintro e w3⟨rfl,rfl⟩;go_wp2_with fail;refine C3.out.mono ?_;rintro e w4⟨rfl,rfl⟩;clear C1 C2 C3;go_wp2;go_ret;exact⟨by rw[HE.out];simp,HO.out.drop.drop.drop⟩}|false=>by_cases hc0:c=0;·{have e0:(c !=0)=false:=by{simp[hc0]};have HC0:=Xqh hc0;clear hc0;go_wp2_with fail;refine C1.out.mono ?_;rintro e w2⟨rfl,rfl⟩;go_wp2_with fail;refine C2.out.mono ?_;rintro e w3⟨rfl,rfl⟩;go_wp2_with fail;refine C3.out.mono ?_;rintro e w4⟨rfl,rfl⟩;clear C1 C2 C3;go_wp2;go_ret;exact⟨by rw[HE.out];simp[HC0.out],HO.out.drop.drop.drop⟩};·have e0:(c !=0)=true:=by{simp[hc0]};have HH:=Xqh (HCC.out hc0);have HC0:=Xqh hc0;clear hc0;have HK:=Xqh (Zv (b:=b) (A:=A) HO.out (by simp[HM.out]) HS.out HH.out HN.out);by_cases h3:nd.Xa=3;·{have e3:(nd.Xa==3)=true:=by{simp[h3]};have H3:=Xqh h3;clear h3;go_wp2_with fail;refine C1.out.mono ?_;rintro e w2⟨rfl,rfl⟩;go_wp2_with fail;refine C2.out.mono ?_;rintro e w3⟨rfl,rfl⟩;go_wp2_with fail;refine C3.out.mono ?_;rintro e w4⟨rfl,rfl⟩;clear C1 C2 C3;go_wp2_with fail;refine HK.out.mono ?_;rintro e w5⟨rfl,o5,-⟩;have HO5:=Xqh o5;clear o5 HK m1 m2 m3 m4 m5;go_wp2;go_ret;exact⟨by rw[HE.out];simp[H3.out,HC0.out],HO5.out.drop.drop.drop⟩};·have e3:(nd.Xa==3)=false:=by{simp[h3]};have H3:=Xqh h3;clear h3;go_wp2_with fail;refine C1.out.mono ?_;rintro e w2⟨rfl,rfl⟩;go_wp2_with fail;refine C2.out.mono ?_;rintro e w3⟨rfl,rfl⟩;go_wp2_with fail;refine C3.out.mono ?_;rintro e w4⟨rfl,rfl⟩;clear C1 C2 C3;go_wp2_with fail;refine HK.out.mono ?_;rintro e w5⟨rfl,o5,-⟩;have HO5:=Xqh o5;clear o5 HK m1 m2 m3 m4 m5;go_wp2;go_ret;exact⟨by rw[HE.out];simp[H3.out],HO5.out.drop.drop.drop⟩
end
section
open Go.RowKit Go.Shelf
theorem XkV {A:Ar}{K:List Int}{k:Nat}{x:Int}(hx:K[k]?=some x):(K.take (k+1)).map (fun y=>(A.get y).Xa)=(K.take k).map (fun y=>(A.get y).Xa)++ [(A.get x).Xa]:=by
 have hk:=(List.getElem?_eq_some_iff.1 hx).1
 rw[List.take_succ_eq_append_getElem hk,(List.getElem?_eq_some_iff.1 hx).2]
 simp
theorem XkW {w0 w:World}{B b:Nat}{A:Ar}{l:List Xf}{p n c:Int}{r:Bool}(o:Own w0 B l w)(hm:Xf.arena b A∈l)(hI:A.Inv)(hs:A.ns.length≤100000)(hp:A.has p)(hn:A.has n)(hcc:c≠0→A.has c):Calls Tryz.prog 144 #[.agg #[.pointer (some ⟨b,0,none⟩),.int .i64 p,.int .i64 n,.int .i64 c,.bool r]] w fun e w'=>e= .returned (.bool (decide (A.Xan p n c r)))∧Own w0 B l w':=by
 have o1:=o.alloc (.cells #[.pointer (some ⟨b,0,none⟩),.int .i64 p,.int .i64 n,.int .i64 c,.bool r] 130)
 obtain⟨nd,hnd⟩:∃nd,A.get n=nd:=⟨_,rfl⟩
 have HS:=Xqh (hI.short (by omega))
 have HK:=Xqh (Zv (b:=b) (A:=A) o1 (by simp[hm]) HS.out hn hnd)
 have HM:=Xqh hm
 have HI:=Xqh hI
 have HCC:=Xqh hcc
 have HP:=Xqh hp
 have hkl:=Ar.Yz hI.wf hn
 have hko:A.YN n=(A.get n).Xc:=if_pos hn
 have HX:=Xqh (fun x(hx:x∈(A.get n).Xc)=>(XF hI hn hx).1)
 have HCR:Hid (decide (A.Xan p n c r)=(decide (nd.Xa=2)&&decide (A.JB p n c r)||(decide (nd.Xa=4)&&decide (A.Zu p c r)||decide (nd.Xa=3)&&decide (A.Jd p c r)))):=Xqh (by rw[←hnd,Bool.eq_iff_iff];simp only[Bool.or_eq_true,Bool.and_eq_true,decide_eq_true_eq];exact Iff.rfl)
 have HFB:Hid (decide (A.JB p n c r)=(decide (5∈(A.get n).Xc.map (fun y=>(A.get y).Xa))||(decide (1<((A.get n).Xc.map (fun y=>(A.get y).Xa)).count 4)||decide (((A.get n).Xc.map (fun y=>(A.get y).Xa)).count 4=1)&&decide (A.Zu p c r)))):=Xqh (by rw[Bool.eq_iff_iff];simp[Ar.JB,Ar.XbY])
 clear o o1 hm hI hcc hp hnd
 generalize decide (A.Xan p n c r)=eb at*
 generalize decide (A.JB p n c r)=fb at*
 go_enter Tryz.func144,Tryz.ntmps144
 go_wp2_with fail
 refine HK.out.mono ?_
 rintro e w1⟨rfl,o2,-⟩
 obtain⟨m1,m2,m3,m4,m5⟩:=Z4 (o2.box (g:=w.heap.size) (o:=mvO b p n c r) (by simp))
 generalize w.heap.size=g at*
 clear HK
 by_cases h2:nd.Xa=2
 ·have e2:(nd.Xa==2)=true:=by{simp[h2]};rw[h2]at HCR;have HKD:=Xqh (Xap (b:=b) (A:=A) (h:=n) o2 (by simp[HM.out]) HS.out);rw[hko]at HKD;have HCR2:Hid (eb=fb):=Xqh (by rw[HCR.out];simp);clear o2 hko h2 HCR hn;generalize(A.get n).Xc=K at*;go_wp2_with fail;refine HKD.out.mono ?_;rintro e w2⟨ka,kc,rfl,o3⟩;clear m1 m2 m3 m4 m5 HKD;have HO:=Xqh o3;clear o3;go_wp2;go_loopw [3,19](fun u3 i wr=>∃(k:Nat),k≤K.length∧i= .int .i64 k∧u3= .int .i64 (((K.take k).map (fun y=>(A.get y).Xa)).count 4:Nat)∧Hid (5∉(K.take k).map (fun y=>(A.get y).Xa))∧Hid (Own w0 B (.ints (.slice ka K.length kc) K:: .box g (mvO b p n c r)::l) wr))(fun _ i _=>K.length-(intOf i).toNat);(case atStart=>exact⟨0,Nat.zero_le _,rfl,rfl,Xqh (by simp),HO⟩);case round=>obtain⟨k,hk,rfl,rfl,HN5,hT⟩:=hrel;have hcl:((K.take k).map (fun y=>(A.get y).Xa)).count 4≤100000:=Nat.le_trans List.count_le_length (by simp;omega);obtain⟨m1,m2,m3,m4,m5⟩:=Z4 (hT.out.box (g:=g) (o:=mvO b p n c r) (by simp));by_cases hlt:k<K.length;·{obtain⟨x,hx⟩:∃x,K[k]?=some x:=⟨_,List.getElem?_eq_getElem hlt⟩;have hri:Xy wr (.slice ka K.length kc) K:=hT.out.ints (by simp);obtain⟨b1,o1,rfl,-,hcs⟩:=hri.cells (by omega);have c1:=hcs k x hx;have hx2:=HX.out x (List.mem_of_getElem? hx);have HTK:=Xqh (XkV (A:=A) hx);obtain⟨xd,hxd⟩:∃xd,A.get x=xd:=⟨_,rfl⟩;have HK:=Xqh (Zv (b:=b) (A:=A) hT.out (by simp[HM.out]) HS.out hx2 hxd);rw[hxd]at HTK;have HKM:=Xqh (List.mem_of_getElem? hx);have HXD:=Xqh hxd;clear hxd hri hcs hx hT;generalize hct:((K.take k).map (fun y=>(A.get y).Xa)).count 4=cn at*;have HCT:=Xqh hct;clear hct;by_cases h5:xd.Xa=5;·{have e5:(xd.Xa==5)=true:=by{simp[h5]};have HF:Hid (eb=true):=Xqh (by rw[HCR2.out,HFB.out,decide_eq_true (List.mem_map.2 ⟨x,HKM.out,by rw[HXD.out,h5]⟩)];rfl);clear h5;go_wp2_with fail;refine HK.out.mono ?_;rintro e w3⟨rfl,o4,-⟩;have HO4:=Xqh o4;clear o4 HK m1 m2 m3 m4 m5 c1;go_wp2;go_ret;exact⟨by rw[HF.out];try rfl,HO4.out.drop.drop⟩};·have e5:(xd.Xa==5)=false:=by{simp[h5]};have HN5':Hid (5∉(K.take (k+1)).map (fun y=>(A.get y).Xa)):=Xqh (by rw[HTK.out];intro q;rcases List.mem_append.1 q with q|q;·{exact HN5.out q};·simp at q;exact h5 q.symm);clear h5 HN5;by_cases h4:xd.Xa=4;·{have e4:(xd.Xa==4)=true:=by{simp[h4]};have HC':Hid (((K.take (k+1)).map (fun y=>(A.get y).Xa)).count 4=cn+1):=Xqh (by rw[HTK.out,List.count_append,HCT.out,h4];simp);clear h4;go_wp2_with fail;refine HK.out.mono ?_;rintro e w3⟨rfl,o4,-⟩;have HO4:=Xqh o4;clear o4 HK m1 m2 m3 m4 m5 c1;go_wp2;go_roundw;(case rel=>exact⟨k+1,hlt,by go_num,by rw[HC'.out];go_num,HN5',HO4⟩);case measure=>simp[intOf];omega};·have e4:(xd.Xa==4)=false:=by{simp[h4]};have HC':Hid (((K.take (k+1)).map (fun y=>(A.get y).Xa)).count 4=cn):=Xqh (by rw[HTK.out,List.count_append,HCT.out];have: [xd.Xa].count 4=0:=by{simp[h4]};rw[this];rfl);clear h4;go_wp2_with fail;refine HK.out.mono ?_;rintro e w3⟨rfl,o4,-⟩;have HO4:=Xqh o4;clear o4 HK m1 m2 m3 m4 m5 c1;go_wp2;go_roundw;(case rel=>exact⟨k+1,hlt,by go_num,by rw[HC'.out],HN5',HO4⟩);case measure=>simp[intOf];omega};·have hkl2:K.take k=K:=List.take_of_length_le (by omega);rw[hkl2]at HN5 hcl⊢;have HFB2:Hid (eb=(decide (1<(K.map (fun y=>(A.get y).Xa)).count 4)||decide ((K.map (fun y=>(A.get y).Xa)).count 4=1)&&decide (A.Zu p c r))):=Xqh (by rw[HCR2.out,HFB.out,decide_eq_false HN5.out];rfl);clear HN5 hkl2 HFB HCR2;generalize(K.map (fun y=>(A.get y).Xa)).count 4=cn at*;by_cases h1:1<cn;·{have HF:Hid (eb=true):=Xqh (by rw[HFB2.out,decide_eq_true h1];rfl);clear HFB2;go_wp2;go_ret;exact⟨by rw[HF.out];try rfl,hT.out.drop.drop⟩};·by_cases h1':cn=1;·{subst h1';have HF:Hid (eb=decide (A.Zu p c r)):=Xqh (by rw[HFB2.out];simp);have HE:=Xqh (Xg6 (b:=b) (A:=A) (r:=r) (n:=n) (c:=c) hT.out (by simp[HM.out]) HI.out hs HP.out HCC.out);clear HFB2 hT h1;go_wp2_with fail;refine HE.out.mono ?_;rintro e w3⟨rfl,o4⟩;have HO4:=Xqh o4;clear o4 HE m1 m2 m3 m4 m5;go_wp2;go_ret;exact⟨by rw[HF.out];try rfl,HO4.out.drop.drop⟩};·have HF:Hid (eb=false):=Xqh (by rw[HFB2.out,decide_eq_false h1,decide_eq_false h1'];rfl);have hc0:cn=0:=by{omega};subst hc0;clear HFB2 h1 h1';go_wp2;go_ret;exact⟨by rw[HF.out];try rfl,hT.out.drop.drop⟩
 ·have e2:(nd.Xa==2)=false:=by{simp[h2]};by_cases h4:nd.Xa=4;·{have e4:(nd.Xa==4)=true:=by{simp[h4]};have HF:Hid (eb=decide (A.Zu p c r)):=Xqh (by rw[HCR.out,h4];simp);have HE:=Xqh (Xg6 (b:=b) (A:=A) (r:=r) (n:=n) (c:=c) o2 (by simp[HM.out]) HI.out hs HP.out HCC.out);clear HCR HFB o2 h2 h4;go_wp2_with fail;refine HE.out.mono ?_;rintro e w3⟨rfl,o4⟩;have HO4:=Xqh o4;clear o4 HE m1 m2 m3 m4 m5;go_wp2;go_ret;exact⟨by rw[HF.out];try rfl,HO4.out.drop⟩};·have e4:(nd.Xa==4)=false:=by{simp[h4]};by_cases h3:nd.Xa=3;·{have e3:(nd.Xa==3)=true:=by{simp[h3]};have HF:Hid (eb=decide (A.Jd p c r)):=Xqh (by rw[HCR.out,h3];simp);have HE:=Xqh (XkU (b:=b) (A:=A) (r:=r) (n:=n) (c:=c) o2 (by simp[HM.out]) HI.out hs HP.out HCC.out);clear HCR HFB o2 h2 h4 h3;go_wp2_with fail;refine HE.out.mono ?_;rintro e w3⟨rfl,o4⟩;have HO4:=Xqh o4;clear o4 HE m1 m2 m3 m4 m5;go_wp2;go_ret;exact⟨by rw[HF.out];try rfl,HO4.out.drop⟩};·have e3:(nd.Xa==3)=false:=by{simp[h3]};have HF:Hid (eb=false):=Xqh (by rw[HCR.out,decide_eq_false h2,decide_eq_false h4,decide_eq_false h3];rfl);have HO:=Xqh o2;clear HCR HFB o2 h2 h4 h3;go_wp2;go_ret;exact⟨by rw[HF.out];try rfl,HO.out.drop⟩
end
section
open Go.RowKit Go.Shelf
attribute [local go_sem] Oper.semAt_some
theorem XkX {w0 w:World}{B b:Nat}{A:Ar}{l:List Xf}{p n c:Int}{r:Bool}(o:Own w0 B l w)(hm:Xf.arena b A∈l)(hI:A.Inv)(hs:A.ns.length≤100000)(hp:A.has p)(hn:A.has n)(hcc:c≠0→A.has c):Calls Tryz.prog 138 #[.agg #[.pointer (some ⟨b,0,none⟩),.int .i64 p,.int .i64 n,.int .i64 c,.bool r]] w fun e w'=>e= .returned (.bool (decide (A.rule p n c r 0)))∧Own w0 B l w':=by
 have o1:=o.alloc (.cells #[.pointer (some ⟨b,0,none⟩),.int .i64 p,.int .i64 n,.int .i64 c,.bool r] 130)
 have HS:=Xqh (hI.short (by omega))
 obtain⟨nd,hnd⟩:∃nd,A.get p=nd:=⟨_,rfl⟩
 have HK:=Xqh (Zv (b:=b) (A:=A) o1 (by simp[hm]) HS.out hp hnd)
 have HF:Hid (decide (A.rule p n c r 0)=(!decide (nd.Xa=1)&&(!decide (nd.Xa=2)&& !decide (nd.Xa=4)))):=Xqh (by rw[←hnd,Bool.eq_iff_iff];simp[Ar.rule])
 clear o o1 hm hI hnd
 generalize decide (A.rule p n c r 0)=eb at*
 generalize nd.Xa=kd at*
 go_enter Tryz.func138,Tryz.ntmps138
 by_cases h1:kd=1
 ·have e1:(kd !=1)=false:=by{simp[h1]};have HE:Hid (eb=false):=Xqh (by rw[HF.out,decide_eq_true h1];rfl);clear h1 HF;go_wp2_with fail;refine HK.out.mono ?_;rintro e w1⟨rfl,o2,-⟩;have HO:=Xqh o2;clear o2 HK;go_wp2;go_ret;exact⟨by rw[HE.out];try rfl,HO.out.drop⟩
 ·have e1:(kd !=1)=true:=by{simp[h1]};by_cases h2:kd=2;·{have e2:(kd !=2)=false:=by{simp[h2]};have HE:Hid (eb=false):=Xqh (by rw[HF.out,decide_eq_false h1,decide_eq_true h2];rfl);clear h1 h2 HF;go_wp2_with fail;refine HK.out.mono ?_;rintro e w1⟨rfl,o2,-⟩;have HO:=Xqh o2;clear o2 HK;go_wp2;go_ret;exact⟨by rw[HE.out];try rfl,HO.out.drop⟩};·have e2:(kd !=2)=true:=by{simp[h2]};have HE:Hid (eb=(kd !=4)):=Xqh (by rw[HF.out,decide_eq_false h1,decide_eq_false h2];simp[bne,Bool.beq_eq_decide_eq]);clear h1 h2 HF;go_wp2_with fail;refine HK.out.mono ?_;rintro e w1⟨rfl,o2,-⟩;have HO:=Xqh o2;clear o2 HK;go_wp2;go_ret;exact⟨by rw[HE.out];try rfl,HO.out.drop⟩
theorem XkY {w0 w:World}{B b:Nat}{A:Ar}{l:List Xf}{p n c:Int}{r:Bool}(o:Own w0 B l w)(hm:Xf.arena b A∈l)(hI:A.Inv)(hs:A.ns.length≤100000)(hp:A.has p)(hn:A.has n)(hcc:c≠0→A.has c):Calls Tryz.prog 139 #[.agg #[.pointer (some ⟨b,0,none⟩),.int .i64 p,.int .i64 n,.int .i64 c,.bool r]] w fun e w'=>e= .returned (.bool (decide (A.rule p n c r 1)))∧Own w0 B l w':=by
 have o1:=o.alloc (.cells #[.pointer (some ⟨b,0,none⟩),.int .i64 p,.int .i64 n,.int .i64 c,.bool r] 130)
 have HS:=Xqh (hI.short (by omega))
 obtain⟨ρ,hA⟩:=o1.arena (b:=b) (A:=A) (by simp[hm])
 have HC:=Xqh (Xgw A ρ b n p _ hA hI.wf)
 have HF:Hid (decide (A.rule p n c r 1)=A.contains n p):=Xqh (by show decide (A.contains n p=true)=_;simp)
 have HO:=Xqh o1
 clear o o1 hm hI hA
 go_enter Tryz.func139,Tryz.ntmps139
 go_wp2_with fail
 refine HC.out.mono ?_
 rintro e w1⟨rfl,hB⟩
 have HO1:=Xqh (HO.out.read hB)
 clear HC hB HO
 go_wp2
 go_ret
 exact⟨by rw[HF.out];try rfl,HO1.out.drop⟩
theorem XkZ {w0 w:World}{B b:Nat}{A:Ar}{l:List Xf}{p n c:Int}{r:Bool}(o:Own w0 B l w)(hm:Xf.arena b A∈l)(hI:A.Inv)(hs:A.ns.length≤100000)(hp:A.has p)(hn:A.has n)(hcc:c≠0→A.has c):Calls Tryz.prog 140 #[.agg #[.pointer (some ⟨b,0,none⟩),.int .i64 p,.int .i64 n,.int .i64 c,.bool r]] w fun e w'=>e= .returned (.bool (decide (A.rule p n c r 2)))∧Own w0 B l w':=by
 have o1:=o.alloc (.cells #[.pointer (some ⟨b,0,none⟩),.int .i64 p,.int .i64 n,.int .i64 c,.bool r] 130)
 have HS:=Xqh (hI.short (by omega))
 have HF:Hid (decide (A.rule p n c r 2)=(decide (c≠0)&& !decide ((A.get c).Xd=p))):=Xqh (by rw[Bool.eq_iff_iff];simp[Ar.rule])
 have HCC:=Xqh hcc
 have HO:=Xqh o1
 obtain⟨m1,m2,m3,m4,m5⟩:=Z4 (o1.box (g:=w.heap.size) (o:=mvO b p n c r) (by simp))
 have HP:=Xqh (fun x:Wld (w.alloc (.cells #[.pointer (some ⟨b,0,none⟩),.int .i64 p,.int .i64 n,.int .i64 c,.bool r] 130))=>Xev (b:=b) (A:=A) (h:=c) (o1.read x.2) (by simp[hm]))
 clear o o1 hm hI hcc
 generalize decide (A.rule p n c r 2)=eb at*
 go_enter Tryz.func140,Tryz.ntmps140
 go_upto_region 1 with fail
 generalize hw1:w.alloc _=w1 at*
 generalize hg:w.heap.size=g at*
 clear hw1 hg
 have x1:=Wld.cell (w:=w1) m1
 have x2:=Wld.cell (w:=w1) m2
 have x4:=Wld.cell (w:=w1) m4
 by_cases hc0:c=0
 ·have e0:(c !=0)=false:=by{simp[hc0]};have HE:Hid (eb=false):=Xqh (by rw[HF.out,hc0];rfl);clear hc0 HF;refine XaV (by kernel_rfl) (by kernel_rfl) ?_;(repeat(go_big_quiet_step(first|(go_at_call 12;exact Wld.same (HP.out _)))));refine wpQuiet_nil ?_;rintro Wx⟨⟨W9,hW9⟩,hWx⟩;have hWx':Wx=W9:=hWx;clear hWx;subst hWx';have HO9:=Xqh (HO.out.read hW9);clear x1 x2 x4 m1 m2 m3 m4 m5 hW9 HO HP;go_wp2;go_ret;exact⟨by rw[HE.out];try rfl,HO9.out.drop⟩
 ·have e0:(c !=0)=true:=by{simp[hc0]};have hpo:A.parentOf c=(A.get c).Xd:=if_pos (HCC.out hc0);rw[hpo]at HP;have HE:Hid (eb=((A.get c).Xd !=p)):=Xqh (by rw[HF.out,decide_eq_true hc0];simp[bne,Bool.beq_eq_decide_eq]);clear hc0 HF hpo;generalize(A.get c).Xd=pp at*;refine XaV (by kernel_rfl) (by kernel_rfl) ?_;(repeat(go_big_quiet_step(first|(go_at_call 12;exact Wld.same (HP.out _)))));refine wpQuiet_nil ?_;rintro Wx⟨⟨W9,hW9⟩,hWx⟩;have hWx':Wx=W9:=hWx;clear hWx;subst hWx';have HO9:=Xqh (HO.out.read hW9);clear x1 x2 x4 m1 m2 m3 m4 m5 hW9 HO HP;go_wp2;go_ret;exact⟨by rw[HE.out];try rfl,HO9.out.drop⟩
theorem Xk0 {w0 w:World}{B b:Nat}{A:Ar}{l:List Xf}{p n c:Int}{r:Bool}(o:Own w0 B l w)(hm:Xf.arena b A∈l)(hI:A.Inv)(hs:A.ns.length≤100000)(hp:A.has p)(hn:A.has n)(hcc:c≠0→A.has c):Calls Tryz.prog 141 #[.agg #[.pointer (some ⟨b,0,none⟩),.int .i64 p,.int .i64 n,.int .i64 c,.bool r]] w fun e w'=>e= .returned (.bool (decide (A.rule p n c r 3)))∧Own w0 B l w':=by
 have o1:=o.alloc (.cells #[.pointer (some ⟨b,0,none⟩),.int .i64 p,.int .i64 n,.int .i64 c,.bool r] 130)
 have HS:=Xqh (hI.short (by omega))
 obtain⟨nd,hnd⟩:∃nd,A.get n=nd:=⟨_,rfl⟩
 have HK:=Xqh (Zv (b:=b) (A:=A) o1 (by simp[hm]) HS.out hn hnd)
 have HF:Hid (decide (A.rule p n c r 3)=(nd.Xa==1)):=Xqh (by rw[←hnd];simp[Ar.rule,Bool.beq_eq_decide_eq])
 clear o o1 hm hI hnd
 go_enter Tryz.func141,Tryz.ntmps141
 go_wp2_with fail
 refine HK.out.mono ?_
 rintro e w1⟨rfl,o2,-⟩
 have HO:=Xqh o2
 clear o2 HK
 go_wp2
 go_ret
 exact⟨by rw[HF.out];try rfl,HO.out.drop⟩
theorem Xk1 {w0 w:World}{B b:Nat}{A:Ar}{l:List Xf}{p n c:Int}{r:Bool}(o:Own w0 B l w)(hm:Xf.arena b A∈l)(hI:A.Inv)(hs:A.ns.length≤100000)(hp:A.has p)(hn:A.has n)(hcc:c≠0→A.has c):Calls Tryz.prog 142 #[.agg #[.pointer (some ⟨b,0,none⟩),.int .i64 p,.int .i64 n,.int .i64 c,.bool r]] w fun e w'=>e= .returned (.bool (decide (A.rule p n c r 4)))∧Own w0 B l w':=by
 have o1:=o.alloc (.cells #[.pointer (some ⟨b,0,none⟩),.int .i64 p,.int .i64 n,.int .i64 c,.bool r] 130)
 have HS:=Xqh (hI.short (by omega))
 obtain⟨pd,hpd⟩:∃nd,A.get p=nd:=⟨_,rfl⟩
 obtain⟨nd,hnd⟩:∃nd,A.get n=nd:=⟨_,rfl⟩
 have HF:Hid (decide (A.rule p n c r 4)=(decide (pd.Xa=1)&&decide (nd.Xa=5)||(!decide (pd.Xa=1)&&decide (nd.Xa=3)))):=Xqh (by rw[←hnd,←hpd,Bool.eq_iff_iff];simp[Ar.rule])
 have HO:=Xqh o1
 obtain⟨m1,m2,m3,m4,m5⟩:=Z4 (o1.box (g:=w.heap.size) (o:=mvO b p n c r) (by simp))
 have HKP:=Xqh (fun x:Wld (w.alloc (.cells #[.pointer (some ⟨b,0,none⟩),.int .i64 p,.int .i64 n,.int .i64 c,.bool r] 130))=>(Zv (b:=b) (A:=A) (o1.read x.2) (by simp[hm]) HS.out hp hpd).mono (fun e w' q=>show e= .returned (.int .i64 pd.Xa)∧Below x.val.heap.size x.val w' from⟨q.1,q.2.2⟩))
 have HKN:=Xqh (fun x:Wld (w.alloc (.cells #[.pointer (some ⟨b,0,none⟩),.int .i64 p,.int .i64 n,.int .i64 c,.bool r] 130))=>(Zv (b:=b) (A:=A) (o1.read x.2) (by simp[hm]) HS.out hn hnd).mono (fun e w' q=>show e= .returned (.int .i64 nd.Xa)∧Below x.val.heap.size x.val w' from⟨q.1,q.2.2⟩))
 clear o o1 hm hI hcc hnd hpd
 generalize decide (A.rule p n c r 4)=eb at*
 generalize pd.Xa=kp at*
 generalize nd.Xa=kn at*
 go_enter Tryz.func142,Tryz.ntmps142
 go_upto_region 1 with fail
 generalize hw1:w.alloc _=w1 at*
 generalize hg:w.heap.size=g at*
 clear hw1 hg
 have x1:=Wld.cell (w:=w1) m1
 have x2:=Wld.cell (w:=w1) m2
 have x3:=Wld.cell (w:=w1) m3
 by_cases hk1:kp=1
 ·have e0:(kp==1)=true:=by{simp[hk1]};have HE:Hid (eb=(kn==5)):=Xqh (by rw[HF.out,decide_eq_true hk1];simp[Bool.beq_eq_decide_eq]);clear hk1 HF;by_cases hk5:kn=5;·{have e5:(kn==5)=true:=by{simp[hk5]};rw[e5]at HE;clear hk5;refine XaV (by kernel_rfl) (by kernel_rfl) ?_;(repeat(go_big_quiet_step(first|(go_at_call 38;(with_reducible exact Wld.call (HKP.out _)))|(go_at_call 38;(with_reducible exact Wld.call (HKN.out _))))));refine wpQuiet_nil ?_;rintro Wx⟨⟨W9,hW9⟩,hWx⟩;have hWx':Wx=W9:=hWx;clear hWx;subst hWx';have HO9:=Xqh (HO.out.read hW9);clear x1 x2 x3 m1 m2 m3 m4 m5 hW9 HO HKP HKN;go_wp2;go_ret;exact⟨by rw[HE.out];try rfl,HO9.out.drop⟩};·have e5:(kn==5)=false:=by{simp[hk5]};rw[e5]at HE;clear hk5;refine XaV (by kernel_rfl) (by kernel_rfl) ?_;(repeat(go_big_quiet_step(first|(go_at_call 38;(with_reducible exact Wld.call (HKP.out _)))|(go_at_call 38;(with_reducible exact Wld.call (HKN.out _))))));refine wpQuiet_nil ?_;rintro Wx⟨⟨W9,hW9⟩,hWx⟩;have hWx':Wx=W9:=hWx;clear hWx;subst hWx';have HO9:=Xqh (HO.out.read hW9);clear x1 x2 x3 m1 m2 m3 m4 m5 hW9 HO HKP HKN;go_wp2;go_ret;exact⟨by rw[HE.out];try rfl,HO9.out.drop⟩
 ·have e0:(kp==1)=false:=by{simp[hk1]};have HE:Hid (eb=(kn==3)):=Xqh (by rw[HF.out,decide_eq_false hk1];simp[Bool.beq_eq_decide_eq]);clear hk1 HF;refine XaV (by kernel_rfl) (by kernel_rfl) ?_;(repeat(go_big_quiet_step(first|(go_at_call 38;(with_reducible exact Wld.call (HKP.out _)))|(go_at_call 38;(with_reducible exact Wld.call (HKN.out _))))));refine wpQuiet_nil ?_;rintro Wx⟨⟨W9,hW9⟩,hWx⟩;have hWx':Wx=W9:=hWx;clear hWx;subst hWx';have HO9:=Xqh (HO.out.read hW9);clear x1 x2 x3 m1 m2 m3 m4 m5 hW9 HO HKP HKN;go_wp2;go_ret;exact⟨by rw[HE.out];try rfl,HO9.out.drop⟩
theorem Xk2 {w0 w:World}{B b:Nat}{A:Ar}{l:List Xf}{p n c:Int}{r:Bool}(o:Own w0 B l w)(hm:Xf.arena b A∈l)(hI:A.Inv)(hs:A.ns.length≤100000)(hp:A.has p)(hn:A.has n)(hcc:c≠0→A.has c):Calls Tryz.prog 143 #[.agg #[.pointer (some ⟨b,0,none⟩),.int .i64 p,.int .i64 n,.int .i64 c,.bool r]] w fun e w'=>e= .returned (.bool (decide (A.rule p n c r 5)))∧Own w0 B l w':=by
 have o1:=o.alloc (.cells #[.pointer (some ⟨b,0,none⟩),.int .i64 p,.int .i64 n,.int .i64 c,.bool r] 130)
 have HS:=Xqh (hI.short (by omega))
 obtain⟨pd,hpd⟩:∃nd,A.get p=nd:=⟨_,rfl⟩
 have HK:=Xqh (Zv (b:=b) (A:=A) o1 (by simp[hm]) HS.out hp hpd)
 have HF:Hid (decide (A.rule p n c r 5)=(decide (pd.Xa=1)&&decide (A.Xan p n c r))):=Xqh (by rw[←hpd,Bool.eq_iff_iff];simp[Ar.rule])
 have HM:=Xqh hm
 have HI:=Xqh hI
 have HCC:=Xqh hcc
 have HPN:=Xqh (And.intro hp hn)
 clear o o1 hm hI hcc hpd hp hn
 generalize decide (A.rule p n c r 5)=eb at*
 go_enter Tryz.func143,Tryz.ntmps143
 by_cases hk1:pd.Xa=1
 ·have e0:(pd.Xa==1)=true:=by{simp[hk1]};have HE:Hid (eb=decide (A.Xan p n c r)):=Xqh (by rw[HF.out,decide_eq_true hk1];simp);clear hk1 HF;go_wp2_with fail;refine HK.out.mono ?_;rintro e w1⟨rfl,o2,-⟩;have HC:=Xqh (XkW (b:=b) (A:=A) (r:=r) (n:=n) (c:=c) o2 (by simp[HM.out]) HI.out hs HPN.out.1 HPN.out.2 HCC.out);obtain⟨m1,m2,m3,m4,m5⟩:=Z4 (o2.box (g:=w.heap.size) (o:=mvO b p n c r) (by simp));clear o2 HK;go_wp2_with fail;refine HC.out.mono ?_;rintro e w2⟨rfl,o3⟩;have HO:=Xqh o3;clear o3 HC m1 m2 m3 m4 m5;go_wp2;go_ret;exact⟨by rw[HE.out];try rfl,HO.out.drop⟩
 ·have e0:(pd.Xa==1)=false:=by{simp[hk1]};have HE:Hid (eb=false):=Xqh (by rw[HF.out,decide_eq_false hk1];rfl);clear hk1 HF;go_wp2_with fail;refine HK.out.mono ?_;rintro e w1⟨rfl,o2,-⟩;have HO:=Xqh o2;clear o2 HK;go_wp2;go_ret;exact⟨by rw[HE.out];try rfl,HO.out.drop⟩
/-- The table of the rules, as its cells. -/
abbrev Z5 : Array Value := #[.func (.func 138) #[] #[], .int .i64 4, .func (.func 139) #[] #[], .int .i64 4, .func (.func 140) #[] #[], .int .i64 5, .func (.func 141) #[] #[], .int .i64 4, .func (.func 142) #[] #[], .int .i64 4, .func (.func 143) #[] #[], .int .i64 4]
theorem Xk3 (w:World):Calls Tryz.prog 118 #[] w fun e w'=>e= .returned (.slice (some ⟨w.heap.size,0,none⟩) 6 6)∧w'=w.alloc (.cells Z5 154):=by
 go_enter Tryz.func118,Tryz.ntmps118
 go_wp2
 go_ret
 exact⟨rfl,rfl⟩
end
end Go.Proofs.YtpicinjcmjaogaaGreatDoor
