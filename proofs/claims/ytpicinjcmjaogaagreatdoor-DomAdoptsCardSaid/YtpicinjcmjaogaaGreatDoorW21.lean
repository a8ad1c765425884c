import Derived.BigQuiet
import Derived.Test.YtpicinjcmjaogaaGreatDoorW14
import Derived.Test.YtpicinjcmjaogaaGreatDoorW19
import Derived.Test.YtpicinjcmjaogaaGreatDoorW20
set_option maxRecDepth 100000
set_option maxHeartbeats 4000000
set_option linter.unusedVariables false
namespace Go.Proofs.YtpicinjcmjaogaaGreatDoor
section
theorem XiE {l:List Int}{k:Int}(h:k∉l):XQ l k=l:=List.filter_eq_self.2 (fun y hy=>by simp;rintro rfl;exact h hy)
theorem without_app (a b:List Int)(k:Int):XQ (a++b) k=XQ a k++XQ b k:=List.filter_append ..
theorem XiF {l:List Int}{k x:Int}:x∈XQ l k↔x∈l∧x≠k:=by
 unfold XQ
 rw[List.mem_filter]
 simp
theorem XdB {A:Ar}(hI:A.Inv){x y:Int}(hx:A.has x)(hy:A.has y):(A.cut x).get y=(A.get y).re (XQ (A.get y).Xc x) (if y=x then 0 else(A.get y).Xd):=by
 rw[Ar.Zc hI hx hy]
 congr 1
 by_cases e:y=(A.get x).Xd
 ·rw[if_pos e]
 ·rw[if_neg e,XiE (fun q=>e (XF hI hy q).2.2.symm)]
theorem XiG {A:Ar}(hI:A.Inv){x:Int}(hx:A.has x):(A.cut x).Xi x=A.Xi x:=by
 refine Xcd hI (Ar.XC.cut hI hx) x hx (fun z hz=>?_)
 obtain⟨z1,z2⟩:=(Jr hI x hx z).1 hz
 rw[XdB hI hx z1]
 refine⟨(Ar.X5 _ _ _).2 z1,?_,rfl⟩
 show XQ (A.get z).Xc x=_
 refine XiE (fun q=>?_)
 obtain⟨q1,q2,q3⟩:=XF hI z1 q
 have hd:=Jq hI q1 z1 q2
 obtain⟨l1,e⟩:=XaS hI z1 z2
 have:A.depth x≤A.depth z:=by unfold Ar.depth;rw[e];simp
 omega
theorem XnN {n:Nd}{k k':List Int}{p p' e:Int}(h1:k=k')(h2:p=p'):({n.re k p with doc:=e}:Nd)={n.re k' p' with doc:=e}:=by
 rw[h1,h2]
theorem XnO {B:Ar}{d p c x:Int}(hI:B.Inv)(hx:B.has x)(hp:B.has p)(hd:B.has d)(hk:(B.get d).Xa=1)(hkp:(B.get p).Xa=1∨(B.get p).Xa=2∨(B.get p).Xa=4)(hkx:(B.get x).Xa≠1∧(B.get x).Xa≠2)(hno:p∉B.Xi x)(hc:c≠0→B.has c∧c≠x∧(B.get c).Xd=p):(Yd d p c B x).Inv∧B.ns.length≤(Yd d p c B x).ns.length∧∀y,B.has y→(Yd d p c B x).has y∧∃e,(Yd d p c B x).get y={(B.get y).re (if y=p then YK (XQ (B.get y).Xc x) x c else XQ (B.get y).Xc x) (if y=x then p else(B.get y).Xd)with doc:=e}:=by
 obtain⟨i1,t,i3⟩:=Xbk hI hx hd hk
 have hle:B.ns.length≤(B.YM x d).ns.length:=by have:=t.le;rw[Ar.YY]at this;exact this
 have hC:(B.cut x).Inv:=Ar.XC.cut hI hx
 have hasC:∀y,B.has y→(B.cut x).has y:=fun y hy=>(Ar.X5 _ _ _).2 hy
 have hget:∀y,B.has y→(B.YM x d).has y∧∃e,(B.YM x d).get y={(B.get y).re (XQ (B.get y).Xc x) (if y=x then 0 else(B.get y).Xd)with doc:=e}:=fun y hy=>by refine⟨t.has (hasC y hy),?_⟩;obtain⟨e,he⟩:=t.get y (hasC y hy);exact⟨e,by rw[he,XdB hI hx hy]⟩
 have hwx:(B.YM x d).Xi x=B.Xi x:=by rw[t.Xi hC i1 x (hasC x hx),XiG hI hx]
 generalize hA1:B.YM x d=A1 at*
 have hst:Yd d p c B x=(A1.put p x c).2:=by unfold Yd;rw[hA1]
 rw[hst]
 obtain⟨hx1,ex,gx⟩:=hget x hx
 obtain⟨hp1,ep,gp⟩:=hget p hp
 have hne:p≠x:=fun e=>hno (by rw[Ym hI hx,e];simp)
 have hct:A1.contains x p=false:=by rw[J0 i1,hwx];exact decide_eq_false hno
 have kp1:(A1.get p).Xa=(B.get p).Xa:=by rw[gp]<;>rfl
 have kx1:(A1.get x).Xa=(B.get x).Xa:=by rw[gx]<;>rfl
 have px1:(A1.get x).Xd=0:=by rw[gx];show(if x=x then(0:Int)else _)=0;rw[if_pos rfl]
 have hc1:c≠0→A1.has c∧(A1.get c).Xd=p:=fun h0=>by obtain⟨a,b,e⟩:=hc h0;obtain⟨h1,ec,gc⟩:=hget c a;refine⟨h1,?_⟩;rw[gc];show(if c=x then(0:Int)else _)=p;rw[if_neg b,e]
 have hal:A1.allowed p x c (A1.contains x p)=0:=by unfold Ar.allowed;rw[if_neg (fun q=>q.elim (fun q=>q hp1) (fun q=>q.elim (fun q=>q hx1) (fun q=>q.2 (hc1 q.1).1))),if_neg (fun q=>q (by rw[kp1];exact hkp)),if_neg (fun q=>q.elim (by rw[kx1];exact hkx.1) (fun q=>q.elim (by rw[kx1];exact hkx.2) (fun q=>by rw[hct]at q;exact absurd q (by decide)))),if_neg (fun q=>q.2.elim (hc q.1).2.1 (fun z=>z (hc1 q.1).2))]
 have e:(A1.put p x c).2=A1.place p x c:=by unfold Ar.put;rw[if_neg (fun q=>q hal)]
 refine⟨Ar.Inv.put i1 p x c,by rw[(JO A1 p x c).2];exact hle,fun y hy=>?_⟩
 obtain⟨hy1,ey,gy⟩:=hget y hy
 rw[e]
 refine⟨by unfold Ar.has;rw[Ar.XaI];exact hy1,ey,?_⟩
 rw[Ar.Xcy hp1 hx1 hy1 hne,J1 px1,gy]
 refine Eq.trans (show _=({(B.get y).re (if y=p then YK (XQ (B.get y).Xc x) x c else XQ (B.get y).Xc x) (if y=x then p else(if y=x then 0 else(B.get y).Xd))with doc:=ey}:Nd)from rfl) (XnN rfl ?_)
 by_cases q:y=x
 ·rw[if_pos q,if_pos q]
 ·rw[if_neg q,if_neg q,if_neg q]
theorem putIn_split {K1 K2:List Int}{x c:Int}(hz:(0:Int)∉K1++K2)(hn:(K1++K2).Nodup)(hc:(c=0∧K2= [])∨∃t,K2=c::t∧c≠0):YK (K1++K2) x c=K1++x::K2:=by
 rcases hc with⟨rfl,rfl⟩|⟨t,rfl,h0⟩
 ·rw[Xcs hz];simp
 ·rw[XdT (i:=K1.length) h0 hn (by simp)];simp
/-- The Xc of a Xd where the nodes of l are put before c. -/
structure Xp0 (B B' : Ar) (l : List Int) (p : Int) (K1 K2 : List Int) : Prop where
  inv : B'.Inv
  le : B.ns.length ≤ B'.ns.length
  get : ∀ y, B.has y → B'.has y ∧ ∃ e, B'.get y = { (B.get y).re (if y = p then K1.filter (fun z => z ∉ l) ++ l ++ K2.filter (fun z => z ∉ l) else (B.get y).Xc.filter (fun z => z ∉ l)) (if y ∈ l then p else (B.get y).Xd) with doc := e }
theorem filter_cons_not {K l:List Int}{x:Int}:K.filter (fun z=>z∉x::l)=(XQ K x).filter (fun z=>z∉l):=by
 unfold XQ
 rw[List.filter_filter]
 congr 1
 funext z
 by_cases h1:z=x<;>by_cases h2:z∈l<;>simp[h1,h2]
theorem puts_fold {d p c:Int}:∀(l:List Int){B:Ar}{K1 pre K2:List Int},B.Inv→B.has p→B.has d→(B.get d).Xa=1→((B.get p).Xa=1∨(B.get p).Xa=2∨(B.get p).Xa=4)→(∀x∈l,B.has x∧(B.get x).Xa≠1∧(B.get x).Xa≠2∧p∉B.Xi x)→l.Nodup→(B.get p).Xc=K1++pre++K2→(∀x∈l,x∉pre)→((c=0∧K2= [])∨∃t,K2=c::t∧c≠0∧c∉l)→(l.foldl (Yd d p c) B).Inv∧B.ns.length≤(l.foldl (Yd d p c) B).ns.length∧∀y,B.has y→(l.foldl (Yd d p c) B).has y∧∃e,(l.foldl (Yd d p c) B).get y={(B.get y).re (if y=p then K1.filter (fun z=>z∉l)++pre++l++K2.filter (fun z=>z∉l)else(B.get y).Xc.filter (fun z=>z∉l)) (if y∈l then p else(B.get y).Xd)with doc:=e}
 | [],B,K1,pre,K2,hI,hp,hd,hk,hkp,hl,hn,hkids,hpre,hc=>by{refine⟨hI,Nat.le_refl _,fun y hy=>⟨hy,(B.get y).doc,?_⟩⟩;show B.get y=_;have e1:∀K:List Int,K.filter (fun z=>z∉([]:List Int))=K:=fun K=>List.filter_eq_self.2 (fun z hz=>by simp);have e2:(if y∈([]:List Int)then p else(B.get y).Xd)=(B.get y).Xd:=if_neg List.not_mem_nil;rw[e1,e1,e1,e2];by_cases q:y=p;·{rw[if_pos q,List.append_nil,←hkids,q]<;>rfl};·rw[if_neg q]<;>rfl}
 |x::l,B,K1,pre,K2,hI,hp,hd,hk,hkp,hl,hn,hkids,hpre,hc=>by{obtain⟨x1,x2,x3,x4⟩:=hl x (by simp);obtain⟨n1,n2⟩:=List.nodup_cons.1 hn;have hnk:=hI.wf.nodup p hp;have hzk:(0:Int)∉(B.get p).Xc:=fun z=>Za B (XF hI hp z).1;have hcm:c≠0→B.has c∧c≠x∧(B.get c).Xd=p:=fun h0=>by{rcases hc with⟨q,-⟩|⟨t,rfl,-,q⟩;·{exact absurd q h0};·obtain⟨a,-,b⟩:=XF hI hp (k:=c) (by rw[hkids];simp);exact⟨a,fun e=>q (by rw[e];simp),b⟩};obtain⟨s1,s2,s3⟩:=XnO hI x1 hp hd hk hkp ⟨x2,x3⟩ x4 hcm;have hpx:p≠x:=fun e=>x4 (by rw[Ym hI x1,e];simp);have hxpre:x∉pre:=hpre x (by simp);have hkw:XQ (B.get p).Xc x=XQ K1 x++pre++XQ K2 x:=by{rw[hkids,without_app,without_app,XiE hxpre]};have hput:YK (XQ (B.get p).Xc x) x c=XQ K1 x++(pre++ [x])++XQ K2 x:=by{rw[hkw,putIn_split];·{simp};·{rw[←hkw];exact fun q=>hzk (XiF.1 q).1};·{rw[←hkw];exact hnk.filter _};·rcases hc with⟨q,rfl⟩|⟨t,rfl,h0,q⟩;·{exact .inl ⟨q,rfl⟩};·refine .inr ⟨XQ t x,?_,h0⟩;have:c≠x:=fun e=>q (by rw[e];simp);unfold XQ;rw[List.filter_cons,if_pos (by simp[this])]};have hle:=s2;generalize hB1:Yd d p c B x=B1 at*;rw[List.foldl_cons,hB1];have kk:∀y,B.has y→(B1.get y).Xa=(B.get y).Xa:=fun y hy=>by{obtain⟨e,he⟩:=(s3 y hy).2;rw[he]<;>rfl};have hkids1:(B1.get p).Xc=XQ K1 x++(pre++ [x])++XQ K2 x:=by{obtain⟨e,he⟩:=(s3 p hp).2;rw[he];show(if p=p then _ else _)=_;rw[if_pos rfl,hput]};have hw:∀z∈l,p∉B1.Xi z:=fun z hz=>by{obtain⟨z1,z2,z3,z4⟩:=hl z (by simp[hz]);have:∀u,B.has u→p∉B.Xi u→∀v,v∈B1.Xi u→v∈B.Xi u:=by{refine Jc hI (fun u hu hcu hku hpu v hv=>?_);have hwu:=Ym hI hu;obtain⟨u1,e,he⟩:=s3 u hu;have hup:u≠p:=fun q=>hpu (by rw[hwu,q];simp);have ek:(B1.get u).Xc=XQ (B.get u).Xc x:=by{rw[he];show(if u=p then _ else _)=_;rw[if_neg hup]};have ec:(B1.get u).Xg=(B.get u).Xg:=by{rw[he]<;>rfl};rw[Ym s1 u1,ek,ec]at hv;rw[hwu];rcases List.mem_cons.1 hv with rfl|hv;·{simp};·refine List.mem_cons.2 (.inr (List.mem_append.2 ?_));rcases List.mem_append.1 hv with hv|hv;·{left;by_cases q:(B.get u).Xg=0;·{rw[if_neg (fun e=>e q)]at hv;simp at hv};·rw[if_pos q]at hv⊢;exact hcu q (fun r=>hpu (by rw[hwu,if_pos q];simp[r])) v hv};·right;obtain⟨k,k1,k2⟩:=List.mem_flatMap.1 hv;have k3:=(XiF.1 k1).1;refine List.mem_flatMap.2 ⟨k,k3,hku k k3 (fun r=>hpu ?_) v k2⟩;rw[hwu];exact List.mem_cons.2 (.inr (List.mem_append.2 (.inr (List.mem_flatMap.2 ⟨k,k3,r⟩))))};exact fun q=>z4 (this z z1 z4 p q)};obtain⟨r1,r2,r3⟩:=puts_fold (d:=d) (p:=p) (c:=c) l (B:=B1) (K1:=XQ K1 x) (pre:=pre++ [x]) (K2:=XQ K2 x) s1 (s3 p hp).1 (s3 d hd).1 ((kk d hd).trans hk) (by rw[kk p hp];exact hkp) (fun z hz=>by obtain⟨z1,z2,z3,z4⟩:=hl z (by simp[hz]);exact⟨(s3 z z1).1,by rw[kk z z1];exact z2,by rw[kk z z1];exact z3,hw z hz⟩) n2 hkids1 (fun z hz q=>by rcases List.mem_append.1 q with q|q;·{exact hpre z (by simp[hz]) q};·simp at q;subst q;exact n1 hz) (by rcases hc with⟨q,rfl⟩|⟨t,rfl,h0,q⟩;·{exact .inl ⟨q,rfl⟩};·refine .inr ⟨XQ t x,?_,h0,fun e=>q (by simp[e])⟩;have:c≠x:=fun e=>q (by rw[e];simp);unfold XQ;rw[List.filter_cons,if_pos (by simp[this])]);refine⟨r1,Nat.le_trans hle r2,fun y hy=>?_⟩;obtain⟨y1,ey,gy⟩:=s3 y hy;obtain⟨y2,ey2,gy2⟩:=r3 y y1;refine⟨y2,ey2,?_⟩;rw[gy2,gy];refine Eq.trans (show _=({(B.get y).re (if y=p then(XQ K1 x).filter (fun z=>z∉l)++(pre++ [x])++l++(XQ K2 x).filter (fun z=>z∉l)else(if y=p then YK (XQ (B.get y).Xc x) x c else XQ (B.get y).Xc x).filter (fun z=>z∉l)) (if y∈l then p else(if y=x then p else(B.get y).Xd))with doc:=ey2}:Nd)from rfl) (XnN ?_ ?_);·{by_cases q:y=p;·{rw[if_pos q,if_pos q,filter_cons_not,filter_cons_not];simp};·rw[if_neg q,if_neg q,if_neg q,filter_cons_not]};·by_cases q1:y∈l;·{rw[if_pos q1,if_pos (by simp[q1])]};·by_cases q2:y=x;·{rw[if_neg q1,if_pos q2,if_pos (by simp[q2])]};·rw[if_neg q1,if_neg q2,if_neg (by simp[q1,q2])]}
end
section
open Go.RowKit
theorem XeS {w0 w:World}{B b:Nat}{A:Ar}{l:List Xf}{h:Int}(o:Own w0 B l w)(hm:Xf.arena b A∈l)(hI:A.Inv):Calls Tryz.prog 91 #[.pointer (some ⟨b,0,none⟩),.int .i64 h] w fun e w'=>e= .returned (.int .i64 (A.index h))∧w=w':=by
 obtain⟨ρ,hA⟩:=o.arena hm
 exact XjQ A ρ b h w hA (fun hh hp=>(hI.wf.link h hh hp).1)
theorem XkJ {A:Ar}{h:Int}(hp:(A.get h).Xd=0):A.next h=0:=by
 unfold Ar.next
 have:A.index h= -1:=if_neg (fun q=>q.2 hp)
 rw[this,if_neg (fun q=>by have:=q.1;omega)]
theorem XeT {A:Ar}(hI:A.Inv){h:Int}(hh:A.has h)(hp:(A.get h).Xd≠0):∃i:Nat,A.index h=i∧i<(A.get (A.get h).Xd).Xc.length∧(A.get (A.get h).Xd).Xc[i]?=some h:=by
 obtain⟨h1,h2,h3⟩:=hI.wf.link h hh hp
 obtain⟨i,e,hi,hg,_⟩:=XcI h2
 exact⟨i,by unfold Ar.index;rw[if_pos ⟨hh,hp⟩,e],hi,hg⟩
theorem Xc5 {w0 w:World}{B b:Nat}{A:Ar}{l:List Xf}{h:Int}(o:Own w0 B l w)(hm:Xf.arena b A∈l)(hI:A.Inv)(hs:A.ns.length≤1000000)(hh:A.has h):Calls Tryz.prog 55 #[.pointer (some ⟨b,0,none⟩),.int .i64 h] w fun e w'=>e= .returned (.int .i64 (A.next h))∧Own w0 B l w':=by
 have hpo:A.parentOf h=(A.get h).Xd:=if_pos hh
 have HI:=Xqh hI
 have HM:=Xqh hm
 have HP:=Xqh (Xev o hm (h:=h))
 have HK:=Xqh (Xap o hm (hI.short hs) (h:=(A.get h).Xd))
 rw[hpo]at HP
 by_cases hp:(A.get h).Xd=0
 ·have hx:A.index h= -1:=if_neg (fun q=>q.2 hp);have HN:=Xqh (XkJ hp);clear hp hI hs o hm hpo hh;go_enter Tryz.func55,Tryz.ntmps55;go_wp2_with fail;refine HP.out.mono ?_;rintro e w1⟨rfl,rfl⟩;go_wp2_with fail;refine HK.out.mono ?_;rintro e w1⟨ka,kc,rfl,o1⟩;clear HP HK;go_wp2_with fail;refine(XeS o1 (by simp[HM.out]) HI.out).mono ?_;rintro e w2⟨rfl,rfl⟩;rw[hx];have HO:=Xqh o1;clear o1;go_wp2;go_ret;rw[HN.out];exact⟨rfl,HO.out.drop⟩
 ·obtain⟨i,hx,hi,-⟩:=XeT hI hh hp;have hpp:=(hI.wf.link h hh hp).1;have hkl:=Ar.Yz hI.wf hpp;have hko:A.YN (A.get h).Xd=(A.get (A.get h).Xd).Xc:=if_pos hpp;rw[hko]at HK;have HN:Hid (A.next h=if i+1<(A.get (A.get h).Xd).Xc.length then(A.get (A.get h).Xd).Xc[i+1]?.getD 0 else 0):=Xqh (by unfold Ar.next;rw[hx];by_cases q:i+1<(A.get (A.get h).Xd).Xc.length;·{rw[if_pos ⟨by omega,by omega⟩,if_pos q];rfl};·rw[if_neg (fun e=>q (by have:=e.2;omega)),if_neg q]);generalize(A.get (A.get h).Xd).Xc=K at*;generalize(A.get h).Xd=p at*;have hil:(i:Int)≤1000000:=by{omega};clear hp hI o hm hpo hh hko hpp;by_cases hlt:i+1<K.length;·{rw[if_pos hlt]at HN;go_enter Tryz.func55,Tryz.ntmps55;go_wp2_with fail;refine HP.out.mono ?_;rintro e w1⟨rfl,rfl⟩;go_wp2_with fail;refine HK.out.mono ?_;rintro e w1⟨ka,kc,rfl,o1⟩;clear HP HK;go_wp2_with fail;refine(XeS o1 (by simp[HM.out]) HI.out).mono ?_;rintro e w2⟨rfl,rfl⟩;rw[hx];have hri:Xy w1 (.slice ka K.length kc) K:=o1.ints (by simp);obtain⟨b1,o2,rfl,-,hcs⟩:=hri.cells (by omega);have d1:=hcs (i+1) (K[i+1]?.getD 0) (by simp[List.getElem?_eq_getElem hlt]);have HO:=Xqh o1;clear o1 hcs;generalize K[i+1]?.getD 0=y at*;go_wp2;go_ret;rw[HN.out];exact⟨rfl,HO.out.drop⟩};·rw[if_neg hlt]at HN;go_enter Tryz.func55,Tryz.ntmps55;go_wp2_with fail;refine HP.out.mono ?_;rintro e w1⟨rfl,rfl⟩;go_wp2_with fail;refine HK.out.mono ?_;rintro e w1⟨ka,kc,rfl,o1⟩;clear HP HK;go_wp2_with fail;refine(XeS o1 (by simp[HM.out]) HI.out).mono ?_;rintro e w2⟨rfl,rfl⟩;rw[hx];have HO:=Xqh o1;clear o1;go_wp2;go_ret;rw[HN.out];exact⟨rfl,HO.out.drop⟩
theorem Xg3 {w0 w:World}{B:Nat}{l:List Xf}(o:Own w0 B l w)(x:Int):Own w0 B (.ints (.slice (some ⟨w.heap.size,0,none⟩) 1 1) [x]::l) (w.alloc (.cells #[.int .i64 x] 3)):=o.fresh (Xw w _) ⟨fun k=>k=w.heap.size,⟨Xed (l:= [x]) (heap_alloc_new w _) (by unfold maxLen;omega) rfl (Nat.le_refl _) (fun k hk=>by have:k=0:=by{simp at hk;exact hk};subst this;rfl),fun k=>⟨fun h=>by subst h;rfl,fun h=>by simp[Value.ownBlock]at h;omega⟩⟩,fun k hk=>by omega⟩
theorem XkK {w0 w:World}{B b:Nat}{A:Ar}{l:List Xf}{h:Int}(o:Own w0 B l w)(hm:Xf.arena b A∈l)(hS:A.YC)(hh:A.has h):Calls Tryz.prog 92 #[.pointer (some ⟨b,0,none⟩),.int .i64 h] w fun e w'=>∃a c,e= .returned (.slice a (A.X7 h).length c)∧Own w0 B (.ints (.slice a (A.X7 h).length c) (A.X7 h)::l) w':=by
 have HK:=Xqh (Zv o hm hS hh rfl)
 have hko:A.YN h=(A.get h).Xc:=if_pos hh
 have HM:=Xqh hm
 have HS:=Xqh hS
 clear hm hS
 by_cases hk:(A.get h).Xa=2
 ·have hn:A.X7 h=A.YN h:=by{unfold Ar.X7;rw[if_pos hk,hko]};rw[hn];clear hn hko;rw[hk]at HK;clear hk hh;go_enter Tryz.func92,Tryz.ntmps92;go_wp2_with fail;refine HK.out.mono ?_;rintro e w1⟨rfl,o1,-⟩;clear HK o;go_wp2_with fail;refine(Xap o1 HM.out HS.out).mono ?_;rintro e w2⟨a,c,rfl,o2⟩;have HO:=Xqh o2;clear o1 o2;go_wp2;go_ret;exact⟨a,c,rfl,HO.out⟩
 ·have hn:A.X7 h= [h]:=by{unfold Ar.X7;rw[if_neg hk]};rw[hn];have hk':((A.get h).Xa==2)=false:=by{simp[hk]};generalize(A.get h).Xa=kk at*;clear hn hko hk hh;go_enter Tryz.func92,Tryz.ntmps92;go_wp2_with fail;refine HK.out.mono ?_;rintro e w1⟨rfl,o1,-⟩;have HO:=Xqh (Xg3 o1 h);clear HK o o1;go_wp2;go_ret;exact⟨_,_,rfl,HO.out⟩
end
section
theorem XiH {A:Ar}{p n c:Int}{r:Bool}:∀(m i:Nat),i+m=6→A.ruleFrom p n c r i m=0→∀j,i≤j→j<6→¬A.rule p n c r j
 |0,i,hi,h,j,h1,h2=>by{omega}
 |m+1,i,hi,h,j,h1,h2=>by{unfold Ar.ruleFrom at h;split at h;·{exact absurd h (by unfold Xao;(repeat' split);all_goals first|(decide)|omega)};·rename_i hr;rcases Nat.lt_or_ge i j with q|q;·{exact XiH m (i+1) (by omega) h j (by omega) h2};·rw[show j=i by(omega)];exact hr}
theorem XiI {A:Ar}{p n c:Int}{r:Bool}(h:A.Ya p n c r=0):((A.get p).Xa=1∨(A.get p).Xa=2∨(A.get p).Xa=4)∧A.contains n p=false∧(c≠0→(A.get c).Xd=p)∧(A.get n).Xa≠1:=by
 have k:=XiH 6 0 rfl h
 have k0:¬¬_:=k 0 (by omega) (by omega)
 have k1:¬(A.contains n p=true):=k 1 (by omega) (by omega)
 have k2:¬(c≠0∧(A.get c).Xd≠p):=k 2 (by omega) (by omega)
 have k3:¬((A.get n).Xa=1):=k 3 (by omega) (by omega)
 exact⟨Classical.not_not.1 k0,by simpa using k1,fun q=>Classical.not_not.1 (fun z=>k2 ⟨q,z⟩),k3⟩
theorem XiJ {A:Ar}(hI:A.Inv){c:Int}(hc:A.has c):∀h,(A.cut c).has h→∀y∈(A.cut c).Xi h,y∈A.Xi h:=by
 have hC:=Ar.XC.cut hI hc
 refine Jc hC (fun h hh hcc hk y hy=>?_)
 have hhA:A.has h:=(Ar.X5 _ _ _).1 hh
 have e:=XdB hI hc hhA
 rw[Ym hC hh]at hy
 rw[Ym hI hhA]
 have e1:((A.cut c).get h).Xg=(A.get h).Xg:=by rw[e]
 have e2:((A.cut c).get h).Xc=XQ (A.get h).Xc c:=by rw[e]
 rw[e1]at hcc hy
 rw[e2]at hk hy
 rcases List.mem_cons.1 hy with q|q
 ·exact List.mem_cons.2 (.inl q)
 ·refine List.mem_cons.2 (.inr (List.mem_append.2 ?_));rcases List.mem_append.1 q with q|q;·{by_cases z:(A.get h).Xg=0;·{rw[if_neg (fun w=>w z)]at q;simp at q};·rw[if_pos z]at q⊢;exact .inl (hcc z y q)};·obtain⟨k,hkk,hyk⟩:=List.mem_flatMap.1 q;exact .inr (List.mem_flatMap.2 ⟨k,(XiF.1 hkk).1,hk k hkk y hyk⟩)
theorem XfG {A:Ar}(hI:A.Inv){c:Int}(hc:A.has c)(hp:(A.get c).Xd≠0):∃K1 K2,(A.get (A.get c).Xd).Xc=K1++c::K2∧A.next c=K2.head?.getD 0:=by
 obtain⟨i,h1,h2,h3⟩:=XeT hI hc hp
 have hk:=(List.getElem?_eq_some_iff.1 h3).2
 refine⟨(A.get (A.get c).Xd).Xc.take i,(A.get (A.get c).Xd).Xc.drop (i+1),?_,?_⟩
 ·have e:=List.drop_eq_getElem_cons h2;rw[hk]at e;rw[←e,List.take_append_drop]
 ·unfold Ar.next;rw[h1];have e:((A.get (A.get c).Xd).Xc.drop (i+1)).head?=(A.get (A.get c).Xd).Xc[i+1]?:=by{rw[List.head?_drop]};rw[e];by_cases q:i+1<(A.get (A.get c).Xd).Xc.length;·{rw[if_pos ⟨by omega,by omega⟩,show((i:Int)+1).toNat=i+1 by(omega)]};·rw[if_neg (fun z=>q (by omega)),List.getElem?_eq_none (by omega)];rfl
theorem XnP {A:Ar}(hI:A.Inv){p n:Int}(hp:A.has p)(hn:A.has n)(h1:(A.get n).Xa≠1)(hct:A.contains n p=false):(∀x∈A.X7 n,A.has x∧(A.get x).Xa≠1∧(A.get x).Xa≠2∧p∉A.Xi x∧(x=n∨(A.get x).Xd=n))∧(A.X7 n).Nodup:=by
 have hpw:p∉A.Xi n:=by rw[J0 hI]at hct;exact of_decide_eq_false hct
 unfold Ar.X7
 by_cases h2:(A.get n).Xa=2
 ·rw[if_pos h2];refine⟨fun x hx=>?_,hI.wf.nodup n hn⟩;obtain⟨q1,q2,q3⟩:=XF hI hn hx;have:=hI.par x q1 (by rw[q3];have:=hn.1;omega);refine⟨q1,this.1,this.2,fun z=>hpw ?_,.inr q3⟩;rw[Ym hI hn];exact List.mem_cons.2 (.inr (List.mem_append.2 (.inr (List.mem_flatMap.2 ⟨x,hx,z⟩))))
 ·rw[if_neg h2];refine⟨fun x hx=>?_,by simp⟩;simp at hx;rw[hx];exact⟨hn,h1,h2,hpw,.inl rfl⟩
theorem XiK {c:Int}:∀{K1 K2 L1 L2:List Int},(K1++c::K2).Nodup→K1++c::K2=L1++c::L2→K1=L1∧K2=L2
 | [],K2,[],L2,_,h=>by{simp at h;exact⟨rfl,h⟩}
 | [],K2,y::L1,L2,hn,h=>by{simp at h;obtain⟨rfl,h⟩:=h;simp[h]at hn}
 |x::K1,K2,[],L2,hn,h=>by{simp at h;obtain⟨rfl,h⟩:=h;simp at hn}
 |x::K1,K2,y::L1,L2,hn,h=>by{simp only[List.cons_append,List.cons.injEq]at h;obtain⟨rfl,h⟩:=h;obtain⟨a,b⟩:=XiK (List.nodup_cons.1 hn).2 h;exact⟨by rw[a],b⟩}
theorem Xa6 {A:Ar}{x:Int}(h:A.has x):x≠0:=by
 have:=h.1
 omega
end
section
open Go.RowKit Go.Shelf
attribute [local go_sem] Oper.semAt_some
theorem XkQ {α:Type}{K:List Int}{k:Nat}{x:Int}(g:Int→List α)(hx:K[k]?=some x):K.flatMap g=(K.take k).flatMap g++(g x++(K.drop (k+1)).flatMap g):=by
 have hk:=(List.getElem?_eq_some_iff.1 hx).1
 have e:K=K.take k++(x::K.drop (k+1)):=by have:=(List.take_append_drop k K).symm;rw[List.drop_eq_getElem_cons hk,(List.getElem?_eq_some_iff.1 hx).2]at this;exact this
 conv=>lhs;rw[e]
 rw[List.flatMap_append,List.flatMap_cons]
theorem Own.XkR {w0 w:World}{B:Nat}{G:Nat→Prop}{f:Nat→Option Obj}{l:List Xf}(h:Own w0 B l w)(hm:Xf.keep G f∈l):∀k,G k→k<w.heap.size:=let⟨_,⟨_,q,_⟩,_⟩:=h.get hm;q
theorem XkS {m m':Nat}{P:Program}{l:Nat}{args:Array Value}{W:World}{R:Ending→World→Prop}(h:YieldAt Fence.wide m P l args W R):YieldAt Fence.wide m' P l args W R:=by
 obtain⟨fn,tmps,assign,body,h1,h2⟩:=h
 exact⟨fn,tmps,assign,body,h1,h2.1,fun c cs _=>h2.2 c cs (room_wide _)⟩
theorem XkT {A:Ar}{b:Nat}(hI:A.Inv)(hsm:A.ns.length≤100000){w0:World}{B l n:Nat}{Lf:List Int→List Xf→Prop}{Jx:List Int→World→Prop}{Sp:List Int→Prop}(hLR:∀pre L,Lf pre L→∃A',Xf.arena b A'∈L∧A.Tree A'∧A'.Inv∧A'.ns.length≤1000000)(hY:∀pre x W1 L G f,Sp (pre++ [x])→Lf pre L→Own w0 B (.keep G f::L) W1→YieldAt Fence.wide (n-1) Tryz.prog l #[.int .i64 x] W1 fun e W'=>(e= .returned (.bool true)∧∃L',Lf (pre++ [x]) L'∧Own w0 B (.keep G f::L') W')∨(e= .returned (.bool false)∧Jx (pre++ [x]) W')):∀h,A.has h→∀(pre:List Int)(W:World)(L:List Xf)(G:Nat→Prop)(f:Nat→Option Obj),(∀l1 x l2,A.below h=l1++x::l2→Sp (pre++(l1++ [x])))→Lf pre L→Own w0 B (.keep G f::L) W→Calls Tryz.prog 98 #[.pointer (some ⟨b,0,none⟩),.int .i64 h,.func (.yield l) #[] #[]] W fun e W'=>(e= .returned (.bool true)∧∃L',Lf (pre++A.below h) L'∧Own w0 B (.keep G f::L') W')∨(e= .returned (.bool false)∧∃pre',Sp pre'∧Jx pre' W'):=by
 refine Jc hI (fun h hh _ ih pre W L G f hsp hlf o=>?_)
 obtain⟨A',hm,hT,hI',hs'⟩:=hLR _ _ hlf
 have hk':(if A'.has h then(A'.get h).Xc else [])=(A.get h).Xc:=by rw[if_pos (hT.has hh),hT.Xc hh]
 obtain⟨ρ,hA'⟩:=o.arena (b:=b) (A:=A') (by simp[hm])
 have HC:=Xqh (Xgt A' ρ b h W hA' (fun hh=>((hI'.short hs').get hh).1))
 have hkl:=Ar.Yz hI.wf hh
 have HBE:=Xqh (ZD hI hh)
 have HSP:=Xqh hsp
 have HIH:=Xqh ih
 have HLF:=Xqh hlf
 have HO:=Xqh o
 have HY:=Xqh hY
 clear hsp hlf o hA' hm hT hI' ih hLR hY
 rw[hk']at HC
 clear hk'
 generalize(A.get h).Xc=K at*
 refine(callsIn_wide (n:=8)).1 ?_
 refine callsIn_of_wp Tryz.func98 rfl trivial ?_ rfl
 simp only[Tryz.ntmps98,List.size_toArray,List.length_cons,List.length_nil,Nat.reduceAdd,Nat.reduceSub,Array.replicate_succ,Array.replicate_zero,List.push_toArray,List.append_toArray,List.nil_append,List.cons_append]
 gi_wp2_with fail
 refine⟨trivial,?_⟩
 refine(callsIn_wide.2 HC.out).mono ?_
 rintro e W1⟨hB1,v,rfl,hO⟩
 obtain⟨va,vc,rfl⟩:=X6 hO
 have HO1:=Xqh (HO.out.XkF hB1)
 have HOW:=Xqh hO
 have HF0:Hid (∀k,G k→f k=W1.heap[k]?):=Xqh (fun k hk=>((hB1.block k (HO.out.XkR (G:=G) (f:=f) (by simp) k hk)).trans (HO.out.kept (G:=G) (f:=f) (by simp) k hk)).symm)
 clear hO HC HO hB1
 gi_wp2
 gi_loopw [13](fun i wr=>∃(k:Nat),k≤K.length∧i= .int .i64 k∧Hid (∃L',Lf (pre++(K.take k).flatMap (fun k=>k::A.below k)) L'∧Own w0 B (.keep (fun k=>G k∨(W.heap.size≤k∧k<W1.heap.size)) (fun k=>W1.heap[k]?)::L') wr))(fun i _=>K.length-(intOf i).toNat)
 case atStart=>exact⟨0,Nat.zero_le _,rfl,Xqh ⟨L,by simpa using HLF.out,HO1.out⟩⟩
 case round=>obtain⟨k,hk,rfl,hT⟩:=hrel;by_cases hlt:k<K.length;·{obtain⟨x,hx⟩:∃x,K[k]?=some x:=⟨_,List.getElem?_eq_getElem hlt⟩;obtain⟨L',hl',o'⟩:=hT.out;have hkeep:∀q,W.heap.size≤q→q<W1.heap.size→wr.heap[q]?=W1.heap[q]?:=fun q h1 h2=>o'.kept (G:=fun k=>G k∨(W.heap.size≤k∧k<W1.heap.size)) (f:=fun k=>W1.heap[k]?) (by simp) q (.inr ⟨h1,h2⟩);obtain⟨b1,o1,rfl,-,hcs⟩:=(Xeu (Xc4 HOW.out hkeep)).cells (by omega);have d1:=hcs k x hx;have hcut:=XkQ (fun k=>k::A.below k) hx;have htk:=XeR (fun k=>k::A.below k) hx;rw[←HBE.out]at hcut;have HTK:=Xqh htk;have hsp1:=HSP.out ((K.take k).flatMap (fun k=>k::A.below k)) x (A.below x++(K.drop (k+1)).flatMap (fun k=>k::A.below k)) (by rw[hcut];simp);have hsp2:Hid (∀l1 y l2,A.below x=l1++y::l2→Sp ((pre++(K.take k).flatMap (fun k=>k::A.below k)++ [x])++(l1++ [y]))):=Xqh (fun l1 y l2 e=>by have:=HSP.out ((K.take k).flatMap (fun k=>k::A.below k)++x::l1) y (l2++(K.drop (k+1)).flatMap (fun k=>k::A.below k)) (by rw[hcut,e];simp);simpa using this);have hmem:=Xqh (List.mem_of_getElem? hx);generalize(K.take k).flatMap (fun k=>k::A.below k)=D at*;rw[←List.append_assoc]at hsp1;have HS1:=Xqh hsp1;obtain⟨fn,tmps,assign,body,hy,hR⟩:=XkS (m':=7) (HY.out (pre++D) x wr L' _ _ hsp1 hl' o');clear hcs hx hkeep hcut htk hl' o' hsp1 hT;gi_wp2;refine hR.mono ?_;rintro e W3(⟨rfl,L3,hl3,o3⟩|⟨rfl,hJ⟩);·{have HR:=Xqh (HIH.out x hmem.out (pre++D++ [x]) W3 L3 _ _ hsp2.out hl3 o3);clear hR hy o3 hl3;gi_wp2_with fail;refine⟨trivial,?_⟩;refine(callsIn_wide.2 HR.out).mono ?_;rintro e W4(⟨rfl,L4,hl4,o4⟩|⟨rfl,hJ⟩);·{have hrel:Hid (∃L',Lf (pre++(K.take (k+1)).flatMap (fun k=>k::A.below k)) L'∧Own w0 B (.keep (fun k=>G k∨(W.heap.size≤k∧k<W1.heap.size)) (fun k=>W1.heap[k]?)::L') W4):=Xqh ⟨L4,by rw[HTK.out];simpa using hl4,o4⟩;clear hl4 o4 HR;gi_wp2;go_roundw;(case rel=>exact⟨k+1,hlt,by go_num,hrel⟩);case measure=>simp[intOf];omega};·have HJ:=Xqh hJ;clear hJ HR;gi_wp2;go_ret;exact .inr ⟨rfl,HJ.out⟩};·have HJ:=Xqh hJ;clear hJ hR hy;gi_wp2_with fail;refine⟨trivial,?_⟩;gi_wp2;go_ret;exact .inr ⟨rfl,_,HS1.out,HJ.out⟩};·have hkl:K.take k=K:=List.take_of_length_le (by omega);obtain⟨L',hl',o'⟩:=hT.out;rw[hkl,←HBE.out]at hl';have HF:=Xqh (And.intro hl' o');clear hl' o' hT hkl;gi_wp2;go_ret;exact .inl ⟨rfl,_,HF.out.1,HF.out.2.XkG (fun _=> .inl) HF0.out⟩
/-- What the loops over below read of the rounds' memory: the two boxes, an arena with the same tree. -/
def Xbn (A : Ar) (b ab hb : Nat) (h : Int) (L : List Xf) : Prop :=
  Xf.box ab (.cells #[.pointer (some ⟨b, 0, none⟩)] 26 (0, 0)) ∈ L ∧ Xf.box hb (.cells #[.int .i64 h] 3 (0, 0)) ∈ L ∧ ∃ A', Xf.arena b A' ∈ L ∧ A.Tree A' ∧ A'.Inv ∧ A'.ns.length ≤ 1000000
theorem XeU {A:Ar}{b ab hb:Nat}{h:Int}(a:Xf)(L:List Xf)(r:Xbn A b ab hb h L):Xbn A b ab hb h (a::L):=by
 obtain⟨h1,h2,A',h3,h4⟩:=r
 exact⟨by simp[h1],by simp[h2],A',by simp[h3],h4⟩
theorem XeV (b:Nat)(h:Int)(w:World):Calls Tryz.prog 60 #[.pointer (some ⟨b,0,none⟩),.int .i64 h] w fun e w'=>e= .returned (.func (.func 97) #[] #[.pointer (some ⟨w.heap.size,0,none⟩),.pointer (some ⟨w.heap.size+1,0,none⟩)])∧w'=(w.alloc (.cells #[.pointer (some ⟨b,0,none⟩)] 26)).alloc (.cells #[.int .i64 h] 3):=by
 go_enter Tryz.func60,Tryz.ntmps60
 go_wp2
 go_ret
 exact⟨rfl,rfl⟩
theorem XeW {A:Ar}{b ab hb:Nat}{h:Int}(hI:A.Inv)(hsm:A.ns.length≤100000)(hh:A.has h)(w0:World)(B n:Nat):Xg1 Fence.wide n Tryz.prog 97 #[.pointer (some ⟨ab,0,none⟩),.pointer (some ⟨hb,0,none⟩)] (fun x:Int=> #[Value.int .i64 x]) (fun xs=>xs=A.below h) (fun pre=>∃rest,A.below h=pre++rest) (Xbn A b ab hb h) w0 B:=by
 intro l Lf Jx W L hLR hY hl o
 obtain⟨hab,hhb,-⟩:=hLR _ _ hl
 have k1:=XD (o.box hab)
 have k2:=XD (o.box hhb)
 have HC:=Xqh (XkT (n:=n) hI hsm (Sp:=fun pre=>∃rest,A.below h=pre++rest) (fun pre L q=>(hLR pre L q).2.2) hY h hh [] W L _ _ (fun l1 x l2 e=>⟨l2,by rw[e];simp⟩) hl (o.XkE (fun _=>none)))
 clear hY hLR hl o
 refine callsIn_wide.2 ((callsIn_wide (n:=8)).1 ?_)
 refine callsIn_of_wp Tryz.func97 rfl trivial ?_ rfl
 simp only[Tryz.ntmps97,List.size_toArray,List.length_cons,List.length_nil,Nat.reduceAdd,Nat.reduceSub,Array.replicate_succ,Array.replicate_zero,List.push_toArray,List.append_toArray,List.nil_append,List.cons_append]
 gi_wp2_with fail
 refine⟨trivial,?_⟩
 refine(callsIn_wide.2 HC.out).mono ?_
 rintro e W3(⟨rfl,L3,hl3,o3⟩|⟨rfl,pre',hs',hJ⟩)
 ·have HF:=Xqh (And.intro hl3 o3);clear hl3 o3 HC;gi_wp2;go_end0;exact⟨⟨_,rfl⟩,.inl ⟨_,L3,rfl,by simpa using HF.out.1,HF.out.2.drop⟩⟩
 ·have HF:=Xqh (And.intro hs' hJ);clear hs' hJ HC;gi_wp2;go_end0;exact⟨⟨_,rfl⟩,.inr ⟨pre',HF.out.1,HF.out.2⟩⟩
end
end Go.Proofs.YtpicinjcmjaogaaGreatDoor
