import Derived.Deep.QuietTactic
import Derived.BigQuiet
import Derived.Maps.AppendAt
import Derived.Deep.CutRange
import Derived.BigRegion
import Derived.StillTailTactics
import Derived.Test.YtpicinjcmjaogaaGreatDoorW32
set_option maxRecDepth 100000
set_option maxHeartbeats 4000000
set_option linter.unusedVariables false
namespace Go.Proofs.YtpicinjcmjaogaaGreatDoor
section
theorem XiL {A:Ar}(hI:A.Inv){h x y:Int}(hh:A.has h)(hx:x∈A.Xi h)(hy:y∈A.Xi x):y∈A.Xi h:=by
 obtain⟨x1,x2⟩:=(Jr hI h hh x).1 hx
 obtain⟨y1,y2⟩:=(Jr hI x x1 y).1 hy
 obtain⟨l1,e⟩:=XaS hI y1 y2
 exact(Jr hI h hh y).2 ⟨y1,by rw[e];simp[x2]⟩
theorem XfH {A:Ar}(hI:A.Inv){h:Int}(hh:A.has h):h∈A.Xi h:=by
 rw[Ym hI hh]
 simp
theorem walk_kid {A:Ar}(hI:A.Inv){h k:Int}(hh:A.has h)(hk:k∈(A.get h).Xc):k∈A.Xi h:=by
 rw[Ym hI hh]
 exact List.mem_cons.2 (.inr (List.mem_append.2 (.inr (List.mem_flatMap.2 ⟨k,hk,XfH hI (XF hI hh hk).1⟩))))
theorem XnQ {A:Ar}(hI:A.Inv){h:Int}(hh:A.has h)(hc:(A.get h).Xg≠0):(A.get h).Xg∈A.Xi h:=by
 rw[Ym hI hh,if_pos hc]
 simp[XfH hI (ZL hI hh hc).1]
theorem XnU {B B1:Ar}{p:Int}(hI:B.Inv)(h1:B1.Inv)(s:∀u,B.has u→u≠p→B1.has u∧(∀k∈(B1.get u).Xc,k∈(B.get u).Xc)∧(B1.get u).Xg=(B.get u).Xg):∀u,B.has u→p∉B.Xi u→∀v,v∈B1.Xi u→v∈B.Xi u:=by
 refine Jc hI (fun u hu hcu hku hpu v hv=>?_)
 have hwu:=Ym hI hu
 have hup:u≠p:=fun q=>hpu (by rw[hwu,q];simp)
 obtain⟨u1,ek,ec⟩:=s u hu hup
 rw[Ym h1 u1,ec]at hv
 rw[hwu]
 rcases List.mem_cons.1 hv with rfl|hv
 ·simp
 ·refine List.mem_cons.2 (.inr (List.mem_append.2 ?_));rcases List.mem_append.1 hv with hv|hv;·{left;by_cases q:(B.get u).Xg=0;·{rw[if_neg (fun e=>e q)]at hv;simp at hv};·rw[if_pos q]at hv⊢;exact hcu q (fun r=>hpu (by rw[hwu,if_pos q];simp[r])) v hv};·right;obtain⟨k,k1,k2⟩:=List.mem_flatMap.1 hv;refine List.mem_flatMap.2 ⟨k,ek k k1,hku k (ek k k1) (fun r=>hpu ?_) v k2⟩;rw[hwu];exact List.mem_cons.2 (.inr (List.mem_append.2 (.inr (List.mem_flatMap.2 ⟨k,ek k k1,r⟩))))
end
section
theorem snoc_ind {α:Type}{P:List α→Prop}(nil:P [])(snoc:∀l x,P l→P (l++ [x])):∀l,P l:=by
 have key:∀(n:Nat)(l:List α),l.length≤n→P l:=by intro n;induction n with|zero=>{intro l h;have:l= []:=List.eq_nil_of_length_eq_zero (by omega);rw[this];exact nil}|succ n ih=>intro l h;by_cases q:l= [];·{rw[q];exact nil};·rw[←List.dropLast_concat_getLast q];exact snoc _ _ (ih _ (by rw[List.length_dropLast];omega))
 exact fun l=>key _ l (Nat.le_refl _)
theorem if_congr {α:Type}{p q:Prop} [Decidable p] [Decidable q]{a b c d:α}(h:p↔q)(h1:a=c)(h2:b=d):(if p then a else b)=(if q then c else d):=by
 by_cases hp:p
 ·rw[if_pos hp,if_pos (h.1 hp),h1]
 ·rw[if_neg hp,if_neg (fun z=>hp (h.2 z)),h2]
theorem below_par {A:Ar}(hI:A.Inv):∀r,A.has r→∀x∈A.below r,(A.get x).Xd=r∨(A.get x).Xd∈A.below r:=by
 refine Jc hI (fun r hr _ ih x hx=>?_)
 rw[ZD hI hr]at hx⊢
 obtain⟨j,hj,hx⟩:=List.mem_flatMap.1 hx
 rcases List.mem_cons.1 hx with rfl|hx
 ·exact .inl (XF hI hr hj).2.2
 ·rcases ih j hj x hx with e|e;·{exact .inr (List.mem_flatMap.2 ⟨j,hj,by rw[e];simp⟩)};·exact .inr (List.mem_flatMap.2 ⟨j,hj,by simp[e]⟩)
theorem below_kid' {A:Ar}(hI:A.Inv):∀r,A.has r→∀p k,(p=r∨p∈A.below r)→k∈(A.get p).Xc→k∈A.below r:=by
 refine Jc hI (fun r hr _ ih p k hp hk=>?_)
 rw[ZD hI hr]
 rcases hp with rfl|hp
 ·exact List.mem_flatMap.2 ⟨k,hk,by simp⟩
 ·rw[ZD hI hr]at hp;obtain⟨j,hj,hp⟩:=List.mem_flatMap.1 hp;exact List.mem_flatMap.2 ⟨j,hj,List.mem_cons.2 (.inr (ih j hj p k (List.mem_cons.1 hp) hk))⟩
theorem walk_up {A:Ar}(hI:A.Inv):∀c,A.has c→∀x∈A.Xi c,x≠c→A.up x∈A.Xi c:=by
 refine Jc hI (fun c hc ic ik x hx hne=>?_)
 have hs:=XfH hI hc
 rw[Ym hI hc]at hx
 rcases List.mem_cons.1 hx with e|hx
 ·exact absurd e hne
 ·rcases List.mem_append.1 hx with hx|hx;·{by_cases hz:(A.get c).Xg≠0;·{rw[if_pos hz]at hx;obtain⟨q1,q2,-⟩:=ZL hI hc hz;by_cases e:x=(A.get c).Xg;·{rw[e,q2];exact hs};·exact XiL hI hc (XnQ hI hc hz) (ic hz x hx e)};·rw[if_neg hz]at hx;cases hx};·obtain⟨k,hk,hx⟩:=List.mem_flatMap.1 hx;obtain⟨q1,q2,-⟩:=XF hI hc hk;by_cases e:x=k;·{rw[e,q2];exact hs};·exact XiL hI hc (walk_kid hI hc hk) (ik k hk x hx e)
theorem walk_le {A:Ar}(hI:A.Inv):∀c,A.has c→∀x∈A.Xi c,(A.Xi x).length≤(A.Xi c).length:=by
 refine Jc hI (fun c hc ic ik x hx=>?_)
 rw[Ym hI hc]at hx
 rcases List.mem_cons.1 hx with rfl|hx
 ·exact Nat.le_refl _
 ·rcases List.mem_append.1 hx with hx|hx;·{by_cases hz:(A.get c).Xg≠0;·{rw[if_pos hz]at hx;exact Nat.le_trans (ic hz x hx) (Nat.le_of_lt (XcR hI hc hz))};·rw[if_neg hz]at hx;cases hx};·obtain⟨k,hk,hx⟩:=List.mem_flatMap.1 hx;refine Nat.le_trans (ik k hk x hx) ?_;rw[Ym hI hc];obtain⟨s,t,e⟩:=List.append_of_mem hk;rw[e];simp;omega
theorem walk_has {A:Ar}(hI:A.Inv){c x:Int}(hc:A.has c)(hx:x∈A.Xi c):A.has x:=((Jr hI c hc x).1 hx).1
theorem walk_parts {A:Ar}(hI:A.Inv):∀h,A.has h→∀x,x∈A.Xi h↔∃y,(y=h∨y∈A.below h)∧(x=y∨((A.get y).Xg≠0∧x∈A.Xi (A.get y).Xg)):=by
 refine Jc hI (fun h hh _ ik x=>?_)
 constructor
 ·intro hx;rw[Ym hI hh]at hx;rcases List.mem_cons.1 hx with rfl|hx;·{exact⟨x,.inl rfl,.inl rfl⟩};·rcases List.mem_append.1 hx with hx|hx;·{by_cases hz:(A.get h).Xg≠0;·{rw[if_pos hz]at hx;exact⟨h,.inl rfl,.inr ⟨hz,hx⟩⟩};·rw[if_neg hz]at hx;cases hx};·obtain⟨k,hk,hx⟩:=List.mem_flatMap.1 hx;obtain⟨y,hy,q⟩:=(ik k hk x).1 hx;refine⟨y,.inr ?_,q⟩;rw[ZD hI hh];exact List.mem_flatMap.2 ⟨k,hk,List.mem_cons.2 hy⟩
 ·rintro⟨y,hy,q⟩;have hyw:y∈A.Xi h:=by{rcases hy with rfl|hy;·{exact XfH hI hh};·exact(Zt hI h hh y hy).2.1};have hyh:=walk_has hI hh hyw;rcases q with rfl|⟨q1,q2⟩;·{exact hyw};·exact XiL hI hh (XiL hI hh hyw (XnQ hI hyh q1)) q2
theorem contents_off {A:Ar}(hI:A.Inv){h y x:Int}(hh:A.has h)(hy:y=h∨y∈A.below h)(hz:(A.get y).Xg≠0)(hx:x=h∨x∈A.below h):x∉A.Xi (A.get y).Xg:=by
 have hyw:y∈A.Xi h:=by rcases hy with rfl|hy;·{exact XfH hI hh};·exact(Zt hI h hh y hy).2.1
 have hyh:=walk_has hI hh hyw
 obtain⟨c1,c2,c3⟩:=ZL hI hyh hz
 have l1:=XcR hI hyh hz
 have l2:=walk_le hI h hh y hyw
 have key:∀(n:Nat)x,A.depth x≤n→(x=h∨x∈A.below h)→x∈A.Xi (A.get y).Xg→h∈A.Xi (A.get y).Xg:=by intro n;induction n with|zero=>{intro x hn hx hxw;have:=XgD hI (walk_has hI c1 hxw);omega}|succ n ih=>intro x hn hx hxw;rcases hx with rfl|hx;·{exact hxw};·have hp:=(Zt hI h hh x hx).2.2.2;have hxh:=(Zt hI h hh x hx).1;have hne:x≠(A.get y).Xg:=fun e=>hp (by rw[e];exact c3);have hu:A.up x=(A.get x).Xd:=by{unfold Ar.up;rw[if_pos hp]};have h1:=walk_up hI _ c1 x hxw hne;rw[hu]at h1;have hph:=walk_has hI c1 h1;have hd:=Jq hI hxh hph hu;exact ih _ (by omega) (below_par hI h hh x hx) h1
 intro hxw
 have h1:=key _ x (Nat.le_refl _) hx hxw
 have:=walk_le hI _ c1 h h1
 omega
/-- Node documents agree in the tree of a node. -/
def SubC (A : Ar) (h : Int) : Prop := ∀ x ∈ A.Xi h, (∀ k ∈ (A.get x).Xc, (A.get k).doc = (A.get x).doc) ∧ ((A.get x).Xg ≠ 0 → A.Xu (A.get x).doc ≠ 0 ∧ (A.get (A.get x).Xg).doc = A.Xu (A.get x).doc)
theorem subC_inert {A:Ar}(hI:A.Inv):∀h,A.has h→SubC A h→A.Xu (A.get h).doc=(A.get h).doc→∀x∈A.Xi h,(A.get x).doc=(A.get h).doc:=by
 refine Jc hI (fun h hh ic ik hS hi x hx=>?_)
 obtain⟨s1,s2⟩:=hS h (XfH hI hh)
 rw[Ym hI hh]at hx
 rcases List.mem_cons.1 hx with rfl|hx
 ·rfl
 ·rcases List.mem_append.1 hx with hx|hx;·{by_cases hz:(A.get h).Xg≠0;·{rw[if_pos hz]at hx;have e:(A.get (A.get h).Xg).doc=(A.get h).doc:=(s2 hz).2.trans hi;rw[←e];exact ic hz (fun y hy=>hS y (XiL hI hh (XnQ hI hh hz) hy)) (by rw[e];exact hi) x hx};·rw[if_neg hz]at hx;cases hx};·obtain⟨k,hk,hx⟩:=List.mem_flatMap.1 hx;rw[←s1 k hk];exact ik k hk (fun y hy=>hS y (XiL hI hh (walk_kid hI hh hk) hy)) (by rw[s1 k hk];exact hi) x hx
theorem setDoc_mod' {A:Ar}{h d:Int}(hh:A.has h)(hd:A.has d)(hkh:(A.get h).Xa≠1)(hk:(A.get d).Xa=1):(A.Xt h d).2=A.mod h (fun x=>{x with doc:=d}):=by
 unfold Ar.Xt
 rw[if_neg (fun q=>q.elim (fun z=>z hh) (fun z=>z hd)),if_neg (fun q=>q.elim hkh (fun z=>z hk))]
theorem setDoc_doc {A:Ar}{h d x:Int}(hh:A.has h)(hd:A.has d)(hkh:(A.get h).Xa≠1)(hk:(A.get d).Xa=1)(hx:A.has x):((A.Xt h d).2.get x).doc=if x=h then d else(A.get x).doc:=by
 rw[setDoc_mod' hh hd hkh hk,Ar.Zr _ hh hx]
 split
 ·rfl
 ·rfl
/-- What has the Xn d has it in its whole tree. -/
def DC (A : Ar) (h d : Int) : Prop := ∀ x ∈ A.Xi h, (A.get x).doc = d → ∀ z ∈ A.Xi x, (A.get z).doc = d
theorem adoptF_inert :∀(n:Nat){A:Ar}{h d:Int},A.Inv→A.has h→(A.get h).Xd=0→(A.get h).Xa≠1→A.has d→(A.get d).Xa=1→A.Xu d=d→DC A h d→(A.Xi h).length≤n→∀x,A.has x→((adoptF n A h d).get x).doc=if x∈A.Xi h then d else(A.get x).doc
 |0,A,h,d,hI,hh,hp,hkh,hd,hk,hi,hC,hw=>by{have:=YL hI hh;omega}
 |n+1,A,h,d,hI,hh,hp,hkh,hd,hk,hi,hC,hw=>by{intro x hx;have hd0:d≠0:=by{have:=hd.1;omega};unfold adoptF;rw[J1 hp];by_cases hdd:(A.get h).doc=d;·{rw[if_pos hdd];split;·{rename_i q;exact hC h (XfH hI hh) hdd x q};·rfl};·rw[if_neg hdd];have hpl:∀y,(y=h∨y∈A.below h)→A.has y∧(A.get y).Xa≠1∧(A.Xi y).length≤n+1:=by{rintro y(rfl|hy);·{exact⟨hh,hkh,hw⟩};·obtain⟨b1,b2,b3,b4⟩:=Zt hI h hh y hy;exact⟨b1,(hI.par y b1 b4).1,by omega⟩};have key:∀(l1 l2:List Int),h::A.below h=l1++l2→(l1.foldl (Yf (adoptF n) d) A).Inv∧A.Tree (l1.foldl (Yf (adoptF n) d) A)∧(l1.foldl (Yf (adoptF n) d) A).Xh=A.Xh∧(l1.foldl (Yf (adoptF n) d) A).ns.length=A.ns.length∧∀x,A.has x→((l1.foldl (Yf (adoptF n) d) A).get x).doc=if(∃y∈l1,x=y∨((A.get y).Xg≠0∧x∈A.Xi (A.get y).Xg))then d else(A.get x).doc:=by{intro l1;induction l1 using snoc_ind with|nil=>{intro l2 e;exact⟨hI,Ar.Tree.refl A,rfl,rfl,fun x hx=>by rw[if_neg (by rintro⟨y,hy,_⟩;cases hy)];rfl⟩}|snoc l1 y ih=>intro l2 e;obtain⟨b1,b2,b3,b4,b5⟩:=ih (y::l2) (by rw[e];simp);rw[List.foldl_append];simp only[List.foldl_cons,List.foldl_nil];have hym:y=h∨y∈A.below h:=List.mem_cons.1 (by rw[e];simp);obtain⟨y1,y2,y3⟩:=hpl y hym;generalize l1.foldl (Yf (adoptF n) d) A=B at*;have hyB:=b2.has y1;have hdB:=b2.has hd;have hkB:(B.get d).Xa=1:=(b2.Xa hd).trans hk;have hyk:(B.get y).Xa≠1:=by{rw[b2.Xa y1];exact y2};have hiB:B.Xu d=d:=by{unfold Ar.Xu;rw[b3];exact hi};obtain⟨s1,s2⟩:=Xbj B y d;have hI1:=Ar.Inv.Xt b1 y d;have t1:=b2.trans (Ar.Xam B y d);have hdoc1:∀x,A.has x→((B.Xt y d).2.get x).doc=if x=y then d else(B.get x).doc:=fun x hx=>setDoc_doc hyB hdB hyk hkB (b2.has hx);have hcy:=t1.Xg y1;have hi1:(B.Xt y d).2.Xu d=d:=by{unfold Ar.Xu;rw[s1];exact hiB};have hk1:((B.Xt y d).2.get d).Xa=1:=(t1.Xa hd).trans hk;have hd1:=t1.has hd;unfold Yf;generalize(B.Xt y d).2=B1 at*;by_cases hz:(B1.get y).Xg=0;·{rw[if_pos hz];refine⟨hI1,t1,s1.trans b3,s2.trans b4,fun x hx=>?_⟩;rw[hdoc1 x hx,b5 x hx];have hz':(A.get y).Xg=0:=by{rw[←hcy];exact hz};by_cases e1:x=y;·{rw[if_pos e1,if_pos ⟨y,by simp,.inl e1⟩]};·rw[if_neg e1];refine if_congr ⟨?_,?_⟩ rfl rfl;·{rintro⟨z,hz1,hz2⟩;exact⟨z,by simp[hz1],hz2⟩};·rintro⟨z,hz1,hz2⟩;rcases List.mem_append.1 hz1 with q|q;·{exact⟨z,q,hz2⟩};·simp at q;subst q;rcases hz2 with q|q;·{exact absurd q e1};·exact absurd hz' q.1};·rw[if_neg hz];have hin:B1.Xu d≠0:=by{rw[hi1];exact hd0};have he:B1.Xq d=(d,B1):=by{unfold Ar.Xq;rw[if_pos hin,hi1]};rw[he];dsimp only;rw[hcy]at hz⊢;obtain⟨c1,c2,c3⟩:=ZL hI y1 hz;have cw:=t1.Xi hI hI1 _ c1;have hlen:=XcR hI y1 hz;have ck:(B1.get (A.get y).Xg).Xa≠1:=by{have:=ZL hI1 (t1.has y1) (by rw[hcy];exact hz);have hc2:=hI1.cont y (t1.has y1) (by have:=y1.1;omega) (Classical.not_not.1 (fun hn=>(by rw[hcy];exact hz:(B1.get y).Xg≠0) (hI1.YG y (t1.has y1) (.inr hn))));rw[hcy]at hc2;rw[hc2.2.1];decide};have hDC:DC B1 (A.get y).Xg d:=by{intro u hu hud z hzz;rw[cw]at hu;have huA:=walk_has hI c1 hu;rw[t1.Xi hI hI1 u huA]at hzz;have hzc:=XiL hI c1 hu hzz;have hzA:=walk_has hI c1 hzc;have hnu:u≠y:=fun q=>contents_off hI hh hym hz hym (q▸hu);have hnz:z≠y:=fun q=>contents_off hI hh hym hz hym (q▸hzc);rw[hdoc1 u huA,if_neg hnu,b5 u huA]at hud;rw[hdoc1 z hzA,if_neg hnz,b5 z hzA];by_cases q:∃y∈l1,u=y∨((A.get y).Xg≠0∧u∈A.Xi (A.get y).Xg);·{obtain⟨v,v1,v2⟩:=q;have hvm:v=h∨v∈A.below h:=List.mem_cons.1 (by rw[e];simp[v1]);rcases v2 with rfl|⟨v2,v3⟩;·{exact absurd hu (contents_off hI hh hym hz hvm)};·rw[if_pos ⟨v,v1,.inr ⟨v2,XiL hI (ZL hI (hpl v hvm).1 v2).1 v3 hzz⟩⟩]};·rw[if_neg q]at hud;have:=hC u ((walk_parts hI h hh u).2 ⟨y,hym,.inr ⟨hz,hu⟩⟩) hud z hzz;split;·{rfl};·exact this};have r:=adoptF_inert n hI1 (t1.has c1) (by rw[t1.Xd c1];exact c3) ck hd1 hk1 hi1 hDC (by rw[cw];omega);obtain⟨r1,r2⟩:=XaT n hI1 (t1.has c1) hd1 hk1;rw[J1 (by rw[t1.Xd c1];exact c3)]at r2;obtain⟨r3,r4⟩:=Xer n hI1 (t1.has c1) hd1 hk1 hin;refine⟨r1,t1.trans r2,r3.trans (s1.trans b3),r4.trans (s2.trans b4),fun x hx=>?_⟩;rw[r x (t1.has hx),cw,hdoc1 x hx,b5 x hx];by_cases q1:x∈A.Xi (A.get y).Xg;·{rw[if_pos q1,if_pos ⟨y,by simp,.inr ⟨hz,q1⟩⟩]};·rw[if_neg q1];by_cases e1:x=y;·{rw[if_pos e1,if_pos ⟨y,by simp,.inl e1⟩]};·rw[if_neg e1];refine if_congr ⟨?_,?_⟩ rfl rfl;·{rintro⟨z,hz1,hz2⟩;exact⟨z,by simp[hz1],hz2⟩};·rintro⟨z,hz1,hz2⟩;rcases List.mem_append.1 hz1 with q|q;·{exact⟨z,q,hz2⟩};·simp at q;subst q;rcases hz2 with q|q;·{exact absurd q e1};·exact absurd q.2 q1};obtain⟨k1,k2,k3,k4,k5⟩:=key (h::A.below h) [] (by simp);rw[k5 x hx];refine if_congr ?_ rfl rfl;rw[walk_parts hI h hh x];constructor;·{rintro⟨y,hy,q⟩;exact⟨y,List.mem_cons.1 hy,q⟩};·rintro⟨y,hy,q⟩;exact⟨y,List.mem_cons.2 hy,q⟩}
end
section
theorem XfD {A:Ar}{c:Int}:∀(K:List Int)(b e:List Int),c∉K→K.foldl (Zf A c) (false,b,e)=(false,b++K.map (fun x=>(A.get x).Xa),e)
 | [],b,e,_=>by{simp}
 |x::K,b,e,h=>by{rw[List.foldl_cons];have hx:x≠c:=fun q=>h (by simp[q]);have:Zf A c (false,b,e) x=(false,b++ [(A.get x).Xa],e):=by{unfold Zf;rw[if_neg hx,if_neg (by simp)]};rw[this,XfD K _ _ (fun q=>h (by simp[q]))];simp}
theorem XiC {A:Ar}{c:Int}:∀(K:List Int)(b e:List Int),c∉K→K.foldl (Zf A c) (true,b,e)=(true,b,e++K.map (fun x=>(A.get x).Xa))
 | [],b,e,_=>by{simp}
 |x::K,b,e,h=>by{rw[List.foldl_cons];have hx:x≠c:=fun q=>h (by simp[q]);have:Zf A c (true,b,e) x=(true,b,e++ [(A.get x).Xa]):=by{unfold Zf;rw[if_neg hx,if_pos rfl]};rw[this,XiC K _ _ (fun q=>h (by simp[q]))];simp}
theorem XnM (A:Ar)(p n c:Int)(r:Bool):A.Ya p n c r=if¬((A.get p).Xa=1∨(A.get p).Xa=2∨(A.get p).Xa=4)then 4 else if A.contains n p=true then 4 else if c≠0∧(A.get c).Xd≠p then 5 else if(A.get n).Xa=1 then 4 else if((A.get p).Xa=1∧(A.get n).Xa=5)∨((A.get p).Xa≠1∧(A.get n).Xa=3)then 4 else if(A.get p).Xa=1∧A.Xan p n c r then 4 else 0:=rfl
end
section
theorem XnX {A:Ar}(hI:A.Inv){l:List Int}(hl:∀x∈l,A.has x){n:Int}(hn:A.has n):(l.foldl (fun B k=>B.cut k) A).Inv∧(l.foldl (fun B k=>B.cut k) A).ns.length=A.ns.length∧(∀y,A.has y→(l.foldl (fun B k=>B.cut k) A).has y∧((l.foldl (fun B k=>B.cut k) A).get y).Xa=(A.get y).Xa)∧∀y∈(l.foldl (fun B k=>B.cut k) A).Xi n,y∈A.Xi n:=by
 refine Ze (P:=fun B:Ar=>B.Inv∧B.ns.length=A.ns.length∧(∀y,A.has y→B.has y∧(B.get y).Xa=(A.get y).Xa)∧∀y∈B.Xi n,y∈A.Xi n) ⟨hI,rfl,fun y hy=>⟨hy,rfl⟩,fun y hy=>hy⟩ ?_
 rintro B x hx⟨h1,h2,h3,h4⟩
 have hxB:=(h3 x (hl x hx)).1
 have hC:(B.cut x).Inv:=Ar.XC.cut h1 hxB
 refine⟨hC,(Ar.YY B x).trans h2,fun y hy=>⟨(Ar.X5 _ _ _).2 (h3 y hy).1,by rw[Ar.Zc h1 hxB (h3 y hy).1];exact(h3 y hy).2⟩,fun y hy=>h4 y (XiJ h1 hxB n ((Ar.X5 _ _ _).2 (h3 n hn).1) y hy)⟩
end
section
open Go.RowKit
end
section
open Go.RowKit Go.Shelf
attribute [local go_sem] Oper.semAt_some
end
section
open Go.RowKit Go.Shelf
attribute [local go_sem] Oper.semAt_some
end
section
open Go.RowKit
end
section
open Go.RowKit Go.Shelf Classical
end
section
open Go.RowKit Go.Shelf
theorem snoc_ind' {α:Type}{P:List α→Prop}(nil:P [])(snoc:∀l x,P l→P (l++ [x])):∀l,P l:=by
 have key:∀(n:Nat)(l:List α),l.length≤n→P l:=by intro n;induction n with|zero=>{intro l h;have:l= []:=List.eq_nil_of_length_eq_zero (by omega);rw[this];exact nil}|succ n ih=>intro l h;by_cases q:l= [];·{rw[q];exact nil};·rw[←List.dropLast_concat_getLast q];exact snoc _ _ (ih _ (by rw[List.length_dropLast];omega))
 exact fun l=>key _ l (Nat.le_refl _)
theorem empty_kids {A:Ar}(hI:A.Inv){p:Int}(hp:A.has p):((A.empty p).get p).Xc= []:=by
 have key:∀(l1 l2:List Int),(A.get p).Xc=l1++l2→(l1.foldl (fun B k=>B.cut k) A).Inv∧(l1.foldl (fun B k=>B.cut k) A).n=A.n∧((l1.foldl (fun B k=>B.cut k) A).get p).Xc=l2:=by intro l1;induction l1 using snoc_ind' with|nil=>{intro l2 e;exact⟨hI,rfl,e⟩}|snoc l1 x ih=>intro l2 e;rw[List.append_assoc]at e;obtain⟨h1,h2,h3⟩:=ih (x::l2) (by simpa using e);rw[List.foldl_append];simp only[List.foldl_cons,List.foldl_nil];generalize l1.foldl (fun B k=>B.cut k) A=B at*;have hpB:B.has p:=by{unfold Ar.has;rw[h2];exact hp};obtain⟨x1,x2⟩:=h1.wf.Xc p hpB x (by rw[h3];simp);refine⟨Ar.XC.cut h1 x1,(Ar.XaG B x).trans h2,?_⟩;rw[Ar.Xjj h1.wf x1 hpB,if_pos x2.symm,h3];have hnd:=h1.wf.nodup p hpB;rw[h3]at hnd;have hx:=(List.nodup_cons.1 hnd).1;unfold XQ;rw[List.filter_cons_of_neg (by simp),List.filter_eq_self.2];intro y hy;simp;rintro rfl;exact hx hy
 exact(key (A.get p).Xc [] (by simp)).2.2
end
section
open Go.RowKit Go.Shelf
end
section
open Go.RowKit Go.Shelf
end
section
open Go.RowKit Go.Shelf
end
section
open Go.RowKit Go.Shelf
end
section
open Go.RowKit Go.Shelf
end
section
open Go.RowKit Go.Shelf
end
section
open Go.RowKit Go.Shelf
end
section
open Go.RowKit Go.Shelf
end
section
open Go.RowKit
end
section
open Go.RowKit Go.Shelf
end
section
open Go.RowKit Go.Shelf
end
section
open Go.RowKit Go.Shelf
end
section
open Go.RowKit Go.Shelf
end
section
open Go.RowKit Go.Shelf
end
section
open Go.RowKit Go.Shelf
end
section
open Go.RowKit Go.Shelf
end
section
open Go.RowKit Go.Shelf
end
section
open Go.RowKit Go.Shelf
theorem way_mem_has {A:Ar}{up:Int→Int}:∀(path:List Int)(y:Int),A.Way up y path→∀x∈path,A.has x
 | [],_,_,x,hx=>absurd hx (by simp)
 |z::r,y,h,x,hx=>by{by_cases hy:y=0;·{subst hy;have:=Xlv h;cases this};·obtain⟨r',e,h1,h2⟩:=Xlw h hy;injection e with e1 e2;subst e1 e2;rcases List.mem_cons.1 hx with rfl|hx;·{exact h1};·exact way_mem_has r _ h2 x hx}
theorem root_has {A:Ar}(hI:A.Inv){h:Int}(hh:A.has h):A.has (A.root h):=by
 have hw:=hI.wf.wayPlain hh
 unfold Ar.root
 rw[if_pos hh]
 have hz:h≠0:=by have:=hh.1;omega
 obtain⟨r,e,h1,h2⟩:=Xlw hw hz
 rw[e]
 rw[e]at hw
 cases hl:(h::r).getLast? with|none=>{simp at hl}|some x=>have hm:x∈h::r:=by{rw[List.getLast?_eq_some_getLast (by simp)]at hl;injection hl with hl;rw[←hl];exact List.getLast_mem _};exact way_mem_has _ _ hw x hm
end
section
open Go.RowKit Go.Shelf
theorem root_top {A:Ar}(hI:A.Inv){h:Int}(hh:A.has h)(h0:(A.get h).Xd=0):A.root h=h:=by
 have hw:=hI.wf.wayPlain hh
 unfold Ar.root
 rw[if_pos hh]
 obtain⟨r,e,h1,h2⟩:=Xlw hw (by have:=hh.1;omega)
 rw[e]
 have h2':A.Way (Ye A false) 0 r:=by have:Ye A false h=0:=by{simp[Ye,h0]};rw[this]at h2;exact h2
 rw[Xlv h2']
 rfl
theorem root_up {A:Ar}(hI:A.Inv){h:Int}(hh:A.has h)(h0:(A.get h).Xd≠0):A.root h=A.root (A.get h).Xd:=by
 have hp:=(hI.wf.link h hh h0).1
 have hw:=hI.wf.wayPlain hh
 have hwp:=hI.wf.wayPlain hp
 obtain⟨r,e,h1,h2⟩:=Xlw hw (by have:=hh.1;omega)
 have h2':A.Way (Ye A false) (A.get h).Xd r:=by have:Ye A false h=(A.get h).Xd:=by{simp[Ye]};rw[this]at h2;exact h2
 have er:=XaH h2' hwp
 have hne:A.YR false (A.get h).Xd≠ []:=by intro q;rw[q]at hwp;exact h0 hwp
 unfold Ar.root
 rw[if_pos hh,if_pos hp,e,er,List.getLast?_cons_of_ne_nil hne]
theorem below_kid {A:Ar}(hI:A.Inv):∀r,A.has r→∀p k,(p=r∨p∈A.below r)→k∈(A.get p).Xc→k∈A.below r:=by
 refine Jc hI (fun r hr _ ih p k hp hk=>?_)
 rw[ZD hI hr]
 rcases hp with rfl|hp
 ·exact List.mem_flatMap.2 ⟨k,hk,by simp⟩
 ·rw[ZD hI hr]at hp;obtain⟨j,hj,hp⟩:=List.mem_flatMap.1 hp;exact List.mem_flatMap.2 ⟨j,hj,List.mem_cons.2 (.inr (ih j hj p k (List.mem_cons.1 hp) hk))⟩
theorem tree_mem' {A:Ar}(hI:A.Inv):∀(path:List Int)(h:Int),A.Way (Ye A false) h path→A.has h→h=A.root h∨h∈A.below (A.root h)
 | [],h,hw,hh=>by{have:h=0:=hw;exact absurd this (by have:=hh.1;omega)}
 |x::r,h,hw,hh=>by{obtain⟨rfl,-,hr⟩:=hw;by_cases h0:(A.get x).Xd=0;·{exact .inl (root_top hI hh h0).symm};·obtain⟨l1,l2,-⟩:=hI.wf.link x hh h0;have hu:Ye A false x=(A.get x).Xd:=by{simp[Ye]};rw[hu]at hr;rw[root_up hI hh h0];exact .inr (below_kid hI _ (root_has hI l1) _ x (tree_mem' hI r _ hr l1) l2)}
end
end Go.Proofs.YtpicinjcmjaogaaGreatDoor
