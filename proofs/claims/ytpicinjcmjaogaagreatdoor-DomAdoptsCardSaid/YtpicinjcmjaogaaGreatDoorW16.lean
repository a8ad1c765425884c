import Derived.Test.YtpicinjcmjaogaaGreatDoorW13
import Derived.Test.YtpicinjcmjaogaaGreatDoorW15
set_option maxRecDepth 100000
set_option maxHeartbeats 4000000
set_option linter.unusedVariables false
namespace Go.Proofs.YtpicinjcmjaogaaGreatDoor
section
theorem Xfo {a b:Int→Nat}:∀{l1 l2:List Int},l1.length=l2.length→(∀(i:Nat)(x y:Int),l1[i]?=some x→l2[i]?=some y→a x=b y)→l1.map a=l2.map b
 | [],[],_,_=>rfl
 |x::l1,y::l2,hl,h=>by{rw[List.map_cons,List.map_cons,h 0 x y rfl rfl,Xfo (l1:=l1) (l2:=l2) (by simpa using hl) (fun i x y h1 h2=>h (i+1) x y (by simpa using h1) (by simpa using h2))]}
theorem Xfp {f:Int→Nat}{p:Int→Bool}:∀{l:List Int},(l.map f).sum=((l.filter p).map f).sum+((l.filter (fun x=> !p x)).map f).sum
 | []=>rfl
 |x::l=>by{have:=Xfp (f:=f) (p:=p) (l:=l);cases hp:p x<;>simp[hp]<;>omega}
theorem XhQ {f:Int→Nat}:∀{l:List Int},(∀x∈l,f x=0)→(l.map f).sum=0
 | [],_=>rfl
 |x::l,h=>by{rw[List.map_cons,List.sum_cons,h x (by simp),XhQ (fun y hy=>h y (by simp[hy]))]}
/-- A sum over the nodes. -/
def tot (F : Ar → Int → Nat) (A : Ar) : Nat := (A.hs.map (F A)).sum
theorem Xfq {F:Ar→Int→Nat}(hF:∀{C B:Ar}{x y:Int},ZJ C B x y→F C x=F B y){C B:Ar}(hC:C.Inv)(hB:B.Inv):∀h,C.has h→∀k,ZJ C B h k→((C.Xi h).map (F C)).sum=((B.Xi k).map (F B)).sum:=by
 refine Jc hC (fun h hh hc hk k q=>?_)
 have h0:=hF q
 obtain⟨q1,q2,q3,q4,q5,q6,q7⟩:=q.inv
 rw[Ym hC hh,Ym hB q2]
 simp only[List.map_cons,List.sum_cons,List.map_append,List.sum_append,Xdg]
 rw[h0]
 have e2:(C.get h).Xc.map (fun x=>((C.Xi x).map (F C)).sum)=(B.get k).Xc.map (fun x=>((B.Xi x).map (F B)).sum):=Xfo q4 (fun i x y hx hy=>hk x (List.mem_of_getElem? hx) y (q7 i x y hx hy))
 rw[e2]
 by_cases hz:(C.get h).Xg=0
 ·rw[if_neg (fun e=>e hz),if_neg (fun e=>e (q5.1 hz))];simp
 ·rw[if_pos hz,if_pos (fun e=>hz (q5.2 e)),hc hz _ (q6 hz)]
theorem Xbx {F:Ar→Int→Nat}{A B:Ar}{W:List Int}(hold:∀x,A.has x→F B x=F A x)(hnew:∀x,B.has x→¬A.has x→x∈W∨F B x=0):tot F B≤tot F A+(W.map (F B)).sum:=by
 have e1:=Xfp (f:=F B) (p:=fun x=>decide (A.has x)) (l:=B.hs)
 have e2:=Xfp (f:=F B) (p:=fun x=>decide (x∈W)) (l:=B.hs.filter (fun x=> !decide (A.has x)))
 have h1:((B.hs.filter (fun x=>decide (A.has x))).map (F B)).sum≤(A.hs.map (F B)).sum:=Xax ((Xdf B).filter _) (fun x hx=>by have:=(List.mem_filter.1 hx).2;exact ZW.2 (of_decide_eq_true this))
 have h2:(A.hs.map (F B)).sum=tot F A:=congrArg List.sum (List.map_congr_left (fun x hx=>hold x (ZW.1 hx)))
 have h3:(((B.hs.filter (fun x=> !decide (A.has x))).filter (fun x=>decide (x∈W))).map (F B)).sum≤(W.map (F B)).sum:=Xax (((Xdf B).filter _).filter _) (fun x hx=>of_decide_eq_true (List.mem_filter.1 hx).2)
 have h4:(((B.hs.filter (fun x=> !decide (A.has x))).filter (fun x=> !decide (x∈W))).map (F B)).sum=0:=XhQ (fun x hx=>by obtain⟨g1,g2⟩:=List.mem_filter.1 hx;obtain⟨g3,g4⟩:=List.mem_filter.1 g1;rcases hnew x (ZW.1 g3) (by simpa using g4)with g|g;·{simp[g]at g2};·exact g)
 unfold tot at h2⊢
 omega
/-- What counts of a node: its text; its text and what joining at it would add. -/
def fT (A : Ar) (x : Int) : Nat := tx (A.get x)
def fG (A : Ar) (x : Int) : Nat := tx (A.get x) + gainL A false (A.get x).Xc
theorem Xdq {n m:Nd}(h:Y1 n m):tx n=tx m:=by
 unfold tx
 rw[h.1,h.2.2.2.2.1]
theorem XhR {C B:Ar}:∀{l1 l2:List Int}(b:Bool),l1.length=l2.length→(∀(i:Nat)(x y:Int),l1[i]?=some x→l2[i]?=some y→Y1 (C.get x) (B.get y))→gainL C b l1=gainL B b l2
 | [],[],_,_,_=>rfl
 |x::l1,y::l2,b,hl,h=>by{have h0:=h 0 x y rfl rfl;have ih:=fun b=>XhR (C:=C) (B:=B) (l1:=l1) (l2:=l2) b (by simpa using hl) (fun i x y h1 h2=>h (i+1) x y (by simpa using h1) (by simpa using h2));unfold gainL;rw[h0.1,h0.2.2.2.2.1,ih,ih,ih]}
theorem Xmj {C B:Ar}{x y:Int}(q:ZJ C B x y):fT C x=fT B y:=Xdq q.inv.2.2.1
theorem Xmk {C B:Ar}{x y:Int}(q:ZJ C B x y):fG C x=fG B y:=by
 obtain⟨q1,q2,q3,q4,q5,q6,q7⟩:=q.inv
 unfold fG
 rw[Xdq q3,XhR false q4 (fun i x y hx hy=>(q7 i x y hx hy).inv.2.2.1)]
theorem Xby (A:Ar):tot fT A=A.Xk:=(Xce A).symm
theorem Xcj (A:Ar):tot fG A=A.Xk+A.X9:=by
 rw[Xce]
 unfold tot fG Ar.X9
 generalize A.hs=l
 induction l with|nil=>{rfl}|cons x l ih=>simp only[List.map_cons,List.sum_cons]at ih⊢;omega
theorem Xfr {B:Ar}{x:Int}(h:Blank (B.get x)):fT B x=0:=by
 unfold fT tx
 rw[if_neg (by rw[h.2.2];decide)]
theorem XhS {B:Ar}{x:Int}(h:Blank (B.get x)):fG B x=0:=by
 unfold fG
 rw[h.1]
 have:=Xfr h
 unfold fT at this
 rw[this]
 rfl
theorem XhT {A B:Ar}(hA:A.Inv)(hold:∀x,A.has x→B.has x∧B.get x=A.get x):∀x,A.has x→fG B x=fG A x:=fun x hx=>by{unfold fG;rw[(hold x hx).2];congr 1;exact Xa1 false (fun k hk=>by rw[(hold k (XF hA hx hk).1).2];exact⟨rfl,rfl⟩)}
theorem Xdr {F:Ar→Int→Nat}{C:Ar}(hC:C.Inv){h:Int}(hh:C.has h):((C.Xi h).map (F C)).sum≤tot F C:=Xax (Xeq hC h hh) (fun x hx=>ZW.2 ((Jr hC h hh x).1 hx).1)
theorem Xa0.Xk {C A B:Ar}{h d c:Int}(q:Xa0 C A B h d c)(hA:A.Inv)(hC:C.Inv):B.Xk≤A.Xk+C.Xk∧B.Xk+B.X9≤(A.Xk+A.X9)+(C.Xk+C.X9):=by
 have hh:=q.alk.inv.1
 constructor
 ·rw[←Xby,←Xby,←Xby];refine Nat.le_trans (Xbx (A:=A) (W:=B.Xi c) (fun x hx=>by unfold fT;rw[(q.old x hx).2]) (fun x h1 h2=>(q.new x h1 h2).imp id Xfr)) ?_;rw[←Xfq Xmj hC q.inv h hh c q.alk];exact Nat.add_le_add_left (Xdr hC hh) _
 ·rw[←Xcj,←Xcj,←Xcj];refine Nat.le_trans (Xbx (A:=A) (W:=B.Xi c) (XhT hA q.old) (fun x h1 h2=>(q.new x h1 h2).imp id XhS)) ?_;rw[←Xfq Xmk hC q.inv h hh c q.alk];exact Nat.add_le_add_left (Xdr hC hh) _
theorem XhU {C A:Ar}(hC:C.Inv)(hA:A.Inv){h d:Int}{m:Nat}(hh:C.has h)(h1:(C.get h).Xa=1)(hw:(C.Xi h).length≤m):Xa0 C A (dupF C true m A d h).2 h (((dupF C true m A d h).2.get (A.n+1)).doc) (dupF C true m A d h).1:=by
 cases m with|zero=>{have:=YL hC hh;omega}|succ m=>have hnt:¬XN (C.get h):=fun q=>by{have:=q.1;omega};have hc:(C.get h).Xg=0:=hC.YG h hh (.inr hnt);have hal:A.Xj d (C.get h)=(A.n+1,A.Xn (C.get h).XI):=by{unfold Ar.Xj;rw[if_pos h1]};have hmid:XH C true m (A.n+1,A.Xn (C.get h).XI) d h=A.Xn (C.get h).XI:=by{unfold XH;rw[if_neg (fun q=>q.2.2 hc)]};have hI:(A.Xn (C.get h).XI).Inv:=Ar.XC.Xn hA _;have hwe:=Ym hC hh;rw[if_neg (fun q=>q hc)]at hwe;have hwl:(C.Xi h).length=1+((C.get h).Xc.flatMap C.Xi).length:=by{rw[hwe];simp;omega};rw[Y8,if_pos h1,hal];dsimp only;rw[hmid,if_pos rfl];have hnew:(A.Xn (C.get h).XI).has (A.n+1):=(Ar.XO _ _ _).2 (.inr rfl);have hg:(A.Xn (C.get h).XI).get (A.n+1)={XL with Xa:=1,XI:=(C.get h).XI,doc:=A.n+1}:=by{rw[Ar.Xn,Ar.YS]};have hnk:((A.Xn (C.get h).XI).get (A.n+1)).Xa=1:=by{rw[hg]};have hold0:∀x,A.has x→(A.Xn (C.get h).XI).has x∧(A.Xn (C.get h).XI).get x=A.get x:=fun x hx=>⟨(Ar.XO _ _ _).2 (.inl hx),Ar.Zb _ hx⟩;obtain⟨K2,R⟩:=Xbv (C:=C) hC (rec:=fun B k=>dupF C true m B (A.n+1) k) (d:=A.n+1) (c:=A.n+1) (C.get h).Xc (B:=A.Xn (C.get h).XI) (fun B k hkk hB hBd hBk=>by obtain⟨q1,q2,q3⟩:=XF hC hh hkk;have hkw:(C.Xi k).length≤((C.get h).Xc.flatMap C.Xi).length:=by{obtain⟨s,t,e⟩:=List.append_of_mem hkk;rw[e];simp;omega};exact Xaw hC m hB hBd hBk q1 (hC.par k q1 (by rw[q3];have:=hh.1;omega)).1 (by omega)) (fun k hkk=>by obtain⟨q1,q2,q3⟩:=XF hC hh hkk;exact hC.par k q1 (by rw[q3];have:=hh.1;omega)) hI hnew hnk hnew (fun _=> .inl hnk);generalize hB:(C.get h).Xc.foldl (XP (fun B k=>dupF C true m B (A.n+1) k) (A.n+1)) (A.Xn (C.get h).XI)=B' at*;have o1:=R.old (A.n+1) hnew;rw[if_pos rfl,hg]at o1;have hk1:(B'.get (A.n+1)).Xc=K2:=by{rw[o1.2];rfl};have hc1:(B'.get (A.n+1)).Xg=0:=by{rw[o1.2];rfl};have hl:=hC.loc h hh;have hwB:=Ym R.more.inv o1.1;rw[hk1,hc1,if_neg (fun q=>q rfl),List.nil_append]at hwB;have hnn:(A.Xn (C.get h).XI).n=A.n+1:=by{unfold Ar.Xn Ar.add Ar.n;simp};have hgo:∀x,A.has x→B'.has x∧B'.get x=A.get x:=fun x hx=>by{have r:=R.old x (hold0 x hx).1;refine⟨r.1,?_⟩;rw[r.2,if_neg (by have:=hx.2;omega),(hold0 x hx).2]};refine⟨R.more.inv,(XeI hA hI).trans R.more,hgo,rfl,o1.1,by rw[o1.2];rfl,by rw[o1.2];rfl,rfl,?_,fun x h1 h2=>?_,?_,fun x hx=>?_⟩;·{refine ZJ.mk hh o1.1 ?_ (by rw[hk1,R.len]) (by rw[hc,hc1]) (fun q=>absurd hc q) (fun i x y hx hy=>R.alk i x y hx (by rw[←hk1];exact hy));rw[o1.2];exact⟨h1,(hl.el (by omega)).1,hl.nm (by omega) (by omega),(hl.el (by omega)).2,hl.da (by omega) (by omega),(hl.ps (by omega)).1,(hl.ps (by omega)).2,rfl⟩};·{rw[hwB];by_cases q:(A.Xn (C.get h).XI).has x;·{rcases(Ar.XO _ _ _).1 q with q|q;·{exact absurd q h2};·left;simp[q]};·rcases R.new x h1 q with⟨y,hy,hx⟩|q;·{left;exact List.mem_cons.2 (.inr (List.mem_flatMap.2 ⟨y,hy,hx⟩))};·exact .inr q};·{rw[hwB];refine List.pairwise_cons.2 ⟨fun x hx=>?_,R.inc⟩;have:=R.ge x hx;omega};·rw[hwB]at hx;rcases List.mem_cons.1 hx with rfl|hx;·{omega};·have:=R.ge x hx;omega
theorem Xml {B:Ar}{x:Int}(h:(B.get x).Xc= []):fG B x=tx (B.get x):=by
 unfold fG
 rw[h]
 rfl
theorem Xmm {C A:Ar}(hC:C.Inv)(hA:A.Inv){h d:Int}{m:Nat}(hd:A.has d)(hk:(A.get d).Xa=1)(hh:C.has h)(hw:(C.Xi h).length≤m):(dupF C false m A d h).2.Xk≤A.Xk+C.Xk∧(dupF C false m A d h).2.Xk+(dupF C false m A d h).2.X9≤(A.Xk+A.X9)+(C.Xk+C.X9):=by
 cases m with|zero=>{have:=YL hC hh;omega}|succ m=>have hmid:XH C false m (A.Xj d (C.get h)) d h=(A.Xj d (C.get h)).2:=by{unfold XH;rw[if_neg (fun q=>by simp at q)]};rw[Y8,hmid,if_neg (by decide)];dsimp only;have hle:fT C h≤C.Xk:=by{have:=Xdr (F:=fT) hC hh;rw[Ym hC hh,Xby]at this;simp only[List.map_cons,List.sum_cons]at this;omega};have key:∀(B:Ar)(W:List Int),(∀x,A.has x→B.has x∧B.get x=A.get x)→(∀x,B.has x→¬A.has x→x∈W∨Blank (B.get x))→(W.map (fT B)).sum≤C.Xk→(∀x∈W,(B.get x).Xc= [])→B.Xk≤A.Xk+C.Xk∧B.Xk+B.X9≤(A.Xk+A.X9)+(C.Xk+C.X9):=fun B W k1 k2 k3 k4=>by{have e:(W.map (fG B)).sum=(W.map (fT B)).sum:=congrArg List.sum (List.map_congr_left (fun x hx=>Xml (k4 x hx)));have a1:=Xbx (F:=fT) (A:=A) (B:=B) (W:=W) (fun x hx=>by unfold fT;rw[(k1 x hx).2]) (fun x h1 h2=>(k2 x h1 h2).imp id Xfr);have a2:=Xbx (F:=fG) (A:=A) (B:=B) (W:=W) (XhT hA k1) (fun x h1 h2=>(k2 x h1 h2).imp id XhS);rw[Xby,Xby]at a1;rw[Xcj,Xcj]at a2;omega};by_cases h1:(C.get h).Xa=1;·{have hal:A.Xj d (C.get h)=(A.n+1,A.Xn (C.get h).XI):=by{unfold Ar.Xj;rw[if_pos h1]};rw[hal];have hg:(A.Xn (C.get h).XI).get (A.n+1)={XL with Xa:=1,XI:=(C.get h).XI,doc:=A.n+1}:=by{rw[Ar.Xn,Ar.YS]};refine key _ [] (fun x hx=>⟨(Ar.XO _ _ _).2 (.inl hx),Ar.Zb _ hx⟩) (fun x g1 g2=>?_) (Nat.zero_le _) (by simp);rcases(Ar.XO _ _ _).1 g1 with q|q;·{exact absurd q g2};·right;rw[q,hg];exact⟨rfl,rfl,rfl⟩};·obtain⟨n1,n2,n3⟩:=Xbu hA hC hd hk hh h1;generalize(A.Xj d (C.get h)).2=B at*;have e1:fT B (A.n+1)=fT C h:=(Xdq n2.Xcc).symm;rcases n3 with⟨z1,z2,z3⟩|⟨z1,cc,z2,z3,z4,z5,z6,z7,z8,z9⟩;·{refine key B [A.n+1] n2.old (fun x g1 g2=>(z3 x g1 g2).imp (fun q=>by simp[q]) id) ?_ (fun x hx=>?_);·{simp[e1];exact hle};·simp at hx;rw[hx];exact n2.Xc};·refine key B [A.n+1,cc] n2.old (fun x g1 g2=>?_) ?_ (fun x hx=>?_);·{rcases z9 x g1 g2 with q|q|q;·{left;simp[q]};·{left;simp[q]};·exact .inr q};·{have e2:fT B cc=0:=by{unfold fT tx;rw[if_neg (by rw[z8];decide)]};simp[e1,e2];exact hle};·simp at hx;rcases hx with q|q;·{rw[q];exact n2.Xc};·rw[q];exact z6
theorem XhV {C A:Ar}(hC:C.Inv)(hA:A.Inv){h d:Int}{m:Nat}{deep:Bool}(hd:A.has d)(hk:(A.get d).Xa=1)(hh:C.has h)(hw:(C.Xi h).length≤m):(dupF C deep m A d h).2.Xk≤A.Xk+C.Xk∧(dupF C deep m A d h).2.Xk+(dupF C deep m A d h).2.X9≤(A.Xk+A.X9)+(C.Xk+C.X9):=by
 cases deep with|false=>{exact Xmm hC hA hd hk hh hw}|true=>by_cases h1:(C.get h).Xa=1;·{exact(XhU (d:=d) hC hA hh h1 hw).Xk hA hC};·exact(Xaw hC m hA hd hk hh h1 hw).Xk hA hC
end
section
theorem Xdw (A:Ar)(p n c:Int):(A.XX p n c).2.Xk≤A.Xk:=by
 unfold Ar.XX
 split
 ·exact Nat.le_refl _
 ·exact Xfg _ _ _ _
theorem Xic (A:Ar)(p n c:Int):(A.YU p n c).2.Xk≤A.Xk:=by
 unfold Ar.YU
 repeat' split
 all_goals first|(exact Nat.le_refl _)|exact Nat.le_trans (Xfg _ _ _ _) (J9 _ _)
theorem Xid (A:Ar)(p c:Int):(A.Zo p c).2.Xk≤A.Xk:=by
 unfold Ar.Zo
 repeat' split
 all_goals first|(exact Nat.le_refl _)|exact J9 _ _
theorem Xdx (A:Ar)(h:Int):(A.XR h).2.Xk≤A.Xk:=by
 unfold Ar.XR
 split
 all_goals first|(exact Nat.le_refl _)|exact J9 _ _
theorem Xie (A:Ar)(p n:Int):(A.Yq p n).2.Xk≤A.Xk:=by
 unfold Ar.Yq
 split
 ·split;·{exact Nat.le_refl _};·split;·{exact Nat.le_refl _};·dsimp only;split;·{exact Nat.le_trans (Xfg _ _ _ _) (Xdl _ _)};·exact Xdl _ _
 ·exact Nat.le_refl _
theorem Xif (A:Ar)(n d:Int):(A.YV n d).2.Xk≤A.Xk:=by
 unfold Ar.YV
 repeat' split
 all_goals first|(exact Nat.le_refl _)|exact Xff _ _ _ _
theorem Xig (A:Ar)(d:Int)(name:ByteArray):(A.Y0 d name).2.Xk≤A.Xk:=by
 unfold Ar.Y0
 repeat' split
 all_goals first|(exact Nat.le_refl _)|exact Xfd _ _ _ _ _
theorem Xih (A:Ar)(el s:Int)(name val:ByteArray):(A.YO el s name val).2.Xk≤A.Xk:=by
 unfold Ar.YO
 repeat' split
 all_goals first|(exact Nat.le_refl _)|exact Xdk _ _ _
theorem Xii (A:Ar)(el s:Int)(name:ByteArray):(A.Yy el s name).2.Xk≤A.Xk:=by
 unfold Ar.Yy
 repeat' split
 all_goals first|(exact Nat.le_refl _)|exact Xdk _ _ _
theorem Xm5 (A:Ar)(h:Int)(s:ByteArray):(A.YE h s).2.Xk≤A.Xk+s.size:=by
 unfold Ar.YE
 split
 ·exact Nat.le_add_right _ _
 ·split;·{exact XhE _ _ _};·split;·{split;·{exact Nat.le_trans (Xdl _ _) (Nat.le_add_right _ _)};·dsimp only;refine Nat.le_trans (Xcf _ _ _ _) (Nat.le_trans (Xaa _ _ _) ?_);have h1:=Xdl A h;have h2:tx (Xs s)=s.size:=rfl;omega};·exact Nat.le_add_right _ _
theorem Xm6 (s:ByteArray)(n:Nat):(⟨(s.toList.take n).toArray⟩:ByteArray).size+(⟨(s.toList.drop n).toArray⟩:ByteArray).size=s.size:=by
 show(s.toList.take n).toArray.size+(s.toList.drop n).toArray.size=_
 rw[List.size_toArray,List.size_toArray,←List.length_append,List.take_append_drop,Go.ByteArray.toList_eq]
 rfl
theorem Xij {A:Ar}(h at':Int):(A.split h at').2.Xk≤A.Xk:=by
 unfold Ar.split
 split
 ·exact Nat.le_refl _
 ·rename_i hh;have hh:=Classical.not_not.1 hh;split;·{exact Nat.le_refl _};·rename_i hk;have hk:=Classical.not_not.1 hk;split;·{exact Nat.le_refl _};·dsimp only;have m1:=Xaa A (A.get h).doc (Xs ⟨((A.get h).data.toList.drop at'.toNat).toArray⟩);have e0:tx (Xs ⟨((A.get h).data.toList.drop at'.toNat).toArray⟩)=(⟨((A.get h).data.toList.drop at'.toNat).toArray⟩:ByteArray).size:=rfl;rw[e0]at m1;have e1:=Xm6 (A.get h).data at'.toNat;have hold:(A.make (A.get h).doc (Xs ⟨((A.get h).data.toList.drop at'.toNat).toArray⟩)).2.has h∧(A.make (A.get h).doc (Xs ⟨((A.get h).data.toList.drop at'.toNat).toArray⟩)).2.get h=A.get h:=by{unfold Ar.make;split;·{exact⟨hh,rfl⟩};·exact⟨(Ar.XO _ _ _).2 (.inl hh),Ar.Zb _ hh⟩};have m2:=Xfe (A:=(A.make (A.get h).doc (Xs ⟨((A.get h).data.toList.drop at'.toNat).toArray⟩)).2) (x:=h) ⟨((A.get h).data.toList.take at'.toNat).toArray⟩ hold.1 (by rw[hold.2];exact hk);rw[hold.2]at m2;split;·{refine Nat.le_trans (Xcf _ _ _ _) ?_;omega};·omega
theorem Xm7 {A:Ar}{x:OpD}(hx:ZC x):(A.step x).2.Xk≤A.Xk+400:=by
 obtain⟨s1,s2,s3,-⟩:=hx
 have triv:A.Xk≤A.Xk+400:=Nat.le_add_right _ _
 refine XbS (P:=fun r=>r.2.Xk≤A.Xk+400) ?_ ?_ ?_ ?_ ?_ ?_ ?_ ?_ ?_ ?_ ?_ ?_ ?_ ?_<;>intro _
 ·exact Nat.le_trans (Xfb _ _) triv
 ·exact Nat.le_trans (Xaa _ _ _) triv
 ·exact Nat.le_trans (Xfd _ _ _ _ _) triv
 ·refine Nat.le_trans (Xaa _ _ _) ?_;have:tx (Xs x.s)=x.s.size:=rfl;omega
 ·exact Nat.le_trans (Xaa _ _ _) triv
 ·exact Nat.le_trans (Xaa _ _ _) triv
 ·exact Nat.le_trans (XhD _ _) triv
 ·exact Nat.le_trans (Xcf _ _ _ _) triv
 ·exact Nat.le_trans (Xdx _ _) triv
 ·exact Nat.le_trans (XhE _ _ _) (by omega)
 ·exact Nat.le_trans (Xdk _ _ _) triv
 ·exact Nat.le_trans (XhG _ _ _) triv
 ·exact Nat.le_trans (Xdj _ _ _) triv
 ·exact triv
theorem Xa3 (x:Int):¬Ar.new.has x:=fun h=>by{have:=h.1;have:=h.2;unfold Ar.n Ar.new at*;simp at*;omega}
theorem Xm8 (x:OpD):(Ar.new.step x).2.Xk≤0:=by
 have hd:∀d,Ar.new.XA d≠0:=fun d=>by unfold Ar.XA;rw[if_pos (Xa3 d)];decide
 refine XbS (P:=fun r=>r.2.Xk≤0) ?_ ?_ ?_ ?_ ?_ ?_ ?_ ?_ ?_ ?_ ?_ ?_ ?_ ?_<;>intro _
 ·exact Xfb _ _
 ·exact Xaa _ _ _
 ·exact Xfd _ _ _ _ _
 ·unfold Ar.make;rw[if_pos (hd _)];exact Nat.le_refl _
 ·exact Xaa _ _ _
 ·exact Xaa _ _ _
 ·exact XhD _ _
 ·exact Xcf _ _ _ _
 ·exact Xdx _ _
 ·unfold Ar.XG;rw[if_pos (Xa3 _)];exact Nat.le_refl _
 ·exact Xdk _ _ _
 ·exact XhG _ _ _
 ·exact Xdj _ _ _
 ·exact Nat.le_refl _
theorem Xm9 {A:Ar}(hI:A.Inv){x:OpD}(hx:ZC x):(x.Xa=34→(A.Xo x).2.Xk+(A.Xo x).2.X9≤A.Xk+A.X9)∧(x.Xa=31∨x.Xa=32→(A.Xo x).2.Xk≤2*A.Xk∧(A.Xo x).2.Xk+(A.Xo x).2.X9≤2*(A.Xk+A.X9))∧(x.Xa≠34→¬(x.Xa=31∨x.Xa=32)→(A.Xo x).2.Xk≤A.Xk+400):=by
 have s2:=hx.2.1
 have other:∀{B:Ar},x.Xa≠34→¬(x.Xa=31∨x.Xa=32)→B.Xk≤A.Xk+400→(x.Xa=34→B.Xk+B.X9≤A.Xk+A.X9)∧(x.Xa=31∨x.Xa=32→B.Xk≤2*A.Xk∧B.Xk+B.X9≤2*(A.Xk+A.X9))∧(x.Xa≠34→¬(x.Xa=31∨x.Xa=32)→B.Xk≤A.Xk+400):=fun h1 h2 h3=>⟨fun h=>absurd h h1,fun h=>absurd h h2,fun _ _=>h3⟩
 have copy:∀{B:Ar},x.Xa=31∨x.Xa=32→(B.Xk≤A.Xk+A.Xk∧B.Xk+B.X9≤(A.Xk+A.X9)+(A.Xk+A.X9))→(x.Xa=34→B.Xk+B.X9≤A.Xk+A.X9)∧(x.Xa=31∨x.Xa=32→B.Xk≤2*A.Xk∧B.Xk+B.X9≤2*(A.Xk+A.X9))∧(x.Xa≠34→¬(x.Xa=31∨x.Xa=32)→B.Xk≤A.Xk+400):=fun h1 h2=>⟨fun h=>by omega,fun _=>by omega,fun _ h=>absurd h1 h⟩
 have triv:∀{n:Nat},n≤A.Xk→n≤A.Xk+400:=fun h=>Nat.le_trans h (Nat.le_add_right _ _)
 refine XcX (P:=fun r=>(x.Xa=34→r.2.Xk+r.2.X9≤A.Xk+A.X9)∧(x.Xa=31∨x.Xa=32→r.2.Xk≤2*A.Xk∧r.2.Xk+r.2.X9≤2*(A.Xk+A.X9))∧(x.Xa≠34→¬(x.Xa=31∨x.Xa=32)→r.2.Xk≤A.Xk+400)) ?_ ?_ ?_ ?_ ?_ ?_ ?_ ?_ ?_ ?_ ?_ ?_ ?_ ?_ ?_ ?_<;>intro e
 ·exact other (by omega) (by omega) (triv (Xdw _ _ _ _))
 ·exact other (by omega) (by omega) (triv (Xdw _ _ _ _))
 ·exact other (by omega) (by omega) (triv (Xic _ _ _ _))
 ·exact other (by omega) (by omega) (triv (Xid _ _ _))
 ·exact other (by omega) (by omega) (triv (Xdx _ _))
 ·exact other (by omega) (by omega) (triv (Xie _ _ _))
 ·exact other (by omega) (by omega) (triv (Xif _ _ _))
 ·exact other (by omega) (by omega) (triv (Xig _ _ _))
 ·exact other (by omega) (by omega) (triv (Xih _ _ _ _ _))
 ·exact other (by omega) (by omega) (triv (Xii _ _ _ _))
 ·refine copy (.inl e) ?_;unfold Ar.Zx;split;·{rename_i hh;obtain⟨d1,d2⟩:=hI.ZV x.a hh;exact XhV hI hI d1 d2 hh (Z3 hI x.a)};·exact⟨Nat.le_add_right _ _,Nat.le_add_right _ _⟩
 ·refine copy (.inr e) ?_;unfold Ar.Zp;split;·{rename_i hh;split;·{exact⟨Nat.le_add_right _ _,Nat.le_add_right _ _⟩};·rename_i hk;exact XhV hI hI hh.1 (Classical.not_not.1 (fun z=>hk (.inl z))) hh.2 (Z3 hI x.b)};·exact⟨Nat.le_add_right _ _,Nat.le_add_right _ _⟩
 ·exact other (by omega) (by omega) (Nat.le_trans (Xm5 _ _ _) (by omega))
 ·exact⟨fun _=>(Xfj hI x.a).2.2.2,fun h=>by omega,fun h=>absurd e h⟩
 ·exact other (by omega) (by omega) (triv (Xij _ _))
 ·exact other (by omega) (by omega) (Xm7 hx)
theorem Xna {x:OpD}(hx:ZC x):(Ar.new.Xo x).2.Xk=0:=by
 have z:∀{n:Nat},n≤Ar.new.Xk→n=0:=fun h=>Nat.le_zero.1 h
 refine XcX (P:=fun r=>r.2.Xk=0) ?_ ?_ ?_ ?_ ?_ ?_ ?_ ?_ ?_ ?_ ?_ ?_ ?_ ?_ ?_ ?_<;>intro e
 ·exact z (Xdw _ _ _ _)
 ·exact z (Xdw _ _ _ _)
 ·exact z (Xic _ _ _ _)
 ·exact z (Xid _ _ _)
 ·exact z (Xdx _ _)
 ·exact z (Xie _ _ _)
 ·exact z (Xif _ _ _)
 ·exact z (Xig _ _ _)
 ·exact z (Xih _ _ _ _ _)
 ·exact z (Xii _ _ _ _)
 ·unfold Ar.Zx;rw[if_neg (Xa3 _)];rfl
 ·unfold Ar.Zp;rw[if_neg (fun h=>Xa3 _ h.1)];rfl
 ·unfold Ar.YE;rw[if_pos (Xa3 _)];rfl
 ·unfold Ar.normalize;rw[if_neg (Xa3 _)];rfl
 ·exact z (Xij _ _)
 ·exact Nat.le_zero.1 (Xm8 x)
end
end Go.Proofs.YtpicinjcmjaogaaGreatDoor
