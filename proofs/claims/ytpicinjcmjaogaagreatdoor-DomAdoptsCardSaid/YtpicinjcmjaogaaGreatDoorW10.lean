import Derived.Test.YtpicinjcmjaogaaGreatDoorW08
set_option maxRecDepth 100000
set_option maxHeartbeats 4000000
set_option linter.unusedVariables false
namespace Go.Proofs.YtpicinjcmjaogaaGreatDoor
section
def XH (C : Ar) (deep : Bool) (m : Nat) (r : Int × Ar) (d h : Int) : Ar :=
  if (C.get h).Xa = 4 ∧ deep = true ∧ (C.get h).Xg ≠ 0 then
    (C.get (C.get h).Xg).Xc.foldl (XP (fun B k => dupF C true m B (r.2.YA d).1.1 k) (r.2.get r.1).Xg) (r.2.YA d).2
  else r.2
theorem Y8 (C:Ar)(deep:Bool)(m:Nat)(A:Ar)(d h:Int):dupF C deep (m+1) A d h=((A.Xj d (C.get h)).1,if deep=true then(C.get h).Xc.foldl (XP (fun B k=>dupF C true m B (if(C.get h).Xa=1 then(A.Xj d (C.get h)).1 else d) k) (A.Xj d (C.get h)).1) (XH C deep m (A.Xj d (C.get h)) d h)else XH C deep m (A.Xj d (C.get h)) d h):=rfl
theorem J6 {A:Ar}{d:Int}(hd:A.has d)(hk:(A.get d).Xa=1):A.XA d=0:=by
 unfold Ar.XA
 rw[if_neg (fun h=>h hd),if_neg (fun h=>h hk)]
theorem Xb7 {A:Ar}{d:Int}(n:Nd)(he:A.XA d=0):A.make d n=((A.n+1,0),A.add {n with doc:=d}):=by
 unfold Ar.make
 rw[if_neg (fun h=>h he)]
theorem Xb8 {A:Ar}{d:Int}(he:A.XA d=0)(hi:A.Xu d≠0):A.YA d=((A.Xu d,0),A):=by
 unfold Ar.YA
 rw[if_neg (fun h=>h he)]
 unfold Ar.Xq
 rw[if_pos hi]
theorem Xbs {A C:Ar}{d h:Int}(hA:A.Inv)(hC:C.Inv)(hd:A.has d)(hk:(A.get d).Xa=1)(hh:C.has h)(h1:(C.get h).Xa≠1):A.YF (A.Xj d (C.get h)).2∧(A.Xj d (C.get h)).2.cap d≤A.cap d+(if XN (C.get h)then 2 else 1)∧(XN (C.get h)→(A.Xj d (C.get h)).2.Xu d≠0):=by
 have he:=J6 hd hk
 have hl:=hC.loc h hh
 have hinv:=Xkq hA d (n:=C.get h) hl.at3
 have mk:∀n:Nd,(A.make d n).2.Inv→A.YF (A.make d n).2∧(A.make d n).2.cap d≤A.cap d+1:=by intro n hi;rw[Xb7 n he]at hi⊢;exact⟨XeI hA hi,by rw[XeJ hA];exact Nat.le_refl _⟩
 by_cases h4:(C.get h).Xa=4
 ·have e:(A.Xj d (C.get h)).2=(A.element d (C.get h).space (C.get h).name (C.get h).Xb).2:=by{unfold Ar.Xj;rw[if_neg h1,if_neg (by omega),if_neg (by omega),if_pos h4]};rw[e];obtain⟨q1,q2,q3⟩:=Xks hA (s:=(C.get h).space) (name:=(C.get h).name) hl.at3 hd hk;have ht:XN (C.get h)↔((C.get h).space=1∧(C.get h).name.toList=Xa8):=⟨fun q=>q.2,fun q=>⟨h4,q⟩⟩;refine⟨q1,?_,fun q=>q3 ⟨rfl,q.2.1,q.2.2⟩ ⟨hl.sp,hl.at1⟩⟩;by_cases q:XN (C.get h);·{rw[if_pos q];rw[if_pos (ht.1 q)]at q2;exact q2};·rw[if_neg q];rw[if_neg (fun x=>q (ht.2 x))]at q2;exact q2
 ·have ht:¬XN (C.get h):=fun q=>h4 q.1;rw[if_neg ht];have:∃n:Nd,(A.Xj d (C.get h)).2=(A.make d n).2:=by{have k1:=hl.k1;have k6:=hl.k6;unfold Ar.Xj;rw[if_neg h1];by_cases a2:(C.get h).Xa=2;·{rw[if_pos a2];exact⟨_,rfl⟩};rw[if_neg a2];by_cases a3:(C.get h).Xa=3;·{rw[if_pos a3];exact⟨_,rfl⟩};rw[if_neg a3,if_neg h4];by_cases a5:(C.get h).Xa=5;·{rw[if_pos a5];exact⟨_,rfl⟩};rw[if_neg a5,if_pos (by omega)];exact⟨_,rfl⟩};obtain⟨n,e⟩:=this;rw[e]at hinv⊢;exact⟨(mk n hinv).1,(mk n hinv).2,fun q=>absurd q ht⟩
theorem Xat {C:Ar}{rec:Ar→Int→Int×Ar}{d c:Int}:∀(l:List Int){A:Ar},(∀(B:Ar)k,k∈l→B.Inv→B.has d→(B.get d).Xa=1→B.YF (rec B k).2∧(rec B k).2.cap d≤B.cap d+(C.Xi k).length)→A.Inv→A.has d→(A.get d).Xa=1→A.YF (l.foldl (XP rec c) A)∧(l.foldl (XP rec c) A).cap d≤A.cap d+(l.flatMap C.Xi).length
 | [],A,_,hA,_,_=>⟨Ar.YF.refl hA,by simp⟩
 |k::l,A,hrec,hA,hd,hk=>by{obtain⟨m1,c1⟩:=hrec A k (by simp) hA hd hk;have m2:=XeH m1.inv c (rec A k).1 0;have c2:((rec A k).2.put c (rec A k).1 0).2.cap d=(rec A k).2.cap d:=Ar.Js (JO _ _ _ _).1 (JO _ _ _ _).2;have m3:A.YF (XP rec c A k):=m1.trans m2;obtain⟨m4,c4⟩:=Xat (C:=C) (rec:=rec) (d:=d) (c:=c) l (A:=XP rec c A k) (fun B k' hk'=>hrec B k' (by simp[hk'])) m3.inv (m3.has d hd) ((m3.Xa d hd).trans hk);refine⟨m3.trans m4,?_⟩;have e:(XP rec c A k).cap d=(rec A k).2.cap d:=c2;rw[List.foldl_cons,List.flatMap_cons,List.length_append];omega}
theorem Jw {A:Ar}{d:Int}(h:A.Xu d≠0):A.cap d=A.ns.length:=by
 unfold Ar.cap
 rw[if_neg h]
 rfl
theorem Jf {C:Ar}(hC:C.Inv):∀(m:Nat)(deep:Bool){A:Ar}{d h:Int},A.Inv→A.has d→(A.get d).Xa=1→C.has h→(C.get h).Xa≠1→(C.Xi h).length≤m→A.YF (dupF C deep m A d h).2∧(dupF C deep m A d h).2.cap d≤A.cap d+(C.Xi h).length
 |0,deep,A,d,h,hA,hd,hk,hh,h1,hw=>by{have:=YL hC hh;omega}
 |m+1,deep,A,d,h,hA,hd,hk,hh,h1,hw=>by{rw[Y8,if_neg h1];obtain⟨a1,a2,a3⟩:=Xbs hA hC hd hk hh h1;have hwe:=Ym hC hh;have hkid:∀k∈(C.get h).Xc,C.has k∧(C.get k).Xa≠1:=fun k hkk=>by{obtain⟨q1,q2,q3⟩:=XF hC hh hkk;exact⟨q1,(hC.par k q1 (by rw[q3];have:=hh.1;omega)).1⟩};have hkw:∀k∈(C.get h).Xc,(C.Xi k).length≤((C.get h).Xc.flatMap C.Xi).length:=fun k hkk=>by{obtain⟨s,t,e⟩:=List.append_of_mem hkk;rw[e];simp;omega};generalize A.Xj d (C.get h)=r at a1 a2 a3⊢;have hdr:=a1.has d hd;have hkr:=(a1.Xa d hd).trans hk;have hmid:r.2.YF (XH C deep m r d h)∧(XH C deep m r d h).cap d+((C.get h).Xc.flatMap C.Xi).length≤A.cap d+(C.Xi h).length:=by{by_cases hc:(C.get h).Xg=0;·{have e:XH C deep m r d h=r.2:=by{unfold XH;rw[if_neg (fun q=>q.2.2 hc)]};have ht:¬XN (C.get h):=fun q=>by{have:=(hC.cont h hh (by have:=hh.1;omega) q).1.1;omega};rw[if_neg ht]at a2;rw[e,hwe,if_neg (fun q=>q hc)];refine⟨Ar.YF.refl a1.inv,?_⟩;simp only[List.length_cons,List.nil_append];omega};·have ht:XN (C.get h):=Classical.byContradiction fun q=>hc (hC.YG h hh (.inr q));obtain⟨c1,c2,c3⟩:=hC.cont h hh (by have:=hh.1;omega) ht;have hia:=a3 ht;rw[if_pos ht]at a2;have hwc:=Ym hC c1;have hl:(C.Xi h).length=1+(1+((if(C.get (C.get h).Xg).Xg≠0 then C.Xi (C.get (C.get h).Xg).Xg else []).length+((C.get (C.get h).Xg).Xc.flatMap C.Xi).length))+((C.get h).Xc.flatMap C.Xi).length:=by{rw[hwe,if_pos hc,hwc];simp only[List.length_cons,List.length_append];omega};by_cases hdp:deep=true;·{have hic:=Xb8 (J6 hdr hkr) hia;have e:XH C deep m r d h=(C.get (C.get h).Xg).Xc.foldl (XP (fun B k=>dupF C true m B (r.2.Xu d) k) (r.2.get r.1).Xg) r.2:=by{unfold XH;rw[if_pos ⟨ht.1,hdp,hc⟩,hic]};obtain⟨i1,i2,i3,i4⟩:=a1.inv.Xh d hia;have hckid:∀k∈(C.get (C.get h).Xg).Xc,C.has k∧(C.get k).Xa≠1∧(C.Xi k).length≤((C.get (C.get h).Xg).Xc.flatMap C.Xi).length:=fun k hkk=>by{obtain⟨q1,q2,q3⟩:=XF hC c1 hkk;refine⟨q1,(hC.par k q1 (by rw[q3];have:=c1.1;omega)).1,?_⟩;obtain⟨s,t,e⟩:=List.append_of_mem hkk;rw[e];simp;omega};obtain⟨f1,f2⟩:=Xat (C:=C) (rec:=fun B k=>dupF C true m B (r.2.Xu d) k) (d:=r.2.Xu d) (c:=(r.2.get r.1).Xg) (C.get (C.get h).Xg).Xc (A:=r.2) (fun B k hkk hB hBd hBk=>Jf hC m true hB hBd hBk (hckid k hkk).1 (hckid k hkk).2.1 (by have:=(hckid k hkk).2.2;omega)) a1.inv i2 i3;rw[←e]at f1 f2;refine⟨f1,?_⟩;rw[Jw (f1.Xh _ (by rw[i4];exact hia)),Jw (by rw[i4];exact hia)]at f2;rw[Jw (f1.Xh d hia)];rw[Jw hia]at a2;omega};·have e:XH C deep m r d h=r.2:=by{unfold XH;rw[if_neg (fun q=>hdp q.2.1)]};rw[e];exact⟨Ar.YF.refl a1.inv,by omega⟩};obtain⟨m1,m2⟩:=hmid;by_cases hdp:deep=true;·{rw[if_pos hdp];obtain⟨f1,f2⟩:=Xat (C:=C) (rec:=fun B k=>dupF C true m B d k) (d:=d) (c:=r.1) (C.get h).Xc (A:=XH C deep m r d h) (fun B k hkk hB hBd hBk=>Jf hC m true hB hBd hBk (hkid k hkk).1 (hkid k hkk).2 (by have h1:=hkw k hkk;have h2:(C.Xi h).length=1+((if(C.get h).Xg≠0 then C.Xi (C.get h).Xg else []).length+((C.get h).Xc.flatMap C.Xi).length):=by{rw[hwe];simp only[List.length_cons,List.length_append];omega};omega)) m1.inv (m1.has d hdr) ((m1.Xa d hdr).trans hkr);exact⟨(a1.trans m1).trans f1,by dsimp only;omega⟩};·rw[if_neg hdp];exact⟨a1.trans m1,by dsimp only;omega⟩}
theorem Xhh {C:Ar}(hC:C.Inv){m:Nat}{deep:Bool}{A:Ar}{d h:Int}(hA:A.Inv)(hd:A.has d)(hk:(A.get d).Xa=1)(hh:C.has h)(hw:(C.Xi h).length≤m):(dupF C deep m A d h).2.Inv∧(dupF C deep m A d h).2.ns.length≤A.ns.length+(C.Xi h).length+1:=by
 by_cases h1:(C.get h).Xa=1
 ·cases m with|zero=>{have:=YL hC hh;omega}|succ m=>have hnt:¬XN (C.get h):=fun q=>by{have:=q.1;omega};have hc:(C.get h).Xg=0:=hC.YG h hh (.inr hnt);have hal:A.Xj d (C.get h)=(A.n+1,A.Xn (C.get h).XI):=by{unfold Ar.Xj;rw[if_pos h1]};have hmid:XH C deep m (A.n+1,A.Xn (C.get h).XI) d h=A.Xn (C.get h).XI:=by{unfold XH;rw[if_neg (fun q=>q.2.2 hc)]};have hI:(A.Xn (C.get h).XI).Inv:=Ar.XC.Xn hA _;have hl:(A.Xn (C.get h).XI).ns.length=A.ns.length+1:=JY _ _;have hwe:=Ym hC hh;rw[if_neg (fun q=>q hc)]at hwe;have hwl:(C.Xi h).length=1+((C.get h).Xc.flatMap C.Xi).length:=by{rw[hwe];simp;omega};rw[Y8,if_pos h1,hal];dsimp only;rw[hmid];by_cases hdp:deep=true;·{rw[if_pos hdp];have hnew:(A.Xn (C.get h).XI).has (A.n+1):=(Ar.XO _ _ _).2 (.inr rfl);have hnk:((A.Xn (C.get h).XI).get (A.n+1)).Xa=1:=by{rw[Ar.Xn,Ar.YS]};obtain⟨f1,f2⟩:=Xat (C:=C) (rec:=fun B k=>dupF C true m B (A.n+1) k) (d:=A.n+1) (c:=A.n+1) (C.get h).Xc (A:=A.Xn (C.get h).XI) (fun B k hkk hB hBd hBk=>by obtain⟨q1,q2,q3⟩:=XF hC hh hkk;have hkw:(C.Xi k).length≤((C.get h).Xc.flatMap C.Xi).length:=by{obtain⟨s,t,e⟩:=List.append_of_mem hkk;rw[e];simp;omega};exact Jf hC m true hB hBd hBk q1 (hC.par k q1 (by rw[q3];have:=hh.1;omega)).1 (by omega)) hI hnew hnk;refine⟨f1.inv,?_⟩;have g1:=Ar.Yv ((C.get h).Xc.foldl (XP (fun B k=>dupF C true m B (A.n+1) k) (A.n+1)) (A.Xn (C.get h).XI)) (A.n+1);have g2:=Ar.Jk (A.Xn (C.get h).XI) (A.n+1);omega};·rw[if_neg hdp];exact⟨hI,by omega⟩
 ·obtain⟨f1,f2⟩:=Jf hC m deep hA hd hk hh h1 hw;refine⟨f1.inv,?_⟩;have g1:=Ar.Yv (dupF C deep m A d h).2 d;have g2:=Ar.Jk A d;omega
end
section
/-- The children that stay, and what texts will say, behind a first text f (or 0) that will say d. -/
def jk (B : Ar) : Int → ByteArray → List Int → List Int × List (Int × ByteArray)
  | f, d, [] => ([], if f ≠ 0 then [(f, d)] else [])
  | f, d, k :: l =>
    if (B.get k).Xa ≠ 5 then (k :: (jk B 0 ByteArray.empty l).1, (if f ≠ 0 then [(f, d)] else []) ++ (jk B 0 ByteArray.empty l).2)
    else if f = 0 ∧ (B.get k).data ≠ ByteArray.empty then (k :: (jk B k (B.get k).data l).1, (jk B k (B.get k).data l).2)
    else jk B f (d ++ (B.get k).data) l
theorem Xbt {B B':Ar}:∀{l:List Int}(f:Int)(d:ByteArray),(∀k∈l,(B'.get k).Xa=(B.get k).Xa∧(B'.get k).data=(B.get k).data)→jk B' f d l=jk B f d l
 | [],_,_,_=>rfl
 |k::l,f,d,h=>by{obtain⟨h1,h2⟩:=h k (by simp);have h':∀k'∈l,(B'.get k').Xa=(B.get k').Xa∧(B'.get k').data=(B.get k').data:=fun k' hk=>h k' (by simp[hk]);unfold jk;rw[h1,h2,Xbt 0 ByteArray.empty h',Xbt k (B.get k).data h',Xbt f (d++(B.get k).data) h']}
theorem JF {B:Ar}:∀(l:List Int)(f:Int)(d:ByteArray),∀x∈(jk B f d l).1,x∈l
 | [],f,d,x,hx=>by{simp[jk]at hx}
 |k::l,f,d,x,hx=>by{unfold jk at hx;split at hx;·{rcases List.mem_cons.1 hx with rfl|hx;·{simp};·simp[JF l _ _ x hx]};·split at hx;·{rcases List.mem_cons.1 hx with rfl|hx;·{simp};·simp[JF l _ _ x hx]};·simp[JF l _ _ x hx]}
theorem JG {B:Ar}:∀(l:List Int)(f:Int)(d:ByteArray),∀p∈(jk B f d l).2,(p.1=f∧f≠0)∨(p.1∈l∧(B.get p.1).Xa=5)
 | [],f,d,p,hp=>by{unfold jk at hp;by_cases q:f=0;·{simp[q]at hp};·simp[q]at hp;subst hp;exact .inl ⟨rfl,q⟩}
 |k::l,f,d,p,hp=>by{unfold jk at hp;by_cases q:(B.get k).Xa=5;·{rw[if_neg (fun e=>e q)]at hp;by_cases q2:f=0∧(B.get k).data≠ByteArray.empty;·{rw[if_pos q2]at hp;rcases JG l _ _ p hp with⟨e,_⟩|⟨e,e'⟩;·{exact .inr ⟨by rw[e];simp,by rw[e];exact q⟩};·exact .inr ⟨by simp[e],e'⟩};·rw[if_neg q2]at hp;rcases JG l _ _ p hp with e|⟨e,e'⟩;·{exact .inl e};·exact .inr ⟨by simp[e],e'⟩};·rw[if_pos q]at hp;rcases List.mem_append.1 hp with hp|hp;·{by_cases q2:f=0;·{simp[q2]at hp};·simp[q2]at hp;subst hp;exact .inl ⟨rfl,q2⟩};·rcases JG l _ _ p hp with⟨e,e'⟩|⟨e,e'⟩;·{exact absurd rfl e'};·exact .inr ⟨by simp[e],e'⟩}
theorem Jy {x:Int}:∀{l:List (Int×ByteArray)},(∀p∈l,p.1≠x)→l.lookup x=none
 | [],_=>rfl
 |p::l,h=>by{rw[List.lookup_cons];have:(x==p.1)=false:=by{simp;exact fun e=>h p (by simp) e.symm};rw[this];exact Jy (fun q hq=>h q (by simp[hq]))}
def Nd.re3 (n : Nd) (Xc : List Int) (Xd : Int) (data : ByteArray) : Nd := { n with Xc := Xc, Xd := Xd, data := data }
theorem Xld (n:Nd)(k k':List Int)(p p':Int)(d':ByteArray):(n.re k p).re3 k' p' d'=n.re3 k' p' d':=rfl
theorem Xc8 (n:Nd)(k k':List Int)(p p':Int)(d d':ByteArray):(n.re3 k p d).re3 k' p' d'=n.re3 k' p' d':=rfl
theorem XaW {n:Nd}{k k':List Int}{p p':Int}{d d':ByteArray}(h1:k=k')(h2:p=p')(h3:d=d'):n.re3 k p d=n.re3 k' p' d':=by
 rw[h1,h2,h3]
theorem Xe1 {A:Ar}{f:Int}{d:ByteArray}(hf:A.has f)(hk:(A.get f).Xa=5){x:Int}(hx:A.has x):(A.XG f d).2.get x=(A.get x).re3 (A.get x).Xc (A.get x).Xd (if x=f then d else(A.get x).data):=by
 unfold Ar.XG
 rw[if_neg (fun e=>e hf),if_neg (fun e=>e (.inl hk))]
 show(A.mod f _).get x=_
 rw[Ar.Zr _ hf hx]
 by_cases e:x=f
 ·subst e;rw[if_pos rfl,if_pos rfl];rfl
 ·rw[if_neg e,if_neg e];rfl
theorem J7 (A:Ar)(f:Int)(d:ByteArray):(A.XG f d).2.n=A.n∧(A.XG f d).2.ns.length=A.ns.length∧(A.XG f d).2.Xh=A.Xh:=by
 unfold Ar.XG
 split
 ·exact⟨rfl,rfl,rfl⟩
 ·split;·{exact⟨rfl,rfl,rfl⟩};·exact⟨Ar.Xad _ _ _,by simp[Ar.mod],rfl⟩
theorem Xhi (A:Ar)(f:Int)(d:ByteArray)(x:Int):(A.XG f d).2.has x↔A.has x:=by
 unfold Ar.has
 rw[(J7 A f d).1]
theorem Xau {s:X8}(hf:s.first≠0→s.ar.has s.first∧(s.ar.get s.first).Xa=5){x:Int}(hx:s.ar.has x):s.flush.ar.get x=(s.ar.get x).re3 (s.ar.get x).Xc (s.ar.get x).Xd (((if s.first≠0 then [(s.first,s.data)]else []).lookup x).getD (s.ar.get x).data):=by
 unfold X8.flush
 by_cases q:s.first=0
 ·rw[if_neg (fun e=>e q),if_neg (fun e=>e q)];rfl
 ·rw[if_pos q,if_pos q];rw[Xe1 (hf q).1 (hf q).2 hx];by_cases e:x=s.first;·{subst e;simp};·have:(x==s.first)=false:=by{simp[e]};rw[if_neg e,List.lookup_cons,this];rfl
theorem XaX (s:X8):s.flush.ar.n=s.ar.n∧s.flush.ar.ns.length=s.ar.ns.length∧s.flush.ar.Xh=s.ar.Xh:=by
 unfold X8.flush
 dsimp only
 split
 ·exact J7 _ _ _
 ·exact⟨rfl,rfl,rfl⟩
theorem Xc9 {s:X8}(hI:s.ar.Inv):s.flush.ar.Inv:=by
 unfold X8.flush
 dsimp only
 split
 ·exact hI.XG _ _
 ·exact hI
theorem Xhj {x:Int}(a b:List (Int×ByteArray))(d:ByteArray):((a++b).lookup x).getD d=(a.lookup x).getD ((b.lookup x).getD d):=by
 induction a with|nil=>{rfl}|cons p a ih=>obtain⟨p1,p2⟩:=p;simp only[List.cons_append,List.lookup_cons];cases(x==p1);·{exact ih};·rfl
theorem Xda {h:Int}:∀(l:List Int)(s:X8)(dn:List Int),s.ar.Inv→s.ar.has h→(s.ar.get h).Xc=dn++l→(s.first≠0→s.first∈dn∧(s.ar.get s.first).Xa=5)→(s.first=0→s.data=ByteArray.empty)→(l.foldl X8.step s).flush.ar.Inv∧(l.foldl X8.step s).flush.ar.ns.length=s.ar.ns.length∧(l.foldl X8.step s).flush.ar.Xh=s.ar.Xh∧∀x,s.ar.has x→(l.foldl X8.step s).flush.ar.get x=(s.ar.get x).re3 (if x=h then dn++(jk s.ar s.first s.data l).1 else(s.ar.get x).Xc) (if x∈l∧(s.ar.get x).Xa=5∧x∉(jk s.ar s.first s.data l).1 then 0 else(s.ar.get x).Xd) (((jk s.ar s.first s.data l).2.lookup x).getD (s.ar.get x).data)
 | [],s,dn,hI,hh,hk,hf,h0=>by{have hf':s.first≠0→s.ar.has s.first∧(s.ar.get s.first).Xa=5:=fun q=>⟨(XF hI hh (by rw[hk];simp[(hf q).1])).1,(hf q).2⟩;refine⟨Xc9 hI,(XaX s).2.1,(XaX s).2.2,fun x hx=>?_⟩;show s.flush.ar.get x=_;have e0:(if x∈([]:List Int)∧(s.ar.get x).Xa=5∧x∉(jk s.ar s.first s.data []).1 then(0:Int)else(s.ar.get x).Xd)=(s.ar.get x).Xd:=if_neg (fun q=>absurd q.1 List.not_mem_nil);rw[Xau hf' hx,e0];simp only[jk,List.append_nil]at hk⊢;by_cases e:x=h;·{subst e;rw[if_pos rfl,hk]};·rw[if_neg e]}
 |k::l,s,dn,hI,hh,hk,hf,h0=>by{have hnd:=hI.wf.nodup h hh;rw[hk]at hnd;obtain⟨n1,n2,n3⟩:=List.nodup_append.1 hnd;obtain⟨n4,n5⟩:=List.nodup_cons.1 n2;have hkd:k∉dn:=fun q=>n3 k q k (by simp) rfl;obtain⟨hk1,hk2,hk3⟩:=XF hI hh (k:=k) (by rw[hk];simp);have hkh:k≠h:=fun e=>by{have h5:(s.ar.get h).Xd=h:=by{rw[e]at hk3;exact hk3};obtain⟨p,hp⟩:=hI.wf.way h hh;cases p with|nil=>{exact Za s.ar (by have e0:h=0:=hp;rw[←e0];exact hh)}|cons y p=>have hp2:=hp.2.2;have hup:Ye s.ar true h=h:=by{simp only[Ye,Ar.up,if_true];rw[if_pos (by rw[h5];have:=hh.1;omega),h5]};rw[hup]at hp2;have:=congrArg List.length (XaH hp2 hp);simp at this};have hf':s.first≠0→s.ar.has s.first∧(s.ar.get s.first).Xa=5:=fun q=>⟨(XF hI hh (by rw[hk];simp[(hf q).1])).1,(hf q).2⟩;have hfl:s.first≠0→s.first≠k∧s.first∉l:=fun q=>⟨fun e=>hkd (e▸(hf q).1),fun e=>n3 _ (hf q).1 _ (by simp[e]) rfl⟩;rw[List.foldl_cons];by_cases q5:(s.ar.get k).Xa=5;·{by_cases q0:s.first=0∧(s.ar.get k).data≠ByteArray.empty;·{have e:s.step k=⟨s.ar,k,(s.ar.get k).data⟩:=by{unfold X8.step;rw[if_neg (fun e=>e q5),if_pos q0]};have ej:jk s.ar s.first s.data (k::l)=(k::(jk s.ar k (s.ar.get k).data l).1,(jk s.ar k (s.ar.get k).data l).2):=by{(conv=>lhs;unfold jk);rw[if_neg (fun e=>e q5),if_pos q0]};rw[e,ej];have hk0:k≠0:=by{have:=hk1.1;omega};obtain⟨r1,r2,r3,r4⟩:=Xda (h:=h) l ⟨s.ar,k,(s.ar.get k).data⟩ (dn++ [k]) hI hh (by rw[hk];simp) (fun _=>⟨by simp,q5⟩) (fun z=>absurd z hk0);refine⟨r1,r2,r3,fun x hx=>?_⟩;rw[r4 x hx];dsimp only;congr 1;·{by_cases e:x=h;·{rw[if_pos e,if_pos e];simp};·rw[if_neg e,if_neg e]};·by_cases e:x=k;·{subst e;rw[if_neg (fun z=>n4 z.1),if_neg (fun z=>z.2.2 (by simp))]};·simp only[List.mem_cons,e,false_or]};·have e:s.step k=⟨s.ar.cut k,s.first,s.data++(s.ar.get k).data⟩:=by{unfold X8.step;rw[if_neg (fun e=>e q5),if_neg q0]};have ej:jk s.ar s.first s.data (k::l)=jk s.ar s.first (s.data++(s.ar.get k).data) l:=by{(conv=>lhs;unfold jk);rw[if_neg (fun e=>e q5),if_neg q0]};rw[e,ej];have hcg:∀x,s.ar.has x→(s.ar.cut k).get x=(s.ar.get x).re (if x=h then XQ (s.ar.get x).Xc k else(s.ar.get x).Xc) (if x=k then 0 else(s.ar.get x).Xd):=fun x hx=>by{rw[Ar.Zc hI hk1 hx,hk3]};have hkc:∀x,s.ar.has x→((s.ar.cut k).get x).Xa=(s.ar.get x).Xa∧((s.ar.cut k).get x).data=(s.ar.get x).data:=fun x hx=>by{rw[hcg x hx];exact⟨rfl,rfl⟩};have hlh:∀x∈l,s.ar.has x:=fun x hx=>(XF hI hh (by rw[hk];simp[hx])).1;have hkids:((s.ar.cut k).get h).Xc=dn++l:=by{rw[hcg h hh,if_pos rfl];show XQ (s.ar.get h).Xc k=_;rw[hk];unfold XQ;rw[List.filter_append,List.filter_cons];simp only[ne_eq,not_true_eq_false,decide_false,Bool.false_eq_true,if_false];rw[List.filter_eq_self.2 (fun y hy=>by simp;rintro rfl;exact hkd hy),List.filter_eq_self.2 (fun y hy=>by simp;rintro rfl;exact n4 hy)]};have hd0:s.first=0→s.data++(s.ar.get k).data=ByteArray.empty:=fun z=>by{have:(s.ar.get k).data=ByteArray.empty:=Classical.byContradiction fun y=>q0 ⟨z,y⟩;rw[h0 z,this];rfl};obtain⟨r1,r2,r3,r4⟩:=Xda (h:=h) l ⟨s.ar.cut k,s.first,s.data++(s.ar.get k).data⟩ dn (Ar.XC.cut hI hk1) ((Ar.X5 _ _ _).2 hh) hkids (fun z=>⟨(hf z).1,by rw[(hkc _ (hf' z).1).1];exact(hf' z).2⟩) hd0;refine⟨r1,r2.trans (Ar.YY _ _),r3.trans (Ar.Z2 _ _),fun x hx=>?_⟩;rw[r4 x ((Ar.X5 _ _ _).2 hx)];dsimp only;rw[Xbt s.first (s.data++(s.ar.get k).data) (fun y hy=>hkc y (hlh y hy)),hcg x hx];have hks:=JF (B:=s.ar) l s.first (s.data++(s.ar.get k).data);generalize jk s.ar s.first (s.data++(s.ar.get k).data) l=J at*;rw[Xld];refine XaW ?_ ?_ rfl;·{by_cases e:x=h;·{rw[if_pos e,if_pos e]};·first|(simp only[if_neg e];done)|(simp only[if_neg e];rfl)};·by_cases e:x=k;·{subst e;have c2:x∈x::l∧(s.ar.get x).Xa=5∧x∉J.1:=⟨by simp,q5,fun z=>n4 (hks _ z)⟩;exact(if_neg (fun z=>n4 z.1)).trans ((if_pos rfl).trans (if_pos c2).symm)};·have e2:(x∈k::l)↔x∈l:=by{simp[e]};have e3:((s.ar.get x).re (if x=h then XQ (s.ar.get x).Xc k else(s.ar.get x).Xc) (if x=k then 0 else(s.ar.get x).Xd)).Xa=(s.ar.get x).Xa:=rfl;have e4:((s.ar.get x).re (if x=h then XQ (s.ar.get x).Xc k else(s.ar.get x).Xc) (if x=k then 0 else(s.ar.get x).Xd)).Xd=(s.ar.get x).Xd:=by{show(if x=k then(0:Int)else _)=_;rw[if_neg e]};rw[e3,e4];simp only[e2]};·have e:s.step k=s.flush:=by{unfold X8.step;rw[if_pos q5]};have ej:jk s.ar s.first s.data (k::l)=(k::(jk s.ar 0 ByteArray.empty l).1,(if s.first≠0 then [(s.first,s.data)]else [])++(jk s.ar 0 ByteArray.empty l).2):=by{(conv=>lhs;unfold jk);rw[if_pos q5]};rw[e,ej];have hkc:∀x,s.ar.has x→(s.flush.ar.get x).Xa=(s.ar.get x).Xa∧(s.flush.ar.get x).Xc=(s.ar.get x).Xc∧(s.flush.ar.get x).Xd=(s.ar.get x).Xd:=fun x hx=>by{rw[Xau hf' hx];exact⟨rfl,rfl,rfl⟩};have hfh:∀x,s.flush.ar.has x↔s.ar.has x:=fun x=>by{unfold Ar.has;rw[(XaX s).1]};have hlh:∀x∈l,s.ar.has x:=fun x hx=>(XF hI hh (by rw[hk];simp[hx])).1;have hnl:∀x∈l,((if s.first≠0 then [(s.first,s.data)]else []).lookup x)=none:=fun x hx=>by{refine Jy (fun p hp=>?_);by_cases z:s.first=0;·{simp[z]at hp};·simp[z]at hp;subst hp;exact fun e=>(hfl z).2 (by have e':s.first=x:=e;rw[e'];exact hx)};have hkd2:∀x∈l,(s.flush.ar.get x).data=(s.ar.get x).data:=fun x hx=>by{rw[Xau hf' (hlh x hx),hnl x hx];rfl};obtain⟨r1,r2,r3,r4⟩:=Xda (h:=h) l s.flush (dn++ [k]) (Xc9 hI) ((hfh h).2 hh) (by rw[(hkc h hh).2.1,hk];simp) (fun z=>absurd rfl z) (fun _=>rfl);refine⟨r1,r2.trans (XaX s).2.1,r3.trans (XaX s).2.2,fun x hx=>?_⟩;rw[r4 x ((hfh x).2 hx)];have ejj:jk s.flush.ar s.flush.first s.flush.data l=jk s.ar 0 ByteArray.empty l:=Xbt 0 ByteArray.empty (fun y hy=>⟨(hkc y (hlh y hy)).1,hkd2 y hy⟩);rw[ejj];have hkeys:=JG (B:=s.ar) l 0 ByteArray.empty;have hks:=JF (B:=s.ar) l 0 ByteArray.empty;generalize jk s.ar 0 ByteArray.empty l=J at*;rw[Xau hf' hx];rw[Xc8];refine XaW ?_ ?_ ?_;·{by_cases e:x=h;·{rw[if_pos e,if_pos e];simp};·rw[if_neg e,if_neg e];rfl};·{by_cases e:x=k;·{subst e;exact(if_neg (fun z=>n4 z.1)).trans (Eq.trans rfl (if_neg (fun z=>q5 z.2.1)).symm)};·have e2:(x∈k::l)↔x∈l:=by{simp[e]};have e5:(x∈k::J.1)↔x∈J.1:=by{simp[e]};show(if x∈l∧(s.ar.get x).Xa=5∧x∉J.1 then(0:Int)else(s.ar.get x).Xd)=_;simp only[e2,e5]};·rw[Xhj];show(J.2.lookup x).getD (((if s.first≠0 then [(s.first,s.data)]else []).lookup x).getD (s.ar.get x).data)=_;by_cases e:x∈l;·{rw[hnl x e];rfl};·have:J.2.lookup x=none:=Jy (fun p hp=>by rcases hkeys p hp with⟨_,z⟩|⟨z,_⟩;·{exact absurd rfl z};·exact fun y=>e (y▸z));rw[this];rfl}
theorem Xav {A:Ar}{h:Int}(hI:A.Inv)(hh:A.has h):(A.join h).Inv∧(A.join h).ns.length=A.ns.length∧(A.join h).Xh=A.Xh∧∀x,A.has x→(A.join h).get x=(A.get x).re3 (if x=h then(jk A 0 ByteArray.empty (A.get h).Xc).1 else(A.get x).Xc) (if x∈(A.get h).Xc∧(A.get x).Xa=5∧x∉(jk A 0 ByteArray.empty (A.get h).Xc).1 then 0 else(A.get x).Xd) (((jk A 0 ByteArray.empty (A.get h).Xc).2.lookup x).getD (A.get x).data):=by
 have:=Xda (h:=h) (A.get h).Xc ⟨A,0,ByteArray.empty⟩ [] hI hh rfl (fun z=>absurd rfl z) (fun _=>rfl)
 simpa[Ar.join]using this
end
end Go.Proofs.YtpicinjcmjaogaaGreatDoor
