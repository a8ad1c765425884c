import Derived.Test.YtpicinjcmjaogaaGreatDoorW17
set_option maxRecDepth 100000
set_option maxHeartbeats 4000000
set_option linter.unusedVariables false
namespace Go.Proofs.YtpicinjcmjaogaaGreatDoor
section
/-- What a text of a joined row will say. -/
def jtx (A : Ar) (J : List (Int × ByteArray)) (k : Int) : Nat := if (A.get k).Xa = 5 then ((J.lookup k).getD (A.get k).data).size else 0
theorem Xnb {f k:Int}{d:ByteArray}{J:List (Int×ByteArray)}(h:k≠f):((if f≠0 then [(f,d)]else [])++J).lookup k=J.lookup k:=by
 by_cases q:f=0
 ·rw[if_neg (fun z=>z q)];rfl
 ·rw[if_pos q];have:(k==f)=false:=by{simp[h]};simp[List.lookup,this]
theorem Xdy {A:Ar}:∀(l:List Int)(f:Int)(d:ByteArray),l.Nodup→(∀k∈l,k≠0∧k≠f)→((jk A f d l).1.map (jtx A (jk A f d l).2)).sum+(if f≠0 then(((jk A f d l).2.lookup f).getD (A.get f).data).size else 0)≤(if f≠0 then d.size else 0)+(l.map (fun k=>tx (A.get k))).sum
 | [],f,d,_,_=>by{unfold jk;by_cases q:f=0;·{simp[q]};·simp[q]}
 |k::l,f,d,hn,h=>by{rw[List.nodup_cons]at hn;have hk:=h k (by simp);have h':∀k'∈l,k'≠0∧k'≠f:=fun k' hk'=>h k' (by simp[hk']);have h0:∀k'∈l,k'≠0∧k'≠0:=fun k' hk'=>⟨(h' k' hk').1,(h' k' hk').1⟩;have hkk:∀k'∈l,k'≠0∧k'≠k:=fun k' hk'=>⟨(h' k' hk').1,fun e=>hn.1 (e▸hk')⟩;by_cases h5:(A.get k).Xa=5;·{have htx:tx (A.get k)=(A.get k).data.size:=by{unfold tx;rw[if_pos h5]};by_cases hf:f=0∧(A.get k).data≠ByteArray.empty;·{have e:jk A f d (k::l)=(k::(jk A k (A.get k).data l).1,(jk A k (A.get k).data l).2):=by{rw[jk,if_neg (fun q=>q h5),if_pos hf]};rw[e];have ih:=Xdy (A:=A) l k (A.get k).data hn.2 hkk;rw[if_pos hk.1,if_pos hk.1]at ih;rw[if_neg (fun q=>q hf.1),if_neg (fun q=>q hf.1)];simp only[List.map_cons,List.sum_cons];have e2:jtx A (jk A k (A.get k).data l).2 k=(((jk A k (A.get k).data l).2.lookup k).getD (A.get k).data).size:=by{unfold jtx;rw[if_pos h5]};rw[e2,htx];omega};·have e:jk A f d (k::l)=jk A f (d++(A.get k).data) l:=by{rw[jk,if_neg (fun q=>q h5),if_neg hf]};rw[e];have ih:=Xdy (A:=A) l f (d++(A.get k).data) hn.2 h';rw[ByteArray.size_append]at ih;simp only[List.map_cons,List.sum_cons];rw[htx];by_cases q:f=0;·{rw[if_neg (fun z=>z q),if_neg (fun z=>z q)]at ih⊢;omega};·rw[if_pos q,if_pos q]at ih⊢;omega};·have htx:tx (A.get k)=0:=by{unfold tx;rw[if_neg h5]};have e:jk A f d (k::l)=(k::(jk A 0 ByteArray.empty l).1,(if f≠0 then [(f,d)]else [])++(jk A 0 ByteArray.empty l).2):=by{rw[jk,if_pos h5]};rw[e];have ih:=Xdy (A:=A) l 0 ByteArray.empty hn.2 h0;rw[if_neg (fun q=>q rfl),if_neg (fun q=>q rfl)]at ih;simp only[List.map_cons,List.sum_cons];have e1:∀J,jtx A J k=0:=fun J=>by{unfold jtx;rw[if_neg h5]};have e2:(jk A 0 ByteArray.empty l).1.map (jtx A ((if f≠0 then [(f,d)]else [])++(jk A 0 ByteArray.empty l).2))=(jk A 0 ByteArray.empty l).1.map (jtx A (jk A 0 ByteArray.empty l).2):=List.map_congr_left (fun x hx=>by unfold jtx;rw[Xnb (h' x (JF l 0 ByteArray.empty x hx)).2]);rw[e1,e2,htx];by_cases q:f=0;·{rw[if_neg (fun z=>z q),if_neg (fun z=>z q)];omega};·rw[if_pos q,if_pos q,if_pos q];have:(((f,d)::(jk A 0 ByteArray.empty l).2).lookup f)=some d:=by{simp[List.lookup]};rw[List.singleton_append,this];simp only[Option.getD_some];omega}
theorem Xik {A:Ar}{h:Int}(hI:A.Inv)(hh:A.has h){y:Int}(hy:A.has y):(A.join h).YJ y≤A.YJ y:=by
 obtain⟨r1,r2,r3,r4⟩:=Xav hI hh
 have hks:=JF (B:=A) (A.get h).Xc 0 ByteArray.empty
 have hkeys:=JG (B:=A) (A.get h).Xc 0 ByteArray.empty
 have hjt:=Xdy (A:=A) (A.get h).Xc 0 ByteArray.empty (hI.wf.nodup h hh) (fun k hk=>by have:=(XF hI hh hk).1.1;exact⟨by omega,by omega⟩)
 rw[if_neg (fun q=>q rfl),if_neg (fun q=>q rfl)]at hjt
 generalize jk A 0 ByteArray.empty (A.get h).Xc=J at*
 have htx:∀k,A.has k→tx ((A.join h).get k)=jtx A J.2 k:=fun k hk=>by unfold tx jtx;rw[r4 k hk];rfl
 unfold Ar.YJ
 by_cases e:y=h
 ·subst e;have ek:((A.join y).get y).Xc=J.1:=by{rw[r4 y hh];show(if y=y then _ else _)=_;rw[if_pos rfl]};rw[ek,List.map_congr_left (fun k hk=>htx k (XF hI hh (hks k hk)).1)];have h2:(J.1.map (jtx A J.2)).sum=(J.1.map (fun k=>jtx A J.2 k)).sum:=rfl;omega
 ·have ek:((A.join h).get y).Xc=(A.get y).Xc:=by{rw[r4 y hy];show(if y=h then _ else _)=_;rw[if_neg e]};rw[ek];refine Nat.le_of_eq (congrArg List.sum (List.map_congr_left (fun k hk=>?_)));obtain⟨k1,k2,k3⟩:=XF hI hy hk;rw[htx k k1];unfold jtx tx;have:J.2.lookup k=none:=Jy (fun p hp=>by rcases hkeys p hp with⟨_,z⟩|⟨z,_⟩;·{exact absurd rfl z};·exact fun q=>e (by rw[←k3,←q];exact(XF hI hh z).2.2));rw[this];rfl
theorem Xnc {A:Ar}(hI:A.Inv)(h:Int){y:Int}(hy:A.has y):(A.normalize h).2.YJ y≤A.YJ y:=by
 unfold Ar.normalize
 split
 ·rename_i hh;obtain⟨q1,q2,q3,-⟩:=Xav hI hh;have hasj:∀{B:Ar},B.ns.length=A.ns.length→∀{x},A.has x→B.has x:=fun e x hx=>⟨hx.1,by have:=hx.2;unfold Ar.n at*;omega⟩;have hh1:=hasj q2 hh;dsimp only;refine(Ze (P:=fun B:Ar=>B.Inv∧B.ns.length=A.ns.length∧B.YJ y≤A.YJ y) ⟨q1,q2,Xik hI hh hy⟩ ?_).2.2;rintro B x hx⟨p1,p2,p3⟩;have hxB:B.has x:=by{have:=(Zt q1 h hh1 x hx).1;exact⟨this.1,by have:=this.2;unfold Ar.n at*;omega⟩};obtain⟨s1,s2,s3,-⟩:=Xav p1 hxB;exact⟨s1,s2.trans p2,Nat.le_trans (Xik p1 hxB (hasj p2 hy)) p3⟩
 ·exact Nat.le_refl _
/-- The texts below the nodes, all together. -/
def fK (A : Ar) (x : Int) : Nat := A.YJ x
theorem Xil {A:Ar}(hI:A.Inv):tot fK A≤A.Xk:=by
 rw[Xce]
 unfold tot
 have:(A.hs.map (fK A)).sum=((A.hs.flatMap (fun x=>(A.get x).Xc)).map (fun k=>tx (A.get k))).sum:=(Xdg (f:=fun k=>tx (A.get k)) (g:=fun x=>(A.get x).Xc)).symm
 rw[this]
 refine Xax (Xhz hI) (fun x hx=>?_)
 obtain⟨y,hy,hx⟩:=List.mem_flatMap.1 hx
 exact ZW.2 (XF hI (ZW.1 hy) hx).1
theorem Xnd {A:Ar}{x:Int}(hx:A.has x):A.YJ x≤tot fK A:=by
 have:=Xax (f:=fK A) (l:= [x]) (H:=A.hs) (by simp) (fun y hy=>by simp at hy;subst hy;exact ZW.2 hx)
 simpa[tot,fK]using this
theorem Xne {A:Ar}(hI:A.Inv)(h:Int):tot fK (A.normalize h).2≤tot fK A:=by
 have e:(A.normalize h).2.hs=A.hs:=by unfold Ar.hs;rw[(Xfj hI h).2.1]
 unfold tot
 rw[e]
 exact Xfa (fun x hx=>Xnc hI h (ZW.1 hx))
theorem Xnf {C B:Ar}{x y:Int}(q:ZJ C B x y):fK C x=fK B y:=by
 obtain⟨q1,q2,q3,q4,q5,q6,q7⟩:=q.inv
 unfold fK Ar.YJ
 exact congrArg List.sum (Xfo q4 (fun i x y hx hy=>Xdq (q7 i x y hx hy).inv.2.2.1))
theorem Xim {B:Ar}{x:Int}(h:(B.get x).Xc= []):fK B x=0:=by
 unfold fK Ar.YJ
 rw[h]
 rfl
theorem Xin {A B:Ar}(hA:A.Inv)(hold:∀x,A.has x→B.has x∧B.get x=A.get x):∀x,A.has x→fK B x=fK A x:=fun x hx=>by{unfold fK Ar.YJ;rw[(hold x hx).2];exact congrArg List.sum (List.map_congr_left (fun k hk=>by rw[(hold k (XF hA hx hk).1).2]))}
theorem Xa0.fK {C A B:Ar}{h d c:Int}(q:Xa0 C A B h d c)(hA:A.Inv)(hC:C.Inv):tot fK B≤tot fK A+tot fK C:=by
 have hh:=q.alk.inv.1
 refine Nat.le_trans (Xbx (A:=A) (W:=B.Xi c) (Xin hA q.old) (fun x h1 h2=>(q.new x h1 h2).imp id (fun z=>Xim z.1))) ?_
 rw[←Xfq Xnf hC q.inv h hh c q.alk]
 exact Nat.add_le_add_left (Xdr hC hh) _
theorem Xio {C A:Ar}(hC:C.Inv)(hA:A.Inv){h d:Int}{m:Nat}{deep:Bool}(hd:A.has d)(hk:(A.get d).Xa=1)(hh:C.has h)(hw:(C.Xi h).length≤m):tot fK (dupF C deep m A d h).2≤tot fK A+tot fK C:=by
 cases deep with|true=>{by_cases h1:(C.get h).Xa=1;·{exact(XhU (d:=d) hC hA hh h1 hw).fK hA hC};·exact(Xaw hC m hA hd hk hh h1 hw).fK hA hC}|false=>cases m with|zero=>{have:=YL hC hh;omega}|succ m=>have hmid:XH C false m (A.Xj d (C.get h)) d h=(A.Xj d (C.get h)).2:=by{unfold XH;rw[if_neg (fun q=>by simp at q)]};rw[Y8,hmid,if_neg (by decide)];dsimp only;have key:∀(B:Ar),(∀x,A.has x→B.has x∧B.get x=A.get x)→(∀x,B.has x→¬A.has x→(B.get x).Xc= [])→tot fK B≤tot fK A+tot fK C:=fun B k1 k2=>by{have a1:=Xbx (F:=fK) (A:=A) (B:=B) (W:= []) (Xin hA k1) (fun x h1 h2=> .inr (Xim (k2 x h1 h2)));simp at a1;omega};by_cases h1:(C.get h).Xa=1;·{have hal:A.Xj d (C.get h)=(A.n+1,A.Xn (C.get h).XI):=by{unfold Ar.Xj;rw[if_pos h1]};rw[hal];have hg:(A.Xn (C.get h).XI).get (A.n+1)={XL with Xa:=1,XI:=(C.get h).XI,doc:=A.n+1}:=by{rw[Ar.Xn,Ar.YS]};refine key _ (fun x hx=>⟨(Ar.XO _ _ _).2 (.inl hx),Ar.Zb _ hx⟩) (fun x g1 g2=>?_);rcases(Ar.XO _ _ _).1 g1 with q|q;·{exact absurd q g2};·rw[q,hg];rfl};·obtain⟨n1,n2,n3⟩:=Xbu hA hC hd hk hh h1;generalize(A.Xj d (C.get h)).2=B at*;refine key B n2.old (fun x g1 g2=>?_);rcases n3 with⟨z1,z2,z3⟩|⟨z1,cc,z2,z3,z4,z5,z6,z7,z8,z9⟩;·{rcases z3 x g1 g2 with q|q;·{rw[q];exact n2.Xc};·exact q.1};·rcases z9 x g1 g2 with q|q|q;·{rw[q];exact n2.Xc};·{rw[q];exact z6};·exact q.1
theorem Xng {A:Ar}(hI:A.Inv)(x:OpD):(x.Xa=34→tot fK (A.Xo x).2≤tot fK A)∧(x.Xa=31∨x.Xa=32→tot fK (A.Xo x).2≤2*tot fK A):=by
 constructor
 ·intro e;have:(A.Xo x).2=(A.normalize x.a).2:=by{unfold Ar.Xo;simp[e]};rw[this];exact Xne hI x.a
 ·rintro(e|e);·{have:(A.Xo x)=A.Zx x.a x.Xe:=by{unfold Ar.Xo;simp[e]};rw[this];unfold Ar.Zx;split;·{rename_i hh;obtain⟨d1,d2⟩:=hI.ZV x.a hh;have:=Xio (deep:=x.Xe) hI hI d1 d2 hh (Z3 hI x.a);dsimp only;omega};·dsimp only;omega};·have:(A.Xo x)=A.Zp A x.a x.b:=by{unfold Ar.Xo;simp[e]};rw[this];unfold Ar.Zp;split;·{rename_i hh;split;·{dsimp only;omega};·rename_i hk;have:=Xio (deep:=true) hI hI hh.1 (Classical.not_not.1 (fun z=>hk (.inl z))) hh.2 (Z3 hI x.b);dsimp only;omega};·dsimp only;omega
end
section
theorem lab_up {ρ:Int→Int}{A:Ar}(h:Lab ρ A){x:Int}(hx:A.has x)(hu:A.up x≠0):ρ (A.up x)=ρ x:=by
 unfold Ar.up at hu⊢
 split
 ·rename_i q;exact lab_parent h hx q
 ·rename_i q;rw[if_neg q]at hu;exact lab_host h hx hu
theorem lab_walk {ρ:Int→Int}{A:Ar}(hI:A.Inv)(hL:Lab ρ A):∀h,A.has h→∀x∈A.Xi h,ρ x=ρ h:=by
 refine Jc hI (fun h hh hc hk x hx=>?_)
 have h0:h≠0:=fun e=>by rw[e]at hh;exact Za _ hh
 rw[Ym hI hh]at hx
 rcases List.mem_cons.1 hx with e|e
 ·rw[e]
 ·rcases List.mem_append.1 e with q|q;·{split at q;·{rename_i hz;obtain⟨b1,b2,-⟩:=ZL hI hh hz;have:=lab_up hL b1 (by rw[b2];exact h0);rw[b2]at this;exact(hc hz x q).trans this.symm};·cases q};·obtain⟨k,hk1,hk2⟩:=List.mem_flatMap.1 q;obtain⟨b1,b2,-⟩:=XF hI hh hk1;have:=lab_up hL b1 (by rw[b2];exact h0);rw[b2]at this;exact(hk k hk1 x hk2).trans this.symm
theorem map_eq_ofL {a b:Int→List Nat}:∀{l1 l2:List Int},l1.length=l2.length→(∀(i:Nat)(x y:Int),l1[i]?=some x→l2[i]?=some y→a x=b y)→l1.flatMap a=l2.flatMap b
 | [],[],_,_=>rfl
 |x::l1,y::l2,hl,h=>by{rw[List.flatMap_cons,List.flatMap_cons,h 0 x y rfl rfl,map_eq_ofL (l1:=l1) (l2:=l2) (by simpa using hl) (fun i x y h1 h2=>h (i+1) x y (by simpa using h1) (by simpa using h2))]}
theorem walk_map {C B:Ar}(hC:C.Inv)(hB:B.Inv):∀h,C.has h→∀k,ZJ C B h k→(C.Xi h).map (fun x=>tx (C.get x))=(B.Xi k).map (fun x=>tx (B.get x)):=by
 refine Jc hC (fun h hh hc hk k q=>?_)
 obtain⟨q1,q2,q3,q4,q5,q6,q7⟩:=q.inv
 rw[Ym hC hh,Ym hB q2]
 simp only[List.map_cons,List.map_append,List.map_flatMap]
 rw[Xdq q3]
 have e2:(C.get h).Xc.flatMap (fun x=>(C.Xi x).map (fun x=>tx (C.get x)))=(B.get k).Xc.flatMap (fun x=>(B.Xi x).map (fun x=>tx (B.get x))):=map_eq_ofL q4 (fun i x y hx hy=>hk x (List.mem_of_getElem? hx) y (q7 i x y hx hy))
 rw[e2]
 by_cases hz:(C.get h).Xg=0
 ·rw[if_neg (fun e=>e hz),if_neg (fun e=>e (q5.1 hz))];rfl
 ·rw[if_pos hz,if_pos (fun e=>hz (q5.2 e)),hc hz _ (q6 hz)]
theorem zip_bk :∀W L:List Int,W.Nodup→L.Nodup→W.length=L.length→∃bk:Int→Int,(∀x∈W,bk x∈L)∧(∀x∈W,∀y∈W,bk x=bk y→x=y)∧∀f g:Int→Nat,W.map f=L.map g→∀x∈W,f x=g (bk x)
 | [],[],_,_,_=>⟨fun x=>x,fun x h=>(by cases h),fun x h=>(by cases h),fun f g _ x h=>(by cases h)⟩
 |w::W,l::L,hW,hL,hl=>by{have h1:=List.nodup_cons.1 hW;have h2:=List.nodup_cons.1 hL;obtain⟨bk,b1,b2,b3⟩:=zip_bk W L h1.2 h2.2 (by simpa using hl);have e1:∀x∈W,(if x=w then l else bk x)=bk x:=fun x hx=>if_neg (fun e:x=w=>h1.1 (by rw[←e];exact hx));refine⟨fun x=>if x=w then l else bk x,fun x hx=>?_,fun x hx y hy e=>?_,fun f g e x hx=>?_⟩;·{dsimp only;rcases List.mem_cons.1 hx with q|q;·{rw[if_pos q];simp};·rw[e1 x q];simp[b1 x q]};·{dsimp only at e;rcases List.mem_cons.1 hx with q|q;·{rcases List.mem_cons.1 hy with r|r;·{rw[q,r]};·rw[if_pos q,e1 y r]at e;exact absurd (e▸b1 y r) h2.1};·rcases List.mem_cons.1 hy with r|r;·{rw[if_pos r,e1 x q]at e;exact absurd (e▸b1 x q) h2.1};·rw[e1 x q,e1 y r]at e;exact b2 x q y r e};·rw[List.map_cons,List.map_cons,List.cons.injEq]at e;dsimp only;rcases List.mem_cons.1 hx with q|q;·{rw[if_pos q,q];exact e.1};·rw[e1 x q];exact b3 f g e.2 x q}
theorem tx_not5 {n:Nd}(h:n.Xa≠5):tx n=0:=if_neg h
theorem cp_copyR {A B:Ar}{h d c:Int}(hA:A.Inv)(q:Xa0 A A B h d c):CpT A B h:=by
 have hh:=q.alk.inv.1
 have hm:=walk_map hA q.inv h hh c q.alk
 have hWn:(B.Xi c).Nodup:=q.inc.imp (fun h=>by omega)
 obtain⟨bk,b1,b2,b3⟩:=zip_bk (B.Xi c) (A.Xi h) hWn (Xeq hA h hh) (by have:=congrArg List.length hm;simpa using this.symm)
 have b3:=b3 (fun x=>tx (B.get x)) (fun x=>tx (A.get x)) hm.symm
 refine⟨q.old,B.Xi c,bk,fun x hx=>⟨((Jr q.inv c q.has x).1 hx).1,fun r=>?_,((Jr hA h hh _).1 (b1 x hx)).1,Nat.le_of_eq (b3 x hx)⟩,b2,hWn,fun ρ hL x hx=>lab_walk hA hL h hh _ (b1 x hx),fun x hx hn=>?_⟩
 ·have:=q.ge x hx;have:=r.2;omega
 ·rcases q.new x hx hn with r|r;·{exact .inl r};·exact .inr (tx_not5 (by rw[r.2.2];decide))
theorem cp_one {A B:Ar}{h c:Int}(hold:∀x,A.has x→B.has x∧B.get x=A.get x)(hh:A.has h)(hc:B.has c)(hn:¬A.has c)(ht:tx (B.get c)≤tx (A.get h))(hx:∀x,B.has x→¬A.has x→x=c∨tx (B.get x)=0):CpT A B h:=⟨hold,[c],fun _=>h,fun x hx=>by rw[List.mem_singleton.1 hx];exact⟨hc,hn,hh,ht⟩,fun x hx y hy _=>by rw[List.mem_singleton.1 hx,List.mem_singleton.1 hy],by simp,fun ρ _ x _=>rfl,fun x h1 h2=>(hx x h1 h2).imp (fun e=>by simp[e]) id⟩
theorem dup_cp {A:Ar}(hA:A.Inv){h d:Int}{m:Nat}{deep:Bool}(hd:A.has d)(hk:(A.get d).Xa=1)(hh:A.has h)(hw:(A.Xi h).length≤m):CpT A (dupF A deep m A d h).2 h:=by
 cases deep with|true=>{by_cases h1:(A.get h).Xa=1;·{exact cp_copyR hA (XhU (d:=d) hA hA hh h1 hw)};·exact cp_copyR hA (Xaw hA m hA hd hk hh h1 hw)}|false=>cases m with|zero=>{have:=YL hA hh;omega}|succ m=>have hmid:XH A false m (A.Xj d (A.get h)) d h=(A.Xj d (A.get h)).2:=by{unfold XH;rw[if_neg (fun q=>by simp at q)]};rw[Y8,hmid,if_neg (by decide)];dsimp only;by_cases h1:(A.get h).Xa=1;·{have hal:A.Xj d (A.get h)=(A.n+1,A.Xn (A.get h).XI):=by{unfold Ar.Xj;rw[if_pos h1]};rw[hal];have hg:(A.Xn (A.get h).XI).get (A.n+1)={XL with Xa:=1,XI:=(A.get h).XI,doc:=A.n+1}:=by{rw[Ar.Xn,Ar.YS]};refine cp_one (fun x hx=>⟨(Ar.XO _ _ _).2 (.inl hx),Ar.Zb _ hx⟩) hh (c:=A.n+1) ((Ar.XO _ _ _).2 (.inr rfl)) (Ar.Xba A) (by rw[hg];exact Nat.zero_le _) (fun x g1 g2=>?_);exact .inl (((Ar.XO _ _ _).1 g1).resolve_left g2)};·obtain⟨n1,n2,n3⟩:=Xbu hA hA hd hk hh h1;generalize(A.Xj d (A.get h)).2=B at*;refine cp_one n2.old hh n2.has (Ar.Xba A) (Nat.le_of_eq (Xdq n2.Xcc).symm) (fun x g1 g2=>?_);rcases n3 with⟨z1,z2,z3⟩|⟨z1,cc,z2,z3,z4,z5,z6,z7,z8,z9⟩;·{rcases z3 x g1 g2 with q|q;·{exact .inl q};·exact .inr (tx_not5 (by rw[q.2.2];decide))};·rcases z9 x g1 g2 with q|q|q;·{exact .inl q};·{exact .inr (tx_not5 (by rw[q,z8];decide))};·exact .inr (tx_not5 (by rw[q.2.2];decide))
theorem clone_st {A:Ar}(hA:A.Inv)(h:Int)(deep:Bool)(hB:(A.Zx h deep).2.Inv){n c u:Nat}(hW:Wst A n c u):Wst (A.Zx h deep).2 n (c+1) u:=by
 unfold Ar.Zx at hB⊢
 split
 ·rename_i hh;rw[if_pos hh]at hB;obtain⟨h1,h2⟩:=hA.ZV h hh;exact cp_st hA hB hW hh (dup_cp hA h1 h2 hh (Z3 hA h))
 ·exact wst_more hW
theorem import_st {A:Ar}(hA:A.Inv)(d h:Int)(hB:(A.Zp A d h).2.Inv){n c u:Nat}(hW:Wst A n c u):Wst (A.Zp A d h).2 n (c+1) u:=by
 unfold Ar.Zp at hB⊢
 split
 ·rename_i hh;rw[if_pos hh]at hB;split;·{exact wst_more hW};·rename_i hq;rw[if_neg hq]at hB;rw[not_or]at hq;exact cp_st hA hB hW hh.2 (dup_cp hA hh.1 (Classical.not_not.1 hq.1) hh.2 (Z3 hA h))
 ·exact wst_more hW
end
section
theorem lab_mod {ρ:Int→Int}{A:Ar}(h:Lab ρ A)(x:Int){f:Nd→Nd}(h1:∀n,(f n).host=n.host)(h2:∀n,(f n).Xd=n.Xd):Lab ρ (A.mod x f):=by
 intro i n hi
 have hg:(A.mod x f).ns[i]?=if x.toNat-1=i then A.ns[i]?.map f else A.ns[i]?:=by show(A.ns.modify (x.toNat-1) f)[i]?=_;rw[List.getElem?_modify];split<;>simp_all
 rw[hg]at hi
 split at hi
 ·cases hq:A.ns[i]? with|none=>{rw[hq]at hi;simp at hi}|some m=>rw[hq]at hi;obtain rfl:f m=n:=by{simpa using hi};rw[h1,h2];exact h i m hq
 ·exact h i n hi
theorem lab_add {ρ:Int→Int}{A:Ar}(h:Lab ρ A){n:Nd}(h1:n.Xd=0)(h2:n.host=0):Lab ρ (A.add n):=by
 intro i m hi
 have hi:(A.ns++ [n])[i]?=some m:=hi
 by_cases e:i<A.ns.length
 ·rw[List.getElem?_append_left e]at hi;exact h i m hi
 ·rw[List.getElem?_append_right (by omega)]at hi;have:m=n:=by{rcases Nat.eq_zero_or_pos (i-A.ns.length)with q|q;·{rw[q]at hi;simpa using hi.symm};·rw[List.getElem?_eq_none (by simp;omega)]at hi;cases hi};subst this;exact⟨fun q=>absurd h1 q,fun q=>absurd h2 q⟩
theorem lab_setData {ρ:Int→Int}{A:Ar}(h:Lab ρ A)(x:Int)(s:ByteArray):Lab ρ (A.XG x s).2:=by
 unfold Ar.XG
 repeat' split
 all_goals first|(exact h)|exact lab_mod h x (fun _=>rfl) (fun _=>rfl)
theorem lab_const (A:Ar):Lab (fun _=>0) A:=fun i n _=>⟨fun _=>rfl,fun _=>rfl⟩
/-- A text is split in two. -/
structure SpT (A A' : Ar) (h z : Int) : Prop where
  has : A.has h
  new : ¬ A.has z
  zhas : A'.has z
  all : ∀ x, A'.has x ↔ A.has x ∨ x = z
  lab : ∀ ρ : Int → Int, Lab ρ A → ρ z = ρ h → Lab ρ A'
  keep : ∀ x, A.has x → x ≠ h → tx (A'.get x) ≤ tx (A.get x)
  two : tx (A'.get h) + tx (A'.get z) ≤ tx (A.get h)
theorem split_cases {A:Ar}(hI:A.Inv)(h at':Int):(A.split h at').2=A∨SpT A (A.split h at').2 h (A.n+1):=by
 unfold Ar.split
 split
 ·exact .inl rfl
 ·rename_i hh;have hh:=Classical.not_not.1 hh;split;·{exact .inl rfl};·rename_i hk;have hk:=Classical.not_not.1 hk;split;·{exact .inl rfl};·right;have hd:=hI.ZV h hh;have he:=J6 hd.1 hd.2;rw[Xb7 _ he];dsimp only;obtain⟨s1,hs1⟩:∃s:ByteArray,s=⟨((A.get h).data.toList.take at'.toNat).toArray⟩:=⟨_,rfl⟩;obtain⟨s2,hs2⟩:∃s:ByteArray,s=⟨((A.get h).data.toList.drop at'.toNat).toArray⟩:=⟨_,rfl⟩;have hsz:s1.size+s2.size=(A.get h).data.size:=by{rw[hs1,hs2];exact Xm6 _ _};rw[←hs1,←hs2];obtain⟨nd,hnd⟩:∃nd:Nd,nd={Xs s2 with doc:=(A.get h).doc}:=⟨_,rfl⟩;rw[←hnd];have hnp:nd.Xd=0:=by{rw[hnd];rfl};have hnh:nd.host=0:=by{rw[hnd];rfl};have hnk:nd.Xa=5:=by{rw[hnd];rfl};have hnt:nd.data=s2:=by{rw[hnd];rfl};clear hnd;have hz:=Ar.Xba A;have hne:A.n+1≠h:=fun e=>hz (e▸hh);have a1:(A.add nd).has h:=(Ar.XO _ _ _).2 (.inl hh);have a2:(A.add nd).has (A.n+1):=(Ar.XO _ _ _).2 (.inr rfl);have a3:((A.add nd).get h).Xa=5:=by{rw[Ar.Zb nd hh];exact hk};obtain⟨B,hB⟩:∃B,B=((A.add nd).XG h s1).2:=⟨_,rfl⟩;rw[←hB];have b1:∀x,B.has x↔A.has x∨x=A.n+1:=fun x=>by{rw[hB,Xhi,Ar.XO]};have b2:tx (B.get h)=s1.size:=by{rw[hB,Xe1 a1 a3 a1,tx5 (by exact a3)];show(if h=h then s1 else _).size=_;rw[if_pos rfl]};have b3:tx (B.get (A.n+1))=s2.size:=by{rw[hB,Xe1 a1 a3 a2,Ar.YS,tx5 (by exact hnk)];show(if A.n+1=h then s1 else nd.data).size=_;rw[if_neg hne,hnt]};have b4:∀x,A.has x→x≠h→tx (B.get x)=tx (A.get x):=fun x hx hxh=>by{rw[hB,Xe1 a1 a3 ((Ar.XO _ _ _).2 (.inl hx)),Ar.Zb nd hx,if_neg hxh];rfl};have b5:∀ρ:Int→Int,Lab ρ A→Lab ρ B:=fun ρ hL=>by{rw[hB];exact lab_setData (lab_add hL hnp hnh) _ _};clear hB;have hth:tx (A.get h)=(A.get h).data.size:=tx5 hk;split;·{rename_i hp;obtain⟨P,hP⟩:∃P,P=(B.put (A.get h).Xd (A.n+1) (B.next h)).2:=⟨_,rfl⟩;have k:=kp_put (z:=0) (lab_const B) (p:=(A.get h).Xd) (x:=A.n+1) (B.next h) (fun _=>rfl);rw[←hP]at k⊢;have kk:∀x,B.has x→P.has x∧tx (P.get x)≤tx (B.get x):=fun x hx=>by{obtain⟨q1,q2⟩:=k.has hx;refine⟨q1,q2.resolve_right (fun q=>?_)⟩;rw[q.1]at hx;exact Za _ hx};have hall:∀x,P.has x↔B.has x:=fun x=>by{have e1:=(JO B (A.get h).Xd (A.n+1) (B.next h)).2;rw[←hP]at e1;unfold Ar.has Ar.n;rw[e1]};refine⟨hh,hz,(kk _ ((b1 _).2 (.inr rfl))).1,fun x=>(hall x).trans (b1 x),fun ρ hL e=>?_,fun x hx hxh=>?_,?_⟩;·{rw[hP];exact(kp_put (z:=0) (b5 ρ hL) (B.next h) (fun _=>e.trans (lab_parent hL hh hp).symm)).lab};·{rw[←b4 x hx hxh];exact(kk x ((b1 x).2 (.inl hx))).2};·have e1:=(kk h ((b1 h).2 (.inl hh))).2;have e2:=(kk _ ((b1 (A.n+1)).2 (.inr rfl))).2;omega};·exact⟨hh,hz,(b1 _).2 (.inr rfl),b1,fun ρ hL _=>b5 ρ hL,fun x hx hxh=>Nat.le_of_eq (b4 x hx hxh),by omega⟩
theorem sumM_erase {m:Int→Nat}{z:Int}:∀{X:List Int},z∈X→sumM m X=m z+sumM m (X.erase z)
 | [],h=>by{cases h}
 |x::X,h=>by{by_cases e:x=z;·{subst e;rw[sumM_cons,List.erase_cons_head]};·have hz:z∈X:=(List.mem_cons.1 h).resolve_left (fun q=>e q.symm);rw[sumM_cons,sumM_erase hz,List.erase_cons_tail (by simpa using e),sumM_cons];omega}
theorem sp_types {A:Ar}{ρ ρ':Int→Int}{h z:Int}(hhz:h≠z)(he:∀x,x≠z→ρ' x=ρ x)(hz:ρ' z=ρ h):∀(T:List Ty)(a b:Nat),(∀t∈T,t.OK ρ)→(∀t∈T,z∉t.S)→a+b≤mT T h→∃T',Grew T T'∧(∀t∈T',t.OK ρ')∧(∀t'∈T',∀x∈t'.S,∃t∈T,x∈t.S∨(x=z∧h∈t.S))∧(∀x,x≠h→x≠z→mT T' x=mT T x)∧a≤mT T' h∧b≤mT T' z
 | [],a,b,_,_,hab=>by{have hab:a+b≤0:=hab;exact⟨[],.nil,fun t h=>(by cases h),fun t h=>(by cases h),fun _ _ _=>rfl,by omega,by omega⟩}
 |t::T,a,b,hT,hzS,hab=>by{have hab:a+b≤t.m h+mT T h:=hab;obtain⟨u,hu⟩:∃u,u=min a (t.m h):=⟨_,rfl⟩;obtain⟨v,hv⟩:∃v,v=min b (t.m h-u):=⟨_,rfl⟩;have ht:=hT t (by simp);have hzt:=hzS t (by simp);obtain⟨T',a1,a2,a3,a4,a5,a6⟩:=sp_types (A:=A) hhz he hz T (a-u) (b-v) (fun s hs=>hT s (by simp[hs])) (fun s hs=>hzS s (by simp[hs])) (by omega);have hsame:∀x∈t.S,ρ' x=ρ x:=fun x hx=>he x (fun e=>hzt (e▸hx));refine⟨⟨fun x=>if x=h then u else if x=z then v else t.m x,if h∈t.S then z::t.S else t.S,t.q+1,t.e⟩::T',.cons (by show t.q+1+t.e=_;omega) a1,fun s hs=>?_,fun s hs x hx=>?_,fun x hx1 hx2=>?_,?_,?_⟩;·{rcases List.mem_cons.1 hs with e|e;·{subst e;by_cases hS:h∈t.S;·{rw[if_pos hS];refine⟨List.nodup_cons.2 ⟨hzt,ht.nd⟩,?_,fun x hx=>?_,fun X hX hXS=>?_⟩;·{show(z::t.S).length≤t.q+1+(labs ρ' (z::t.S)).length;have:labs ρ' (z::t.S)=labs ρ' t.S:=by{show(if ρ' z∈t.S.map ρ' then labs ρ' t.S else _)=_;rw[if_pos (List.mem_map.2 ⟨h,hS,by rw[hsame h hS,hz]⟩)]};rw[this,labs_congr hsame,List.length_cons];have:=ht.pend;omega};·{show(if x=h then u else if x=z then v else t.m x)=0;have hx1:x≠z:=fun e=>hx (by rw[e];simp);have hx2:x∉t.S:=fun e=>hx (by simp[e]);rw[if_neg (fun e=>hx2 (by rw[e];exact hS)),if_neg hx1];exact ht.out x hx2};·show sumM (fun x=>if x=h then u else if x=z then v else t.m x) X*1000^(t.e+1)≤cc X.length*400*1273^t.e;have hle:∀Y:List Int,z∉Y→sumM (fun x=>if x=h then u else if x=z then v else t.m x) Y≤sumM t.m Y:=fun Y hY=>sumM_le (fun x hx=>by(try dsimp only);split;·{rename_i e;rw[e];omega};·rw[if_neg (fun e:x=z=>hY (by rw[←e];exact hx))];exact Nat.le_refl _);have hXS2:∀x∈X,x≠z→x∈t.S:=fun x hx e=>(List.mem_cons.1 (hXS x hx)).resolve_left e;by_cases hzX:z∈X;·{obtain⟨Y,hY⟩:∃Y,Y=X.erase z:=⟨_,rfl⟩;have hYn:Y.Nodup:=by{rw[hY];exact hX.erase z};have hYm:∀x,x∈Y↔x≠z∧x∈X:=fun x=>by{rw[hY];exact List.Nodup.mem_erase_iff hX};have hYl:Y.length+1=X.length:=by{rw[hY,List.length_erase_of_mem hzX];have:=List.length_pos_of_mem hzX;omega};have hYz:z∉Y:=fun q=>((hYm z).1 q).1 rfl;have hYS:∀x∈Y,x∈t.S:=fun x hx=>hXS2 x ((hYm x).1 hx).2 ((hYm x).1 hx).1;have e1:sumM (fun x=>if x=h then u else if x=z then v else t.m x) X=v+sumM (fun x=>if x=h then u else if x=z then v else t.m x) Y:=by{rw[sumM_erase hzX,←hY,if_neg (Ne.symm hhz),if_pos rfl]};by_cases hhY:h∈Y;·{have e2:sumM (fun x=>if x=h then u else if x=z then v else t.m x) Y+v≤sumM t.m Y:=by{rw[sumM_erase hhY,sumM_erase (m:=t.m) hhY,if_pos rfl];have:=hle (Y.erase h) (fun q=>hYz (List.mem_of_mem_erase q));omega};have:=ht.sum Y hYn hYS;exact Nat.le_trans (Nat.mul_le_mul_right _ (show _≤sumM t.m Y by omega)) (Nat.le_trans this (Nat.mul_le_mul_right _ (Nat.mul_le_mul_right _ (cc_mono (by omega)))))};·have:=ht.sum (h::Y) (List.nodup_cons.2 ⟨hhY,hYn⟩) (fun x hx=>by rcases List.mem_cons.1 hx with e|e;·{rw[e];exact hS};·exact hYS x e);rw[sumM_cons,List.length_cons,hYl]at this;have e3:=hle Y hYz;exact Nat.le_trans (Nat.mul_le_mul_right _ (show _≤t.m h+sumM t.m Y by omega)) this};·have:=ht.sum X hX (fun x hx=>hXS2 x hx (fun e=>hzX (e▸hx)));exact Nat.le_trans (Nat.mul_le_mul_right _ (hle X hzX)) this};·rw[if_neg hS];have hm0:t.m h=0:=ht.out h hS;have hsm:∀x,x∈t.S→(if x=h then u else if x=z then v else t.m x)=t.m x:=fun x hx=>by{rw[if_neg (fun e:x=h=>hS (by rw[←e];exact hx)),if_neg (fun e:x=z=>hzt (by rw[←e];exact hx))]};refine⟨ht.nd,?_,fun x hx=>?_,fun X hX hXS=>?_⟩;·{show t.S.length≤t.q+1+(labs ρ' t.S).length;rw[labs_congr hsame];have:=ht.pend;omega};·{show(if x=h then u else if x=z then v else t.m x)=0;have:=ht.out x hx;split;·{omega};·split;·{omega};·exact this};·show sumM (fun x=>if x=h then u else if x=z then v else t.m x) X*_≤_;rw[sumM_congr (m':=t.m) (fun x hx=>hsm x (hXS x hx))];exact ht.sum X hX hXS};·exact a2 s e};·{rcases List.mem_cons.1 hs with e|e;·{subst e;refine⟨t,by simp,?_⟩;dsimp only at hx;split at hx;·{rename_i hS;rcases List.mem_cons.1 hx with q|q;·{exact .inr ⟨q,hS⟩};·exact .inl q};·exact .inl hx};·obtain⟨r,hr,q⟩:=a3 s e x hx;exact⟨r,by simp[hr],q⟩};·{show(if x=h then u else if x=z then v else t.m x)+mT T' x=t.m x+mT T x;rw[if_neg hx1,if_neg hx2,a4 x hx1 hx2]};·{show a≤(if h=h then u else if h=z then v else t.m h)+mT T' h;rw[if_pos rfl];omega};·show b≤(if z=h then u else if z=z then v else t.m z)+mT T' z;rw[if_neg (Ne.symm hhz),if_pos rfl];omega}
theorem wst_up {A:Ar}{n c u:Nat}(h:Wst A n c u):Wst A (n+1) c u:=by
 obtain⟨h1,ρ,σ,Ω,h2,h3,h4,h5,h6,h7⟩:=h
 refine⟨h1,ρ,σ,Ω,h2,h3,h4,h5,h6,fun ω hω=>?_⟩
 obtain⟨T,q1,q2⟩:=h7 ω hω
 exact⟨T,q1.up,q2⟩
theorem sp_st {A A':Ar}{h z:Int}{n c u:Nat}(hI:A.Inv)(hW:Wst A n c u)(hS:SpT A A' h z):Wst A' (n+1) c u:=by
 obtain⟨huc,ρ,σ,Ω,hL,hsub,hne,hlen,hall,hcov⟩:=hW
 obtain⟨hh,hz,hz',hx',hlab,hkeep,htwo⟩:=hS
 have hhz:h≠z:=fun e=>hz (e▸hh)
 have hxz:∀x,A.has x→x≠z:=fun x hx e=>hz (e▸hx)
 obtain⟨ρ1,hρ1⟩:∃r:Int→Int,r=fun x=>if x=z then ρ h else ρ x:=⟨_,rfl⟩
 obtain⟨σ1,hσ1⟩:∃r:Int→Int,r=fun x=>if x=z then σ h else σ x:=⟨_,rfl⟩
 have r1:∀x,x≠z→ρ1 x=ρ x:=fun x hx=>by rw[hρ1];exact if_neg hx
 have r2:ρ1 z=ρ h:=by rw[hρ1];exact if_pos rfl
 have s1:∀x,x≠z→σ1 x=σ x:=fun x hx=>by rw[hσ1];exact if_neg hx
 have s2:σ1 z=σ h:=by rw[hσ1];exact if_pos rfl
 refine⟨huc,ρ1,σ1,Ω,hlab ρ1 (lab_link hI hL (fun x y hx hy e=>by rw[r1 x (hxz x hx),r1 y (hxz y hy),e])) (by rw[r2,r1 h hhz]),fun x y hx hy e=>?_,hne,hlen,fun x hx=>?_,fun ω hω=>?_⟩
 ·rcases(hx' x).1 hx with ax|ax;·{rcases(hx' y).1 hy with ay|ay;·{rw[r1 x (hxz x ax),r1 y (hxz y ay)]at e;rw[s1 x (hxz x ax),s1 y (hxz y ay)];exact hsub x y ax ay e};·rw[ay,r2,r1 x (hxz x ax)]at e;rw[ay,s2,s1 x (hxz x ax)];exact hsub x h ax hh e};·rcases(hx' y).1 hy with ay|ay;·{rw[ax,r2,r1 y (hxz y ay)]at e;rw[ax,s2,s1 y (hxz y ay)];exact hsub h y hh ay e};·rw[ax,ay]
 ·rcases(hx' x).1 hx with ax|ax;·{rw[s1 x (hxz x ax)];exact hall x ax};·rw[ax,s2];exact hall h hh
 ·obtain⟨T,hB,hC⟩:=hcov ω hω;have hzS:∀t∈T,z∉t.S:=fun t ht q=>hz (hC.sup t ht z q).1;by_cases e:σ h=ω;·{obtain⟨T',a1,a2,a3,a4,a5,a6⟩:=sp_types (A:=A) (ρ:=ρ) (ρ':=ρ1) hhz r1 r2 T (tx (A'.get h)) (tx (A'.get z)) hC.ok hzS (Nat.le_trans htwo (hC.cov h hh e));refine⟨T',hB.grown a1,⟨a2,fun t' ht' x hx=>?_,fun x hx hx2=>?_⟩⟩;·{obtain⟨t,ht,q⟩:=a3 t' ht' x hx;rcases q with q|⟨q,-⟩;·{obtain⟨v1,v2⟩:=hC.sup t ht x q;exact⟨(hx' x).2 (.inl v1),by rw[s1 x (hxz x v1)];exact v2⟩};·rw[q];exact⟨hz',by rw[s2];exact e⟩};·rcases(hx' x).1 hx with ax|ax;·{by_cases q:x=h;·{rw[q];exact a5};·rw[a4 x q (hxz x ax)];rw[s1 x (hxz x ax)]at hx2;exact Nat.le_trans (hkeep x ax q) (hC.cov x ax hx2)};·rw[ax];exact a6};·refine⟨T,hB.up,⟨fun t ht=>(hC.ok t ht).same (fun x hx=>r1 x (fun q=>hzS t ht (q▸hx))),fun t ht x hx=>?_,fun x hx hx2=>?_⟩⟩;·{obtain⟨v1,v2⟩:=hC.sup t ht x hx;exact⟨(hx' x).2 (.inl v1),by rw[s1 x (hxz x v1)];exact v2⟩};·rcases(hx' x).1 hx with ax|ax;·{rw[s1 x (hxz x ax)]at hx2;by_cases q:x=h;·{rw[q]at hx2;exact absurd hx2 e};·exact Nat.le_trans (hkeep x ax q) (hC.cov x ax hx2)};·rw[ax,s2]at hx2;exact absurd hx2 e
theorem split_st {A:Ar}(hI:A.Inv)(h at':Int){n c u:Nat}(hW:Wst A n c u):Wst (A.split h at').2 (n+1) c u:=by
 rcases split_cases hI h at' with q|q
 ·rw[q];exact wst_up hW
 ·exact sp_st hI hW q
end
end Go.Proofs.YtpicinjcmjaogaaGreatDoor
