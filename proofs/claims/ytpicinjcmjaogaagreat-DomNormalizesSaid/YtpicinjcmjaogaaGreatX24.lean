import Derived.Test.YtpicinjcmjaogaaGreatX23
set_option maxRecDepth 100000
set_option maxHeartbeats 4000000
set_option linter.unusedVariables false
namespace Go.Proofs.YtpicinjcmjaogaaGreat
section
theorem Xcg {A:Ar}{p:Int}(hI:A.Inv)(hp:A.has p):(A.empty p).Inv∧(A.empty p).n=A.n∧(A.empty p).Xh=A.Xh∧∀x,A.has x→((A.empty p).get x).Xa=(A.get x).Xa∧((A.empty p).get x).doc=(A.get x).doc:=by
 refine Ze (P:=fun B:Ar=>B.Inv∧B.n=A.n∧B.Xh=A.Xh∧∀x,A.has x→(B.get x).Xa=(A.get x).Xa∧(B.get x).doc=(A.get x).doc) ⟨hI,rfl,rfl,fun _ _=>⟨rfl,rfl⟩⟩ ?_
 rintro B x hx⟨q1,q2,q3,q4⟩
 have hx':=(XF hI hp hx).1
 have hhas:∀y,B.has y↔A.has y:=fun y=>by unfold Ar.has;rw[q2]
 refine⟨Ar.XC.cut q1 ((hhas x).2 hx'),(Ar.XaG B x).trans q2,(Ar.Z2 B x).trans q3,fun y hy=>?_⟩
 rw[Ar.Zc q1 ((hhas x).2 hx') ((hhas y).2 hy)]
 exact q4 y hy
theorem Xbw {A B:Ar}(h:A.n=B.n):A.ns.length=B.ns.length:=by
 unfold Ar.n at h
 omega
theorem XhJ (A:Ar)(p x c:Int):(A.put p x c).2.ns.length=A.ns.length:=(JO A p x c).2
theorem Xfk {A:Ar}(hI:A.Inv)(hT:A.XB 900)(x:OpD)(hx:x.Xb.length≤20):(A.Xo x).2.Inv∧(A.Xo x).2.ns.length≤(if x.Xa=31∨x.Xa=32 then 2*A.ns.length+1 else A.ns.length+3):=by
 have ins:∀p n c:Int,(A.XX p n c).2.Inv∧(A.XX p n c).2.ns.length≤A.ns.length+3:=by intro p n c;unfold Ar.XX;by_cases hv:A.Y4 p n c=0;·{rw[if_neg (fun e=>e hv)];unfold Ar.Y4 at hv;by_cases hh:A.has p∧A.has n∧(c≠0→A.has c);·{obtain⟨q1,q2⟩:=Xet (c:=if c=n then A.next n else c) hI hh.1 hh.2.1;exact⟨q1,by dsimp only;omega⟩};·rw[if_neg hh]at hv;exact absurd hv (by decide)};·rw[if_pos hv];exact⟨hI,by dsimp only;omega⟩
 have triv:A.Inv∧A.ns.length≤A.ns.length+3:=⟨hI,by omega⟩
 refine XcX (P:=fun r=>r.2.Inv∧r.2.ns.length≤(if x.Xa=31∨x.Xa=32 then 2*A.ns.length+1 else A.ns.length+3)) ?_ ?_ ?_ ?_ ?_ ?_ ?_ ?_ ?_ ?_ ?_ ?_ ?_ ?_ ?_ ?_<;>intro e
 ·rw[if_neg (by omega)];exact ins _ _ _
 ·rw[if_neg (by omega)];exact ins _ _ _
 ·rw[if_neg (by omega)];dsimp only;unfold Ar.YU;split;·{rename_i hh;split;·{exact triv};·obtain⟨q1,q2⟩:=Xet (p:=x.a) (n:=x.b) (c:=if A.next x.c=x.b then A.next x.b else A.next x.c) (Ar.XC.cut hI hh.2.2) ((Ar.X5 _ _ _).2 hh.1) ((Ar.X5 _ _ _).2 hh.2.1);exact⟨q1,by rw[Ar.YY]at q2;dsimp only;omega⟩};·exact triv
 ·rw[if_neg (by omega)];dsimp only;unfold Ar.Zo;split;·{rename_i hh;split;·{exact triv};·exact⟨Ar.XC.cut hI hh.2,by dsimp only;rw[Ar.YY];omega⟩};·exact triv
 ·rw[if_neg (by omega)];dsimp only;unfold Ar.XR;split;·{rename_i hh;exact⟨Ar.XC.cut hI hh,by dsimp only;rw[Ar.YY];omega⟩};·exact triv
 ·rw[if_neg (by omega)];dsimp only;unfold Ar.Yq;split;·{rename_i hh;split;·{exact triv};·split;·{exact triv};·obtain⟨q1,q2,q3,q4⟩:=Xcg hI hh.1;have hl:=Xbw q2;dsimp only;split;·{rename_i hn;have hhas:∀y,(A.empty x.a).has y↔A.has y:=fun y=>by{unfold Ar.has;rw[q2]};obtain⟨r1,r2⟩:=Xet (p:=x.a) (n:=x.b) (c:=0) q1 ((hhas _).2 hh.1) ((hhas _).2 (hh.2 hn));exact⟨r1,by omega⟩};·exact⟨q1,by omega⟩};·exact triv
 ·rw[if_neg (by omega)];dsimp only;unfold Ar.YV;split;·{rename_i hh;split;·{exact triv};·rename_i hk;obtain⟨q1,q2,q3⟩:=Xbk hI hh.1 hh.2 (Classical.not_not.1 (fun z=>hk (.inl z)));refine⟨q1,?_⟩;have g1:=Ar.Yv (A.YM x.a x.b) x.b;have g2:=Ar.Jk A x.b;dsimp only;omega};·exact triv
 ·rw[if_neg (by omega)];unfold Ar.Y0;split;·{exact triv};·split;·{exact triv};·exact⟨hI.element _ _ _ _ (by simp),Xkp _ _ _ _ _⟩
 ·rw[if_neg (by omega)];dsimp only;unfold Ar.YO;split;·{exact triv};·split;·{exact triv};·refine⟨hI.X0 _ _ (Nat.le_trans (XgL hT _ _ _ _) (by omega)),?_⟩;unfold Ar.X0;(repeat' split);all_goals first|(exact Nat.le_add_right _ _)|(dsimp only;rw[Xaj];omega)
 ·rw[if_neg (by omega)];dsimp only;unfold Ar.Yy;split;·{exact triv};·split;·{exact triv};·refine⟨hI.X0 _ _ (Nat.le_trans (List.length_eraseIdx_le _ _) (Nat.le_trans (Xc2 hT _) (by omega))),?_⟩;dsimp only;unfold Ar.X0;(repeat' split);all_goals first|(exact Nat.le_add_right _ _)|(dsimp only;rw[Xaj];omega)
 ·rw[if_pos (.inl e)];unfold Ar.Zx;split;·{rename_i hh;obtain⟨d1,d2⟩:=hI.ZV x.a hh;obtain⟨q1,q2⟩:=Xhh (deep:=x.Xe) hI hI d1 d2 hh (Z3 hI x.a);have:=Z3 hI x.a;exact⟨q1,by dsimp only;omega⟩};·exact⟨hI,by dsimp only;omega⟩
 ·rw[if_pos (.inr e)];unfold Ar.Zp;split;·{rename_i hh;split;·{exact⟨hI,by dsimp only;omega⟩};·rename_i hk;obtain⟨q1,q2⟩:=Xhh (deep:=true) hI hI hh.1 (Classical.not_not.1 (fun z=>hk (.inl z))) hh.2 (Z3 hI x.b);have:=Z3 hI x.b;exact⟨q1,by dsimp only;omega⟩};·exact⟨hI,by dsimp only;omega⟩
 ·rw[if_neg (by omega)];dsimp only;unfold Ar.YE;split;·{exact triv};·rename_i hh;have hh:=Classical.not_not.1 hh;split;·{exact⟨hI.XG _ _,by rw[(J7 _ _ _).2.1];omega⟩};·split;·{obtain⟨q1,q2,q3,q4⟩:=Xcg hI hh;have hl:=Xbw q2;split;·{exact⟨q1,by dsimp only;omega⟩};·dsimp only;refine⟨Ar.Inv.put (q1.make rfl rfl rfl rfl (JX _) (by simp[Xs]) (by simp[Xs])) _ _ _,?_⟩;rw[XhJ];have:=JM (A.empty x.a) ((A.empty x.a).get x.a).doc (Xs x.s);omega};·exact triv
 ·rw[if_neg (by omega)];obtain⟨q1,q2,-,-⟩:=Xfj hI x.a;exact⟨q1,by dsimp only;omega⟩
 ·rw[if_neg (by omega)];unfold Ar.split;split;·{exact triv};·split;·{exact triv};·split;·{exact triv};·dsimp only;have m1:(A.make (A.get x.a).doc (Xs ⟨((A.get x.a).data.toList.drop x.b.toNat).toArray⟩)).2.Inv:=hI.make rfl rfl rfl rfl (JX _) (by simp[Xs]) (by simp[Xs]);have m2:=JM A (A.get x.a).doc (Xs ⟨((A.get x.a).data.toList.drop x.b.toNat).toArray⟩);split;·{exact⟨Ar.Inv.put (m1.XG _ _) _ _ _,by rw[XhJ,(J7 _ _ _).2.1];exact m2⟩};·exact⟨m1.XG _ _,by rw[(J7 _ _ _).2.1];exact m2⟩
 ·rw[if_neg (by omega)];exact⟨hI.step x hx,XgA A x⟩
end
section
/-- While nodes of C are copied: the nodes of A0 are as they were. -/
structure Yr (A0 B : Ar) (d : Int) (X : Nat) : Prop where
  inv : B.Inv
  has : B.has d
  Xa : (B.get d).Xa = 1
  old : ∀ x, A0.has x → B.has x ∧ B.get x = A0.get x
  cap : B.cap d ≤ X
theorem Yr.step {C A0 B:Ar}(hC:C.Inv){d:Int}{X m:Nat}(hI:Yr A0 B d X){k c:Int}(hk:C.has k∧(C.get k).Xa≠1∧(C.get k).Xa≠2)(hw:(C.Xi k).length≤m)(hc:¬A0.has c)(hcB:B.has c)(hck:(B.get c).Xa=1∨(B.get c).Xa=2∨(B.get c).Xa=4):Yr A0 (XP (fun B k=>dupF C true m B d k) c B k) d (X+(C.Xi k).length)∧(XP (fun B k=>dupF C true m B d k) c B k).has c∧((XP (fun B k=>dupF C true m B d k) c B k).get c).Xa=(B.get c).Xa∧(∀x,B.Xu x≠0→(XP (fun B k=>dupF C true m B d k) c B k).Xu x≠0):=by
 obtain⟨K2,S⟩:=Xbv hC (rec:=fun B k=>dupF C true m B d k) (d:=d) (c:=c) [k] (B:=B) (fun B' k' hk' hB hd hkd=>by simp at hk';subst hk';exact Xaw hC m hB hd hkd hk.1 hk.2.1 hw) (fun k' hk'=>by simp at hk';subst hk';exact hk.2) hI.inv hI.has hI.Xa hcB (fun _=>hck)
 obtain⟨f1,f2⟩:=Xat (C:=C) (rec:=fun B k=>dupF C true m B d k) (d:=d) (c:=c) [k] (A:=B) (fun B' k' hk' hB hd hkd=>by simp at hk';subst hk';exact Jf hC m true hB hd hkd hk.1 hk.2.1 hw) hI.inv hI.has hI.Xa
 have e: [k].foldl (XP (fun B k=>dupF C true m B d k) c) B=XP (fun B k=>dupF C true m B d k) c B k:=rfl
 rw[e]at S f1 f2
 refine⟨⟨f1.inv,f1.has d hI.has,(f1.Xa d hI.has).trans hI.Xa,fun x hx=>?_,?_⟩,f1.has c hcB,f1.Xa c hcB,f1.Xh⟩
 ·obtain⟨h1,h2⟩:=hI.old x hx;obtain⟨s1,s2⟩:=S.old x h1;have hne:x≠c:=fun e=>hc (by rw[←e];exact hx);rw[if_neg hne]at s2;exact⟨s1,s2.trans h2⟩
 ·have:=hI.cap;simp at f2;omega
theorem Yr.fold {C A0 B:Ar}(hC:C.Inv){d:Int}{X m:Nat}(hI:Yr A0 B d X){c:Int}(hc:¬A0.has c)(hcB:B.has c)(ks:List Int)(hck:ks≠ []→(B.get c).Xa=1∨(B.get c).Xa=2∨(B.get c).Xa=4)(hk:∀k∈ks,C.has k∧(C.get k).Xa≠1∧(C.get k).Xa≠2∧(C.Xi k).length≤m):∀i,i≤ks.length→Yr A0 ((ks.take i).foldl (XP (fun B k=>dupF C true m B d k) c) B) d (X+((ks.take i).flatMap C.Xi).length)∧((ks.take i).foldl (XP (fun B k=>dupF C true m B d k) c) B).has c∧(((ks.take i).foldl (XP (fun B k=>dupF C true m B d k) c) B).get c).Xa=(B.get c).Xa∧(∀x,B.Xu x≠0→((ks.take i).foldl (XP (fun B k=>dupF C true m B d k) c) B).Xu x≠0)
 |0,_=>⟨by simpa using hI,hcB,rfl,fun _ h=>h⟩
 |i+1,hi=>by{obtain⟨k,hx⟩:∃k,ks[i]?=some k:=⟨_,List.getElem?_eq_getElem (by omega)⟩;have hkm:=List.mem_of_getElem? hx;have hne:ks≠ []:=fun e=>by{rw[e]at hkm;simp at hkm};obtain⟨p1,p2,p3,p4⟩:=Yr.fold hC hI hc hcB ks hck hk i (by omega);obtain⟨q1,q2,q3,q4⟩:=hk k hkm;obtain⟨r1,r2,r3,r4⟩:=p1.step hC ⟨q1,q2,q3⟩ q4 hc p2 (by rw[p3];exact hck hne);rw[List.take_add_one,hx];simp only[Option.toList_some,List.foldl_append,List.foldl_cons,List.foldl_nil,List.flatMap_append,List.flatMap_cons,List.flatMap_nil,List.append_nil,List.length_append];refine⟨?_,r2,r3.trans p3,fun x hx=>r4 x (p4 x hx)⟩;rw[←Nat.add_assoc];exact r1}
theorem Xch {C:Ar}{ks:List Int}{i:Nat}{k:Int}(hx:ks[i]?=some k):((ks.take i).flatMap C.Xi).length+(C.Xi k).length≤(ks.flatMap C.Xi).length:=by
 have:ks.take (i+1)=ks.take i++ [k]:=by rw[List.take_add_one,hx];rfl
 conv=>rhs;rw[←List.take_append_drop (i+1) ks,List.flatMap_append,this,List.flatMap_append]
 simp<;>omega
theorem ZO {C:Ar}(hC:C.Inv){h:Int}(hh:C.has h):((C.get h).Xc.flatMap C.Xi).length+1≤(C.Xi h).length:=by
 rw[Ym hC hh]
 simp<;>omega
theorem ZF {C:Ar}(hC:C.Inv){h:Int}{m:Nat}(hh:C.has h)(hw:(C.Xi h).length≤m+1):∀k∈(C.get h).Xc,C.has k∧(C.get k).Xa≠1∧(C.get k).Xa≠2∧(C.Xi k).length≤m:=fun k hk=>by{obtain⟨q1,q2,q3⟩:=XF hC hh hk;have h1:=hC.par k q1 (by rw[q3];have:=hh.1;omega);obtain⟨i,hi⟩:=List.getElem?_of_mem hk;have h2:=Xch (C:=C) hi;have h3:=ZO hC hh;exact⟨q1,h1.1,h1.2,by omega⟩}
theorem Yr.Xj {A C:Ar}{d h:Int}(hA:A.Inv)(hC:C.Inv)(hd:A.has d)(hk:(A.get d).Xa=1)(hh:C.has h)(h1:(C.get h).Xa≠1):Yr A (A.Xj d (C.get h)).2 d (A.cap d+(if(C.get h).Xg≠0 then 2 else 1))∧(A.Xj d (C.get h)).1=A.n+1∧(A.Xj d (C.get h)).2.has (A.n+1)∧((A.Xj d (C.get h)).2.get (A.n+1)).Xa=(C.get h).Xa:=by
 obtain⟨a1,a2,a3⟩:=Xbs hA hC hd hk hh h1
 obtain⟨n1,n2,n3⟩:=Xbu hA hC hd hk hh h1
 refine⟨⟨a1.inv,a1.has d hd,(a1.Xa d hd).trans hk,n2.old,?_⟩,n1,n2.has,n2.Xcc.1.symm⟩
 have:XN (C.get h)↔(C.get h).Xg≠0:=⟨fun q=>by have:=(hC.cont h hh (by have:=hh.1;omega) q).1.1;omega,fun q=>Classical.byContradiction fun t=>q (hC.YG h hh (.inr t))⟩
 by_cases q:(C.get h).Xg=0
 ·rw[if_neg (fun e=>e q)];rw[if_neg (fun e=>this.1 e q)]at a2;exact a2
 ·rw[if_pos q];rw[if_pos (this.2 q)]at a2;exact a2
theorem Yr.Xn {A:Ar}(hA:A.Inv)(q:Bool):Yr A (A.Xn q) (A.n+1) (A.ns.length+2)∧(A.Xn q).has (A.n+1)∧((A.Xn q).get (A.n+1)).Xa=1:=by
 have hnew:(A.Xn q).has (A.n+1):=(Ar.XO _ _ _).2 (.inr rfl)
 have hk:((A.Xn q).get (A.n+1)).Xa=1:=by unfold Ar.Xn;rw[Ar.YS]
 refine⟨⟨Ar.XC.Xn hA q,hnew,hk,fun x hx=>⟨(Ar.XO _ _ _).2 (.inl hx),Ar.Zb _ hx⟩,?_⟩,hnew,hk⟩
 have:=Ar.Jk (A.Xn q) (A.n+1)
 have h2:(A.Xn q).ns.length=A.ns.length+1:=by simp[Ar.Xn,Ar.add]
 omega
theorem JH {A:Ar}:¬A.has (A.n+1):=Ar.Xba A
end
section
theorem Xdw (A:Ar)(p n c:Int):(A.XX p n c).2.Xk≤A.Xk:=by
 unfold Ar.XX
 split
 ·exact Nat.le_refl _
 ·exact Xfg _ _ _ _
theorem Xic (A:Ar)(p n c:Int):(A.YU p n c).2.Xk≤A.Xk:=by
 unfold Ar.YU
 repeat' split
 all_goals first|(exact Nat.le_refl _)|exact Nat.le_trans (Xfg _ _ _ _) (J9 _ _)
theorem Xid (A:Ar)(p c:Int):(A.Zo p c).2.Xk≤A.Xk:=by
 unfold Ar.Zo
 repeat' split
 all_goals first|(exact Nat.le_refl _)|exact J9 _ _
theorem Xdx (A:Ar)(h:Int):(A.XR h).2.Xk≤A.Xk:=by
 unfold Ar.XR
 split
 all_goals first|(exact Nat.le_refl _)|exact J9 _ _
theorem Xie (A:Ar)(p n:Int):(A.Yq p n).2.Xk≤A.Xk:=by
 unfold Ar.Yq
 split
 ·split;·{exact Nat.le_refl _};·split;·{exact Nat.le_refl _};·dsimp only;split;·{exact Nat.le_trans (Xfg _ _ _ _) (Xdl _ _)};·exact Xdl _ _
 ·exact Nat.le_refl _
theorem Xif (A:Ar)(n d:Int):(A.YV n d).2.Xk≤A.Xk:=by
 unfold Ar.YV
 repeat' split
 all_goals first|(exact Nat.le_refl _)|exact Xff _ _ _ _
theorem Xig (A:Ar)(d:Int)(name:ByteArray):(A.Y0 d name).2.Xk≤A.Xk:=by
 unfold Ar.Y0
 repeat' split
 all_goals first|(exact Nat.le_refl _)|exact Xfd _ _ _ _ _
theorem Xih (A:Ar)(el s:Int)(name val:ByteArray):(A.YO el s name val).2.Xk≤A.Xk:=by
 unfold Ar.YO
 repeat' split
 all_goals first|(exact Nat.le_refl _)|exact Xdk _ _ _
theorem Xii (A:Ar)(el s:Int)(name:ByteArray):(A.Yy el s name).2.Xk≤A.Xk:=by
 unfold Ar.Yy
 repeat' split
 all_goals first|(exact Nat.le_refl _)|exact Xdk _ _ _
theorem Xm5 (A:Ar)(h:Int)(s:ByteArray):(A.YE h s).2.Xk≤A.Xk+s.size:=by
 unfold Ar.YE
 split
 ·exact Nat.le_add_right _ _
 ·split;·{exact XhE _ _ _};·split;·{split;·{exact Nat.le_trans (Xdl _ _) (Nat.le_add_right _ _)};·dsimp only;refine Nat.le_trans (Xcf _ _ _ _) (Nat.le_trans (Xaa _ _ _) ?_);have h1:=Xdl A h;have h2:tx (Xs s)=s.size:=rfl;omega};·exact Nat.le_add_right _ _
theorem Xm6 (s:ByteArray)(n:Nat):(⟨(s.toList.take n).toArray⟩:ByteArray).size+(⟨(s.toList.drop n).toArray⟩:ByteArray).size=s.size:=by
 show(s.toList.take n).toArray.size+(s.toList.drop n).toArray.size=_
 rw[List.size_toArray,List.size_toArray,←List.length_append,List.take_append_drop,Go.ByteArray.toList_eq]
 rfl
theorem Xij {A:Ar}(h at':Int):(A.split h at').2.Xk≤A.Xk:=by
 unfold Ar.split
 split
 ·exact Nat.le_refl _
 ·rename_i hh;have hh:=Classical.not_not.1 hh;split;·{exact Nat.le_refl _};·rename_i hk;have hk:=Classical.not_not.1 hk;split;·{exact Nat.le_refl _};·dsimp only;have m1:=Xaa A (A.get h).doc (Xs ⟨((A.get h).data.toList.drop at'.toNat).toArray⟩);have e0:tx (Xs ⟨((A.get h).data.toList.drop at'.toNat).toArray⟩)=(⟨((A.get h).data.toList.drop at'.toNat).toArray⟩:ByteArray).size:=rfl;rw[e0]at m1;have e1:=Xm6 (A.get h).data at'.toNat;have hold:(A.make (A.get h).doc (Xs ⟨((A.get h).data.toList.drop at'.toNat).toArray⟩)).2.has h∧(A.make (A.get h).doc (Xs ⟨((A.get h).data.toList.drop at'.toNat).toArray⟩)).2.get h=A.get h:=by{unfold Ar.make;split;·{exact⟨hh,rfl⟩};·exact⟨(Ar.XO _ _ _).2 (.inl hh),Ar.Zb _ hh⟩};have m2:=Xfe (A:=(A.make (A.get h).doc (Xs ⟨((A.get h).data.toList.drop at'.toNat).toArray⟩)).2) (x:=h) ⟨((A.get h).data.toList.take at'.toNat).toArray⟩ hold.1 (by rw[hold.2];exact hk);rw[hold.2]at m2;split;·{refine Nat.le_trans (Xcf _ _ _ _) ?_;omega};·omega
theorem Xm7 {A:Ar}{x:OpD}(hx:ZC x):(A.step x).2.Xk≤A.Xk+400:=by
 obtain⟨s1,s2,s3,-⟩:=hx
 have triv:A.Xk≤A.Xk+400:=Nat.le_add_right _ _
 refine XbS (P:=fun r=>r.2.Xk≤A.Xk+400) ?_ ?_ ?_ ?_ ?_ ?_ ?_ ?_ ?_ ?_ ?_ ?_ ?_ ?_<;>intro _
 ·exact Nat.le_trans (Xfb _ _) triv
 ·exact Nat.le_trans (Xaa _ _ _) triv
 ·exact Nat.le_trans (Xfd _ _ _ _ _) triv
 ·refine Nat.le_trans (Xaa _ _ _) ?_;have:tx (Xs x.s)=x.s.size:=rfl;omega
 ·exact Nat.le_trans (Xaa _ _ _) triv
 ·exact Nat.le_trans (Xaa _ _ _) triv
 ·exact Nat.le_trans (XhD _ _) triv
 ·exact Nat.le_trans (Xcf _ _ _ _) triv
 ·exact Nat.le_trans (Xdx _ _) triv
 ·exact Nat.le_trans (XhE _ _ _) (by omega)
 ·exact Nat.le_trans (Xdk _ _ _) triv
 ·exact Nat.le_trans (XhG _ _ _) triv
 ·exact Nat.le_trans (Xdj _ _ _) triv
 ·exact triv
theorem Xa3 (x:Int):¬Ar.new.has x:=fun h=>by{have:=h.1;have:=h.2;unfold Ar.n Ar.new at*;simp at*;omega}
theorem Xm8 (x:OpD):(Ar.new.step x).2.Xk≤0:=by
 have hd:∀d,Ar.new.XA d≠0:=fun d=>by unfold Ar.XA;rw[if_pos (Xa3 d)];decide
 refine XbS (P:=fun r=>r.2.Xk≤0) ?_ ?_ ?_ ?_ ?_ ?_ ?_ ?_ ?_ ?_ ?_ ?_ ?_ ?_<;>intro _
 ·exact Xfb _ _
 ·exact Xaa _ _ _
 ·exact Xfd _ _ _ _ _
 ·unfold Ar.make;rw[if_pos (hd _)];exact Nat.le_refl _
 ·exact Xaa _ _ _
 ·exact Xaa _ _ _
 ·exact XhD _ _
 ·exact Xcf _ _ _ _
 ·exact Xdx _ _
 ·unfold Ar.XG;rw[if_pos (Xa3 _)];exact Nat.le_refl _
 ·exact Xdk _ _ _
 ·exact XhG _ _ _
 ·exact Xdj _ _ _
 ·exact Nat.le_refl _
theorem Xm9 {A:Ar}(hI:A.Inv){x:OpD}(hx:ZC x):(x.Xa=34→(A.Xo x).2.Xk+(A.Xo x).2.X9≤A.Xk+A.X9)∧(x.Xa=31∨x.Xa=32→(A.Xo x).2.Xk≤2*A.Xk∧(A.Xo x).2.Xk+(A.Xo x).2.X9≤2*(A.Xk+A.X9))∧(x.Xa≠34→¬(x.Xa=31∨x.Xa=32)→(A.Xo x).2.Xk≤A.Xk+400):=by
 have s2:=hx.2.1
 have other:∀{B:Ar},x.Xa≠34→¬(x.Xa=31∨x.Xa=32)→B.Xk≤A.Xk+400→(x.Xa=34→B.Xk+B.X9≤A.Xk+A.X9)∧(x.Xa=31∨x.Xa=32→B.Xk≤2*A.Xk∧B.Xk+B.X9≤2*(A.Xk+A.X9))∧(x.Xa≠34→¬(x.Xa=31∨x.Xa=32)→B.Xk≤A.Xk+400):=fun h1 h2 h3=>⟨fun h=>absurd h h1,fun h=>absurd h h2,fun _ _=>h3⟩
 have copy:∀{B:Ar},x.Xa=31∨x.Xa=32→(B.Xk≤A.Xk+A.Xk∧B.Xk+B.X9≤(A.Xk+A.X9)+(A.Xk+A.X9))→(x.Xa=34→B.Xk+B.X9≤A.Xk+A.X9)∧(x.Xa=31∨x.Xa=32→B.Xk≤2*A.Xk∧B.Xk+B.X9≤2*(A.Xk+A.X9))∧(x.Xa≠34→¬(x.Xa=31∨x.Xa=32)→B.Xk≤A.Xk+400):=fun h1 h2=>⟨fun h=>by omega,fun _=>by omega,fun _ h=>absurd h1 h⟩
 have triv:∀{n:Nat},n≤A.Xk→n≤A.Xk+400:=fun h=>Nat.le_trans h (Nat.le_add_right _ _)
 refine XcX (P:=fun r=>(x.Xa=34→r.2.Xk+r.2.X9≤A.Xk+A.X9)∧(x.Xa=31∨x.Xa=32→r.2.Xk≤2*A.Xk∧r.2.Xk+r.2.X9≤2*(A.Xk+A.X9))∧(x.Xa≠34→¬(x.Xa=31∨x.Xa=32)→r.2.Xk≤A.Xk+400)) ?_ ?_ ?_ ?_ ?_ ?_ ?_ ?_ ?_ ?_ ?_ ?_ ?_ ?_ ?_ ?_<;>intro e
 ·exact other (by omega) (by omega) (triv (Xdw _ _ _ _))
 ·exact other (by omega) (by omega) (triv (Xdw _ _ _ _))
 ·exact other (by omega) (by omega) (triv (Xic _ _ _ _))
 ·exact other (by omega) (by omega) (triv (Xid _ _ _))
 ·exact other (by omega) (by omega) (triv (Xdx _ _))
 ·exact other (by omega) (by omega) (triv (Xie _ _ _))
 ·exact other (by omega) (by omega) (triv (Xif _ _ _))
 ·exact other (by omega) (by omega) (triv (Xig _ _ _))
 ·exact other (by omega) (by omega) (triv (Xih _ _ _ _ _))
 ·exact other (by omega) (by omega) (triv (Xii _ _ _ _))
 ·refine copy (.inl e) ?_;unfold Ar.Zx;split;·{rename_i hh;obtain⟨d1,d2⟩:=hI.ZV x.a hh;exact XhV hI hI d1 d2 hh (Z3 hI x.a)};·exact⟨Nat.le_add_right _ _,Nat.le_add_right _ _⟩
 ·refine copy (.inr e) ?_;unfold Ar.Zp;split;·{rename_i hh;split;·{exact⟨Nat.le_add_right _ _,Nat.le_add_right _ _⟩};·rename_i hk;exact XhV hI hI hh.1 (Classical.not_not.1 (fun z=>hk (.inl z))) hh.2 (Z3 hI x.b)};·exact⟨Nat.le_add_right _ _,Nat.le_add_right _ _⟩
 ·exact other (by omega) (by omega) (Nat.le_trans (Xm5 _ _ _) (by omega))
 ·exact⟨fun _=>(Xfj hI x.a).2.2.2,fun h=>by omega,fun h=>absurd e h⟩
 ·exact other (by omega) (by omega) (triv (Xij _ _))
 ·exact other (by omega) (by omega) (Xm7 hx)
theorem Xna {x:OpD}(hx:ZC x):(Ar.new.Xo x).2.Xk=0:=by
 have z:∀{n:Nat},n≤Ar.new.Xk→n=0:=fun h=>Nat.le_zero.1 h
 refine XcX (P:=fun r=>r.2.Xk=0) ?_ ?_ ?_ ?_ ?_ ?_ ?_ ?_ ?_ ?_ ?_ ?_ ?_ ?_ ?_ ?_<;>intro e
 ·exact z (Xdw _ _ _ _)
 ·exact z (Xdw _ _ _ _)
 ·exact z (Xic _ _ _ _)
 ·exact z (Xid _ _ _)
 ·exact z (Xdx _ _)
 ·exact z (Xie _ _ _)
 ·exact z (Xif _ _ _)
 ·exact z (Xig _ _ _)
 ·exact z (Xih _ _ _ _ _)
 ·exact z (Xii _ _ _ _)
 ·unfold Ar.Zx;rw[if_neg (Xa3 _)];rfl
 ·unfold Ar.Zp;rw[if_neg (fun h=>Xa3 _ h.1)];rfl
 ·unfold Ar.YE;rw[if_pos (Xa3 _)];rfl
 ·unfold Ar.normalize;rw[if_neg (Xa3 _)];rfl
 ·exact z (Xij _ _)
 ·exact Nat.le_zero.1 (Xm8 x)
end
end Go.Proofs.YtpicinjcmjaogaaGreat
