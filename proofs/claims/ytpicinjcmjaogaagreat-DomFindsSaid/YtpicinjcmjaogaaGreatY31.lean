import Derived.Test.YtpicinjcmjaogaaGreatY30
set_option maxRecDepth 100000
set_option maxHeartbeats 4000000
set_option linter.unusedVariables false
namespace Go.Proofs.YtpicinjcmjaogaaGreat
variable{A C B:Ar}{h y m:Int}
section
theorem Xdw (A:Ar)(p n c:Int):(A.XX p n c).2.Xk<=A.Xk:=by
 unfold Ar.XX
 split
 ·exact Nat.le_refl _
 ·exact Xfg _ _ _ _
theorem Xic (A:Ar)(p n c:Int):(A.YU p n c).2.Xk<=A.Xk:=by
 unfold Ar.YU
 repeat' split
 all_goals first|(exact Nat.le_refl _)|exact Nat.le_trans (Xfg _ _ _ _) (J9 _ _)
theorem Xid (A:Ar)(p c:Int):(A.Zo p c).2.Xk<=A.Xk:=by
 unfold Ar.Zo
 repeat' split
 all_goals first|(exact Nat.le_refl _)|exact J9 _ _
theorem Xdx (A:Ar)(h:Int):(A.XR h).2.Xk<=A.Xk:=by
 unfold Ar.XR
 split
 all_goals first|(exact Nat.le_refl _)|exact J9 _ _
theorem Xie (A:Ar)(p n:Int):(A.Yq p n).2.Xk<=A.Xk:=by
 unfold Ar.Yq
 split
 ·split;{exact Nat.le_refl _};·split;{exact Nat.le_refl _};·dsimp only;split;{exact Nat.le_trans (Xfg _ _ _ _) (Xdl _ _)};·exact Xdl _ _
 ·exact Nat.le_refl _
theorem Xif (A:Ar)(n d:Int):(A.YV n d).2.Xk<=A.Xk:=by
 unfold Ar.YV
 repeat' split
 all_goals first|(exact Nat.le_refl _)|exact Xff _ _ _ _
theorem Xig (A:Ar)(d:Int)(name:ByteArray):(A.Y0 d name).2.Xk<=A.Xk:=by
 unfold Ar.Y0
 repeat' split
 all_goals first|(exact Nat.le_refl _)|exact Xfd _ _ _ _ _
theorem Xih (A:Ar)(el s:Int)(name val:ByteArray):(A.YO el s name val).2.Xk<=A.Xk:=by
 unfold Ar.YO
 repeat' split
 all_goals first|(exact Nat.le_refl _)|exact Xdk _ _ _
theorem Xii (A:Ar)(el s:Int)(name:ByteArray):(A.Yy el s name).2.Xk<=A.Xk:=by
 unfold Ar.Yy
 repeat' split
 all_goals first|(exact Nat.le_refl _)|exact Xdk _ _ _
theorem Xm5 (A:Ar)(h:Int)(s:ByteArray):(A.YE h s).2.Xk<=A.Xk+s.size:=by
 unfold Ar.YE
 split
 ·exact Nat.le_add_right _ _
 ·split;{exact XhE _ _ _};·split;{split;{exact Nat.le_trans (Xdl _ _) (Nat.le_add_right _ _)};·dsimp only;refine Nat.le_trans (Xcf _ _ _ _) (Nat.le_trans (Xaa _ _ _) ?_);have h1:=Xdl A h;have h2:tx (Xs s)=s.size:=rfl;omega};·exact Nat.le_add_right _ _
theorem Xm6 (s:ByteArray)(n:Nat):(⟨(s.toList.take n).toArray⟩:ByteArray).size+(⟨(s.toList.drop n).toArray⟩:ByteArray).size=s.size:=by
 show(s.toList.take n).toArray.size+(s.toList.drop n).toArray.size=_
 rw[List.size_toArray,List.size_toArray,<-List.length_append,List.take_append_drop,Go.ByteArray.toList_eq]
 rfl
theorem Xij (h at':Int):(A.split h at').2.Xk<=A.Xk:=by
 unfold Ar.split
 split
 ·exact Nat.le_refl _
 ·rename_i hh;have hh:=Classical.not_not.1 hh;split;{exact Nat.le_refl _};·rename_i hk;have hk:=Classical.not_not.1 hk;split;{exact Nat.le_refl _};·dsimp only;have m1:=Xaa A (A.get h).doc (Xs ⟨((A.get h).data.toList.drop at'.toNat).toArray⟩);have e0:tx (Xs ⟨((A.get h).data.toList.drop at'.toNat).toArray⟩)=(⟨((A.get h).data.toList.drop at'.toNat).toArray⟩:ByteArray).size:=rfl;rw[e0]at m1;have e1:=Xm6 (A.get h).data at'.toNat;have hold:(A.make (A.get h).doc (Xs ⟨((A.get h).data.toList.drop at'.toNat).toArray⟩)).2.has h/\(A.make (A.get h).doc (Xs ⟨((A.get h).data.toList.drop at'.toNat).toArray⟩)).2.get h=A.get h:=by{unfold Ar.make;split;{exact⟨hh,rfl⟩};·exact⟨(Ar.XO _ _ _).2 (.inl hh),Ar.Zb _ hh⟩};have m2:=Xfe (A:=(A.make (A.get h).doc (Xs ⟨((A.get h).data.toList.drop at'.toNat).toArray⟩)).2) (x:=h) ⟨((A.get h).data.toList.take at'.toNat).toArray⟩ hold.1 (by rw[hold.2];exact hk);rw[hold.2]at m2;split;{refine Nat.le_trans (Xcf _ _ _ _) ?_;omega};·omega
theorem Xm7 {x:OpD}(hx:ZC x):(A.step x).2.Xk<=A.Xk+400:=by
 obtain⟨s1,s2,s3,-⟩:=hx
 have triv:A.Xk<=A.Xk+400:=Nat.le_add_right _ _
 refine XbS (P:=λr=>r.2.Xk<=A.Xk+400) ?_ ?_ ?_ ?_ ?_ ?_ ?_ ?_ ?_ ?_ ?_ ?_ ?_ ?_<;>intro _
 ·exact Nat.le_trans (Xfb _ _) triv
 ·exact Nat.le_trans (Xaa _ _ _) triv
 ·exact Nat.le_trans (Xfd _ _ _ _ _) triv
 ·refine Nat.le_trans (Xaa _ _ _) ?_;have:tx (Xs x.s)=x.s.size:=rfl;omega
 ·exact Nat.le_trans (Xaa _ _ _) triv
 ·exact Nat.le_trans (Xaa _ _ _) triv
 ·exact Nat.le_trans (XhD _ _) triv
 ·exact Nat.le_trans (Xcf _ _ _ _) triv
 ·exact Nat.le_trans (Xdx _ _) triv
 ·exact Nat.le_trans (XhE _ _ _) (by omega)
 ·exact Nat.le_trans (Xdk _ _ _) triv
 ·exact Nat.le_trans (XhG _ _ _) triv
 ·exact Nat.le_trans (Xdj _ _ _) triv
 ·exact triv
theorem Xa3 (x:Int):¬Ar.new.has x:=λh=>by{have:=h.1;have:=h.2;unfold Ar.n Ar.new at*;simp at*;omega}
theorem Xm8 (x:OpD):(Ar.new.step x).2.Xk<=0:=by
 have hd:∀d,Ar.new.XA d≠0:=λd=>by unfold Ar.XA;rw[if_pos (Xa3 d)];decide
 refine XbS (P:=λr=>r.2.Xk<=0) ?_ ?_ ?_ ?_ ?_ ?_ ?_ ?_ ?_ ?_ ?_ ?_ ?_ ?_<;>intro _
 ·exact Xfb _ _
 ·exact Xaa _ _ _
 ·exact Xfd _ _ _ _ _
 ·unfold Ar.make;rw[if_pos (hd _)];exact Nat.le_refl _
 ·exact Xaa _ _ _
 ·exact Xaa _ _ _
 ·exact XhD _ _
 ·exact Xcf _ _ _ _
 ·exact Xdx _ _
 ·unfold Ar.XG;rw[if_pos (Xa3 _)];exact Nat.le_refl _
 ·exact Xdk _ _ _
 ·exact XhG _ _ _
 ·exact Xdj _ _ _
 ·exact Nat.le_refl _
theorem Xm9 (hI:A.Inv){x:OpD}(hx:ZC x):(x.Xa=34->(A.Xo x).2.Xk+(A.Xo x).2.X9<=A.Xk+A.X9)/\(x.Xa=31\/x.Xa=32->(A.Xo x).2.Xk<=2*A.Xk/\(A.Xo x).2.Xk+(A.Xo x).2.X9<=2*(A.Xk+A.X9))/\(x.Xa≠34->¬(x.Xa=31\/x.Xa=32)->(A.Xo x).2.Xk<=A.Xk+400):=by
 have s2:=hx.2.1
 have other:∀{B:Ar},x.Xa≠34->¬(x.Xa=31\/x.Xa=32)->B.Xk<=A.Xk+400->(x.Xa=34->B.Xk+B.X9<=A.Xk+A.X9)/\(x.Xa=31\/x.Xa=32->B.Xk<=2*A.Xk/\B.Xk+B.X9<=2*(A.Xk+A.X9))/\(x.Xa≠34->¬(x.Xa=31\/x.Xa=32)->B.Xk<=A.Xk+400):=λh1 h2 h3=>⟨λh=>absurd h h1,λh=>absurd h h2,λ_ _=>h3⟩
 have copy:∀{B:Ar},x.Xa=31\/x.Xa=32->(B.Xk<=A.Xk+A.Xk/\B.Xk+B.X9<=(A.Xk+A.X9)+(A.Xk+A.X9))->(x.Xa=34->B.Xk+B.X9<=A.Xk+A.X9)/\(x.Xa=31\/x.Xa=32->B.Xk<=2*A.Xk/\B.Xk+B.X9<=2*(A.Xk+A.X9))/\(x.Xa≠34->¬(x.Xa=31\/x.Xa=32)->B.Xk<=A.Xk+400):=λh1 h2=>⟨λh=>by omega,λ_=>by omega,λ_ h=>absurd h1 h⟩
 have triv:∀{n:Nat},n<=A.Xk->n<=A.Xk+400:=λh=>Nat.le_trans h (Nat.le_add_right _ _)
 refine XcX (P:=λr=>(x.Xa=34->r.2.Xk+r.2.X9<=A.Xk+A.X9)/\(x.Xa=31\/x.Xa=32->r.2.Xk<=2*A.Xk/\r.2.Xk+r.2.X9<=2*(A.Xk+A.X9))/\(x.Xa≠34->¬(x.Xa=31\/x.Xa=32)->r.2.Xk<=A.Xk+400)) ?_ ?_ ?_ ?_ ?_ ?_ ?_ ?_ ?_ ?_ ?_ ?_ ?_ ?_ ?_ ?_<;>intro e
 ·exact other (by omega) (by omega) (triv (Xdw _ _ _ _))
 ·exact other (by omega) (by omega) (triv (Xdw _ _ _ _))
 ·exact other (by omega) (by omega) (triv (Xic _ _ _ _))
 ·exact other (by omega) (by omega) (triv (Xid _ _ _))
 ·exact other (by omega) (by omega) (triv (Xdx _ _))
 ·exact other (by omega) (by omega) (triv (Xie _ _ _))
 ·exact other (by omega) (by omega) (triv (Xif _ _ _))
 ·exact other (by omega) (by omega) (triv (Xig _ _ _))
 ·exact other (by omega) (by omega) (triv (Xih _ _ _ _ _))
 ·exact other (by omega) (by omega) (triv (Xii _ _ _ _))
 ·refine copy (.inl e) ?_;unfold Ar.Zx;split;{rename_i hh;obtain⟨d1,d2⟩:=hI.ZV x.a hh;exact XhV hI hI d1 d2 hh (Z3 hI x.a)};·exact⟨Nat.le_add_right _ _,Nat.le_add_right _ _⟩
 ·refine copy (.inr e) ?_;unfold Ar.Zp;split;{rename_i hh;split;{exact⟨Nat.le_add_right _ _,Nat.le_add_right _ _⟩};·rename_i hk;exact XhV hI hI hh.1 (Classical.not_not.1 (λz=>hk (.inl z))) hh.2 (Z3 hI x.b)};·exact⟨Nat.le_add_right _ _,Nat.le_add_right _ _⟩
 ·exact other (by omega) (by omega) (Nat.le_trans (Xm5 _ _ _) (by omega))
 ·exact⟨λ_=>(Xfj hI x.a).2.2.2,λh=>by omega,λh=>absurd e h⟩
 ·exact other (by omega) (by omega) (triv (Xij _ _))
 ·exact other (by omega) (by omega) (Xm7 hx)
theorem Xna {x:OpD}(hx:ZC x):(Ar.new.Xo x).2.Xk=0:=by
 have z:∀{n:Nat},n<=Ar.new.Xk->n=0:=λh=>Nat.le_zero.1 h
 refine XcX (P:=λr=>r.2.Xk=0) ?_ ?_ ?_ ?_ ?_ ?_ ?_ ?_ ?_ ?_ ?_ ?_ ?_ ?_ ?_ ?_<;>intro e
 ·exact z (Xdw _ _ _ _)
 ·exact z (Xdw _ _ _ _)
 ·exact z (Xic _ _ _ _)
 ·exact z (Xid _ _ _)
 ·exact z (Xdx _ _)
 ·exact z (Xie _ _ _)
 ·exact z (Xif _ _ _)
 ·exact z (Xig _ _ _)
 ·exact z (Xih _ _ _ _ _)
 ·exact z (Xii _ _ _ _)
 ·unfold Ar.Zx;rw[if_neg (Xa3 _)];rfl
 ·unfold Ar.Zp;rw[if_neg (λh=>Xa3 _ h.1)];rfl
 ·unfold Ar.YE;rw[if_pos (Xa3 _)];rfl
 ·unfold Ar.normalize;rw[if_neg (Xa3 _)];rfl
 ·exact z (Xij _ _)
 ·exact Nat.le_zero.1 (Xm8 x)
end
section
/-- What a text of a joined row will say. -/
def jtx (A : Ar) (J : List (Int × ByteArray)) (k : Int) : Nat := if (A.get k).Xa = 5 then ((J.lookup k).getD (A.get k).data).size else 0
theorem Xnb {f k:Int}{d:ByteArray}{J:List (Int×ByteArray)}(h:k≠f):((if f≠0 then [(f,d)]else [])++J).lookup k=J.lookup k:=by
 by_cases q:f=0
 ·rw[if_neg (λz=>z q)];rfl
 ·rw[if_pos q];have:(k==f)=false:=by{simp[h]};simp[List.lookup,this]
theorem Xdy {A:Ar}:∀(l:List Int)(f:Int)(d:ByteArray),l.Nodup->(∀k∈l,k≠0/\k≠f)->((jk A f d l).1.map (jtx A (jk A f d l).2)).sum+(if f≠0 then(((jk A f d l).2.lookup f).getD (A.get f).data).size else 0)<=(if f≠0 then d.size else 0)+(l.map (λk=>tx (A.get k))).sum
 | [],f,d,_,_=>by{unfold jk;by_cases q:f=0;{simp[q]};·simp[q]}
 |k::l,f,d,hn,h=>by{rw[List.nodup_cons]at hn;have hk:=h k (by simp);have h':∀k'∈l,k'≠0/\k'≠f:=λk' hk'=>h k' (by simp[hk']);have h0:∀k'∈l,k'≠0/\k'≠0:=λk' hk'=>⟨(h' k' hk').1,(h' k' hk').1⟩;have hkk:∀k'∈l,k'≠0/\k'≠k:=λk' hk'=>⟨(h' k' hk').1,λe=>hn.1 (e▸hk')⟩;by_cases h5:(A.get k).Xa=5;{have htx:tx (A.get k)=(A.get k).data.size:=by{unfold tx;rw[if_pos h5]};by_cases hf:f=0/\(A.get k).data≠ByteArray.empty;{have e:jk A f d (k::l)=(k::(jk A k (A.get k).data l).1,(jk A k (A.get k).data l).2):=by{rw[jk,if_neg (λq=>q h5),if_pos hf]};rw[e];have ih:=Xdy (A:=A) l k (A.get k).data hn.2 hkk;rw[if_pos hk.1,if_pos hk.1]at ih;rw[if_neg (λq=>q hf.1),if_neg (λq=>q hf.1)];simp only[List.map_cons,List.sum_cons];have e2:jtx A (jk A k (A.get k).data l).2 k=(((jk A k (A.get k).data l).2.lookup k).getD (A.get k).data).size:=by{unfold jtx;rw[if_pos h5]};rw[e2,htx];omega};·have e:jk A f d (k::l)=jk A f (d++(A.get k).data) l:=by{rw[jk,if_neg (λq=>q h5),if_neg hf]};rw[e];have ih:=Xdy (A:=A) l f (d++(A.get k).data) hn.2 h';rw[ByteArray.size_append]at ih;simp only[List.map_cons,List.sum_cons];rw[htx];by_cases q:f=0;{rw[if_neg (λz=>z q),if_neg (λz=>z q)]at ih⊢;omega};·rw[if_pos q,if_pos q]at ih⊢;omega};·have htx:tx (A.get k)=0:=by{unfold tx;rw[if_neg h5]};have e:jk A f d (k::l)=(k::(jk A 0 ByteArray.empty l).1,(if f≠0 then [(f,d)]else [])++(jk A 0 ByteArray.empty l).2):=by{rw[jk,if_pos h5]};rw[e];have ih:=Xdy (A:=A) l 0 ByteArray.empty hn.2 h0;rw[if_neg (λq=>q rfl),if_neg (λq=>q rfl)]at ih;simp only[List.map_cons,List.sum_cons];have e1:∀J,jtx A J k=0:=λJ=>by{unfold jtx;rw[if_neg h5]};have e2:(jk A 0 ByteArray.empty l).1.map (jtx A ((if f≠0 then [(f,d)]else [])++(jk A 0 ByteArray.empty l).2))=(jk A 0 ByteArray.empty l).1.map (jtx A (jk A 0 ByteArray.empty l).2):=List.map_congr_left (λx hx=>by unfold jtx;rw[Xnb (h' x (JF l 0 ByteArray.empty x hx)).2]);rw[e1,e2,htx];by_cases q:f=0;{rw[if_neg (λz=>z q),if_neg (λz=>z q)];omega};·rw[if_pos q,if_pos q,if_pos q];have:(((f,d)::(jk A 0 ByteArray.empty l).2).lookup f)=some d:=by{simp[List.lookup]};rw[List.singleton_append,this];simp only[Option.getD_some];omega}
theorem Xik (hI:A.Inv)(hh:A.has h)(hy:A.has y):(A.join h).YJ y<=A.YJ y:=by
 obtain⟨r1,r2,r3,r4⟩:=Xav hI hh
 have hks:=JF (B:=A) (A.get h).Xc 0 ByteArray.empty
 have hkeys:=JG (B:=A) (A.get h).Xc 0 ByteArray.empty
 have hjt:=Xdy (A:=A) (A.get h).Xc 0 ByteArray.empty (hI.wf.nodup h hh) (λk hk=>by have:=(XF hI hh hk).1.1;exact⟨by omega,by omega⟩)
 rw[if_neg (λq=>q rfl),if_neg (λq=>q rfl)]at hjt
 generalize jk A 0 ByteArray.empty (A.get h).Xc=J at*
 have htx:∀k,A.has k->tx ((A.join h).get k)=jtx A J.2 k:=λk hk=>by unfold tx jtx;rw[r4 k hk];rfl
 unfold Ar.YJ
 by_cases e:y=h
 ·subst e;have ek:((A.join y).get y).Xc=J.1:=by{rw[r4 y hh];show(if y=y then _ else _)=_;rw[if_pos rfl]};rw[ek,List.map_congr_left (λk hk=>htx k (XF hI hh (hks k hk)).1)];have h2:(J.1.map (jtx A J.2)).sum=(J.1.map (λk=>jtx A J.2 k)).sum:=rfl;omega
 ·have ek:((A.join h).get y).Xc=(A.get y).Xc:=by{rw[r4 y hy];show(if y=h then _ else _)=_;rw[if_neg e]};rw[ek];refine Nat.le_of_eq (congrArg List.sum (List.map_congr_left (λk hk=>?_)));obtain⟨k1,k2,k3⟩:=XF hI hy hk;rw[htx k k1];unfold jtx tx;have:J.2.lookup k=none:=Jy (λp hp=>by rcases hkeys p hp with⟨_,z⟩|⟨z,_⟩;{exact absurd rfl z};·exact λq=>e (by rw[<-k3,<-q];exact(XF hI hh z).2.2));rw[this];rfl
theorem Xnc (hI:A.Inv)(h:Int)(hy:A.has y):(A.normalize h).2.YJ y<=A.YJ y:=by
 unfold Ar.normalize
 split
 ·rename_i hh;obtain⟨q1,q2,q3,-⟩:=Xav hI hh;have hasj:∀{B:Ar},B.ns.length=A.ns.length->∀{x},A.has x->B.has x:=λe x hx=>⟨hx.1,by have:=hx.2;unfold Ar.n at*;omega⟩;have hh1:=hasj q2 hh;dsimp only;refine(Ze (P:=λB:Ar=>B.Inv/\B.ns.length=A.ns.length/\B.YJ y<=A.YJ y) ⟨q1,q2,Xik hI hh hy⟩ ?_).2.2;rintro B x hx⟨p1,p2,p3⟩;have hxB:B.has x:=by{have:=(Zt q1 h hh1 x hx).1;exact⟨this.1,by have:=this.2;unfold Ar.n at*;omega⟩};obtain⟨s1,s2,s3,-⟩:=Xav p1 hxB;exact⟨s1,s2.trans p2,Nat.le_trans (Xik p1 hxB (hasj p2 hy)) p3⟩
 ·exact Nat.le_refl _
/-- The texts below the nodes, all together. -/
def fK (A : Ar) (x : Int) : Nat := A.YJ x
theorem Xil (hI:A.Inv):tot fK A<=A.Xk:=by
 rw[Xce]
 unfold tot
 have:(A.hs.map (fK A)).sum=((A.hs.flatMap (λx=>(A.get x).Xc)).map (λk=>tx (A.get k))).sum:=(Xdg (f:=λk=>tx (A.get k)) (g:=λx=>(A.get x).Xc)).symm
 rw[this]
 refine Xax (Xhz hI) (λx hx=>?_)
 obtain⟨y,hy,hx⟩:=List.mem_flatMap.1 hx
 exact ZW.2 (XF hI (ZW.1 hy) hx).1
theorem Xnd {x:Int}(hx:A.has x):A.YJ x<=tot fK A:=by
 have:=Xax (f:=fK A) (l:= [x]) (H:=A.hs) (by simp) (λy hy=>by simp at hy;subst hy;exact ZW.2 hx)
 simpa[tot,fK]using this
theorem Xne (hI:A.Inv)(h:Int):tot fK (A.normalize h).2<=tot fK A:=by
 have e:(A.normalize h).2.hs=A.hs:=by unfold Ar.hs;rw[(Xfj hI h).2.1]
 unfold tot
 rw[e]
 exact Xfa (λx hx=>Xnc hI h (ZW.1 hx))
theorem Xnf {x:Int}(q:ZJ C B x y):fK C x=fK B y:=by
 obtain⟨q1,q2,q3,q4,q5,q6,q7⟩:=q.inv
 unfold fK Ar.YJ
 exact congrArg List.sum (Xfo q4 (λi x y hx hy=>Xdq (q7 i x y hx hy).inv.2.2.1))
theorem Xim {x:Int}(h:(B.get x).Xc= []):fK B x=0:=by
 unfold fK Ar.YJ
 rw[h]
 rfl
theorem Xin (hA:A.Inv)(hold:∀x,A.has x->B.has x/\B.get x=A.get x):∀x,A.has x->fK B x=fK A x:=λx hx=>by{unfold fK Ar.YJ;rw[(hold x hx).2];exact congrArg List.sum (List.map_congr_left (λk hk=>by rw[(hold k (XF hA hx hk).1).2]))}
theorem Xa0.fK {C A B:Ar}{h d c:Int}(q:Xa0 C A B h d c)(hA:A.Inv)(hC:C.Inv):tot fK B<=tot fK A+tot fK C:=by
 have hh:=q.alk.inv.1
 refine Nat.le_trans (Xbx (A:=A) (W:=B.Xi c) (Xin hA q.old) (λx h1 h2=>(q.new x h1 h2).imp id (λz=>Xim z.1))) ?_
 rw[<-Xfq Xnf hC q.inv h hh c q.alk]
 exact Nat.add_le_add_left (Xdr hC hh) _
theorem Xio (hC:C.Inv)(hA:A.Inv){d:Int}{m:Nat}{deep:Bool}(hd:A.has d)(hk:(A.get d).Xa=1)(hh:C.has h)(hw:(C.Xi h).length<=m):tot fK (dupF C deep m A d h).2<=tot fK A+tot fK C:=by
 cases deep with|true=>{by_cases h1:(C.get h).Xa=1;{exact(XhU (d:=d) hC hA hh h1 hw).fK hA hC};·exact(Xaw hC m hA hd hk hh h1 hw).fK hA hC}|false=>cases m with|zero=>{have:=YL hC hh;omega}|succ m=>have hmid:XH C false m (A.Xj d (C.get h)) d h=(A.Xj d (C.get h)).2:=by{unfold XH;rw[if_neg (λq=>by simp at q)]};rw[Y8,hmid,if_neg (by decide)];dsimp only;have key:∀(B:Ar),(∀x,A.has x->B.has x/\B.get x=A.get x)->(∀x,B.has x->¬A.has x->(B.get x).Xc= [])->tot fK B<=tot fK A+tot fK C:=λB k1 k2=>by{have a1:=Xbx (F:=fK) (A:=A) (B:=B) (W:= []) (Xin hA k1) (λx h1 h2=> .inr (Xim (k2 x h1 h2)));simp at a1;omega};by_cases h1:(C.get h).Xa=1;{have hal:A.Xj d (C.get h)=(A.n+1,A.Xn (C.get h).XI):=by{unfold Ar.Xj;rw[if_pos h1]};rw[hal];have hg:(A.Xn (C.get h).XI).get (A.n+1)={XL with Xa:=1,XI:=(C.get h).XI,doc:=A.n+1}:=by{rw[Ar.Xn,Ar.YS]};refine key _ (λx hx=>⟨(Ar.XO _ _ _).2 (.inl hx),Ar.Zb _ hx⟩) (λx g1 g2=>?_);rcases(Ar.XO _ _ _).1 g1 with q|q;{exact absurd q g2};·rw[q,hg];rfl};·obtain⟨n1,n2,n3⟩:=Xbu hA hC hd hk hh h1;generalize(A.Xj d (C.get h)).2=B at*;refine key B n2.old (λx g1 g2=>?_);rcases n3 with⟨z1,z2,z3⟩|⟨z1,cc,z2,z3,z4,z5,z6,z7,z8,z9⟩;{rcases z3 x g1 g2 with q|q;{rw[q];exact n2.Xc};·exact q.1};·rcases z9 x g1 g2 with q|q|q;{rw[q];exact n2.Xc};{rw[q];exact z6};·exact q.1
theorem Xng (hI:A.Inv)(x:OpD):(x.Xa=34->tot fK (A.Xo x).2<=tot fK A)/\(x.Xa=31\/x.Xa=32->tot fK (A.Xo x).2<=2*tot fK A):=by
 constructor
 ·intro e;have:(A.Xo x).2=(A.normalize x.a).2:=by{unfold Ar.Xo;simp[e]};rw[this];exact Xne hI x.a
 ·rintro(e|e);{have:(A.Xo x)=A.Zx x.a x.Xe:=by{unfold Ar.Xo;simp[e]};rw[this];unfold Ar.Zx;split;{rename_i hh;obtain⟨d1,d2⟩:=hI.ZV x.a hh;have:=Xio (deep:=x.Xe) hI hI d1 d2 hh (Z3 hI x.a);dsimp only;omega};·dsimp only;omega};·have:(A.Xo x)=A.Zp A x.a x.b:=by{unfold Ar.Xo;simp[e]};rw[this];unfold Ar.Zp;split;{rename_i hh;split;{dsimp only;omega};·rename_i hk;have:=Xio (deep:=true) hI hI hh.1 (Classical.not_not.1 (λz=>hk (.inl z))) hh.2 (Z3 hI x.b);dsimp only;omega};·dsimp only;omega
end
section
def Ji (x : OpD) : Bool := decide (x.Xa = 31 \/ x.Xa = 32)
def cpN (l : List OpD) : Nat := (l.filter Ji).length
def ncN (l : List OpD) : Nat := (l.filter (λx => !Ji x)).length
theorem Xfy (l:List OpD):cpN l+ncN l=l.length:=by
 unfold cpN ncN
 induction l with|nil=>{rfl}|cons x l ih=>cases h:Ji x<;>simp[h]<;>omega
theorem Xfz (x:OpD)(l:List OpD):cpN (x::l)=cpN l+(if Ji x=true then 1 else 0):=by
 unfold cpN
 cases h:Ji x<;>simp[h]
theorem Xnh (x:OpD)(l:List OpD):ncN (x::l)=ncN l+(if Ji x=true then 0 else 1):=by
 unfold ncN
 cases h:Ji x<;>simp[h]
theorem Xip (l m:List OpD):cpN (l++m)=cpN l+cpN m:=by
 unfold cpN
 simp
theorem Xiq (l:List OpD)(k:Nat):cpN (l.take k)<=cpN l:=by
 have:=Xip (l.take k) (l.drop k)
 rw[List.take_append_drop]at this
 omega
/-- The bounds of the Xk, and of Xk and X9. -/
def uv : Nat -> Nat × Nat
  | 0 => (0, 0)
  | n + 1 => (max ((uv n).1 + 400) (uv n).2, max (uv n).2 (2 * (uv n).1 + 800))
theorem Xni (n:Nat):(uv (n+1)).1=max ((uv n).1+400) (uv n).2/\(uv (n+1)).2=max (uv n).2 (2*(uv n).1+800):=⟨rfl,rfl⟩
def wv : Nat -> Nat
  | 0 => 0
  | n + 1 => max (wv n) ((uv n).1 + 400)
theorem Xnj :∀{n m:Nat},n<=m->wv n<=wv m:=by
 intro n m h
 induction m with|zero=>{rw[Nat.le_zero.1 h];exact Nat.le_refl _}|succ m ih=>rcases Nat.lt_or_ge n (m+1)with q|q;{exact Nat.le_trans (ih (by omega)) (Nat.le_max_left _ _)};·rw[show n=m+1 by(omega)];exact Nat.le_refl _
theorem Xnk (c:Nat):1<=2^c:=Nat.one_le_two_pow
theorem Xdz :∀(l:List OpD){A:Ar}{t c n:Nat},A.Inv->A.XB t->20<=t->t+l.length<=900->(∀x∈l,ZC x)->A.Xk<=2^c*(uv n).1->A.Xk+A.X9<=2^c*(uv n).2->tot fK A<=2^c*wv n->(l.foldl (λA x=>(A.Xo x).2) A).Inv/\(l.foldl (λA x=>(A.Xo x).2) A).XB (t+l.length)/\(l.foldl (λA x=>(A.Xo x).2) A).ns.length+1<=2^cpN l*(A.ns.length+1+3*ncN l)/\(l.foldl (λA x=>(A.Xo x).2) A).Xk<=2^(c+cpN l)*(uv (n+ncN l)).1/\(l.foldl (λA x=>(A.Xo x).2) A).Xk+(l.foldl (λA x=>(A.Xo x).2) A).X9<=2^(c+cpN l)*(uv (n+ncN l)).2/\tot fK (l.foldl (λA x=>(A.Xo x).2) A)<=2^(c+cpN l)*wv (n+ncN l)
 | [],A,t,c,n,hI,hT,ht,hl,hx,hm,hf,hA=>⟨hI,hT,by simp[cpN,ncN],hm,hf,hA⟩
 |x::l,A,t,c,n,hI,hT,ht,hl,hx,hm,hf,hA=>by{have hxs:=hx x (by simp);have hl':t+1+l.length<=900:=by{simp at hl;omega};obtain⟨f1,f2⟩:=Xfk hI (hT.mono (by omega)) x hxs.2.2.2.1;have f3:=XeG hT x (Nat.le_trans hxs.2.2.2.1 ht);obtain⟨m1,m2,m3⟩:=Xm9 hI hxs;have g:=XhA f1;have gk:=Xil f1;obtain⟨k1,k2⟩:=Xng hI x;rw[List.foldl_cons,Xfz,Xnh];have ht':t+(x::l).length=t+1+l.length:=by{simp;omega};rw[ht'];have hx':∀y∈l,ZC y:=λy hy=>hx y (by simp[hy]);by_cases hc:x.Xa=31\/x.Xa=32;{have hcp:Ji x=true:=decide_eq_true hc;rw[if_pos hc]at f2;obtain⟨n1,n2⟩:=m2 hc;have e:2^(c+1)=2*2^c:=by{rw[Nat.pow_succ];omega};have q:=Xdz l (c:=c+1) (n:=n) f1 f3 (by omega) hl' hx' (by rw[e,Nat.mul_assoc];omega) (by rw[e,Nat.mul_assoc];omega) (by rw[e,Nat.mul_assoc];have:=k2 hc;omega);rw[if_pos hcp,if_pos hcp];obtain⟨q1,q2,q3,q4,q5,q6⟩:=q;refine⟨q1,q2,?_,by rw[show c+(cpN l+1)=c+1+cpN l by(omega)];exact q4,by rw[show c+(cpN l+1)=c+1+cpN l by(omega)];exact q5,by rw[show c+(cpN l+1)=c+1+cpN l by(omega)];exact q6⟩;refine Nat.le_trans q3 ?_;rw[Nat.pow_succ,Nat.mul_assoc];exact Nat.mul_le_mul_left _ (by omega)};·have hcp:¬Ji x=true:=by{unfold Ji;simpa using hc};rw[if_neg hc]at f2;rw[if_neg hcp,if_neg hcp];have hP:=Xnk c;have e1:=Xni n;have key:(A.Xo x).2.Xk<=2^c*(uv (n+1)).1/\(A.Xo x).2.Xk+(A.Xo x).2.X9<=2^c*(uv (n+1)).2:=by{rw[e1.1,e1.2];by_cases h34:x.Xa=34;{have:=m1 h34;have a1:2^c*(uv n).2<=2^c*max ((uv n).1+400) (uv n).2:=Nat.mul_le_mul_left _ (by omega);have a2:2^c*(uv n).2<=2^c*max (uv n).2 (2*(uv n).1+800):=Nat.mul_le_mul_left _ (by omega);omega};·have:=m3 h34 hc;have a1:2^c*((uv n).1+400)<=2^c*max ((uv n).1+400) (uv n).2:=Nat.mul_le_mul_left _ (by omega);have a0:2*((uv n).1+400)<=max (uv n).2 (2*(uv n).1+800):=Nat.le_trans (by rw[Nat.mul_add];exact Nat.le_refl _) (Nat.le_max_right _ _);have a2:=Nat.mul_le_mul_left (2^c) a0;rw[Nat.mul_left_comm]at a2;rw[Nat.mul_add]at a1 a2;have a3:400<=2^c*400:=Nat.le_mul_of_pos_left _ hP;omega};have keyA:tot fK (A.Xo x).2<=2^c*wv (n+1):=by{by_cases h34:x.Xa=34;{exact Nat.le_trans (k1 h34) (Nat.le_trans hA (Nat.mul_le_mul_left _ (Nat.le_max_left _ _)))};·have:=m3 h34 hc;have a1:2^c*((uv n).1+400)<=2^c*wv (n+1):=Nat.mul_le_mul_left _ (Nat.le_max_right _ _);rw[Nat.mul_add]at a1;have a3:400<=2^c*400:=Nat.le_mul_of_pos_left _ hP;omega};obtain⟨q1,q2,q3,q4,q5,q6⟩:=Xdz l (c:=c) (n:=n+1) f1 f3 (by omega) hl' hx' key.1 key.2 keyA;refine⟨q1,q2,?_,by rw[show n+(ncN l+1)=n+1+ncN l by(omega)];exact q4,by rw[show n+(ncN l+1)=n+1+ncN l by(omega)];exact q5,by rw[show n+(ncN l+1)=n+1+ncN l by(omega)];exact q6⟩;refine Nat.le_trans q3 (Nat.mul_le_mul_left _ (by omega))}
/-- What the statements ask of the operations. -/
def Jj (l : List OpD) (most : Int) : Prop := XaQ l most /\ cpN l <= 8
instance (l : List OpD) (most : Int) : Decidable (Jj l most) := inferInstanceAs (Decidable (_ /\ _))
theorem Xnl :∀c:Nat,c<9->2^c*wv (99-c)<=9223372036854775807:=by
 decide+kernel
theorem Xnm {c n:Nat}(h:c+n<=100)(hc:c<=8):2^c*(0+1+3*n)<=70912:=by
 have h1:2^c*(0+1+3*n)<=2^c*(301-3*c):=Nat.mul_le_mul_left _ (by omega)
 have h2:∀c:Nat,c<9->2^c*(301-3*c)<=70912:=by decide+kernel
 exact Nat.le_trans h1 (h2 c (by omega))
theorem Xnn {l:List OpD}(hl:l.length<=100)(hx:∀x∈l,ZC x)(hc:cpN l<=8):(Zj l).Inv/\(Zj l).XB 200/\(Zj l).ns.length+10<=100000:=by
 obtain⟨q1,q2,q3,-,-,-⟩:=Xdz l (A:=Ar.new) (t:=20) (c:=0) (n:=0) Xen (XcY _) (by omega) (by omega) hx (Nat.le_refl _) (Nat.le_refl _) (Nat.le_refl _)
 have e:=Xfy l
 have h:=Xnm (c:=cpN l) (n:=ncN l) (by omega) hc
 have q3':(Zj l).ns.length+1<=2^cpN l*(0+1+3*ncN l):=q3
 exact⟨q1,q2.mono (by omega),by omega⟩
theorem Xno {l:List OpD}(hl:l.length<=100)(hx:∀x∈l,ZC x)(hc:cpN l<=8):∀y,(Zj l).has y->(Zj l).YJ y<=9223372036854775807:=by
 cases l with|nil=>{exact λy hy=>absurd hy (Xa3 y)}|cons x l=>have h1:=Xna (hx x (by simp));obtain⟨f1,f2⟩:=Xfk Xen (XcY 900) x (hx x (by simp)).2.2.2.1;have g:=XhA f1;have gk:=Xil f1;have f3:=XeG (XcY 20) x (hx x (by simp)).2.2.2.1;obtain⟨-,-,-,-,-,q4⟩:=Xdz l (A:=(Ar.new.Xo x).2) (t:=21) (c:=0) (n:=0) f1 f3 (by omega) (by simp at hl;omega) (λy hy=>hx y (by simp[hy])) (by omega) (by omega) (by omega);have e:=Xfy l;rw[Xfz]at hc;have hcl:cpN l<9:=by{split at hc<;>omega};intro y hy;refine Nat.le_trans (Xnd hy) (Nat.le_trans q4 (Nat.le_trans ?_ (Xnl (cpN l) hcl)));rw[Nat.zero_add,Nat.zero_add];exact Nat.mul_le_mul_left _ (Xnj (by simp at hl;omega))
theorem Xir {l:List OpD}(h:Jj l m)(hm:m<=100):l.length<=100/\(∀x∈l,ZC x)/\cpN l<=8:=⟨by have:=h.1.1;omega,h.1.2,h.2⟩
theorem XfA {l:List OpD}(h:Jj l m)(hm:m<=100){k:Nat}(hk:k<=l.length):(Zj (l.take k)).Inv/\(Zj (l.take k)).XB 200/\(Zj (l.take k)).ns.length+10<=100000/\(∀y,(Zj (l.take k)).has y->(Zj (l.take k)).YJ y<=9223372036854775807):=by
 obtain⟨h1,h2,h3⟩:=Xir h hm
 have c:=Nat.le_trans (Xiq l k) h3
 obtain⟨q1,q2,q3⟩:=Xnn (l:=l.take k) (by simp;omega) (λx hx=>h2 x (List.mem_of_mem_take hx)) c
 exact⟨q1,q2,q3,Xno (by simp;omega) (λx hx=>h2 x (List.mem_of_mem_take hx)) c⟩
theorem Xnp {l:List OpD}{k:Nat}{x:OpD}(hx:l[k]?=some x):Zj (l.take (k+1))=((Zj (l.take k)).Xo x).2:=by
 unfold Zj
 rw[List.take_add_one,hx,List.foldl_append]
 rfl
end
section
open Go.RowKit Go.Shelf
attribute [local go_sem] Oper.semAt_some
theorem Xnq (l:List OpD)(k:Nat):cpN (l.take k)<=k:=by
 have h:=Xfy (l.take k)
 have:(l.take k).length<=k:=by simp;omega
 omega
theorem Xnr {l:List OpD}{k:Nat}{x:OpD}(hx:l[k]?=some x):cpN (l.take (k+1))=cpN (l.take k)+(if Ji x=true then 1 else 0):=by
 rw[List.take_add_one,hx,Xip]
 show _+cpN [x]=_
 rw[Xfz]
 simp[cpN]
theorem XdA (v:Value)(l:List OpD)(most:Int)(w:World)(hv:JW w v l):Calls Tryz.prog 31 #[v,.int .i64 most] w λe w'=>e= .returned (.bool (decide (Jj l most)))/\Below w.heap.size w w':=by
 have HSM:=Xqh (fun(W:World)(hb:Below w.heap.size w W)=>Xj9 v l most W (hv.below hb))
 obtain⟨av,cv,rfl,hc1,hc2,hc3⟩:=id hv
 have HF:Hid (∀k:Nat,k<=l.length->(k<l.length->most<k)->(cpN (l.take k)<=8->decide (XaQ l most)=decide (Jj l most))/\(¬cpN (l.take k)<=8->false=decide (Jj l most))):=Xqh (by intro k h1 h2;have hcase:k=l.length\/¬XaQ l most:=by{rcases Nat.lt_or_ge k l.length with q|q;{exact .inr (λh=>by have:=h.1;have:=h2 q;omega)};·exact .inl (by omega)};refine⟨λh=>decide_eq_decide.2 ⟨λhs=>⟨hs,?_⟩,λh=>h.1⟩,λh=>(decide_eq_false (λhs=>?_)).symm⟩;{rcases hcase with rfl|q;{rwa[List.take_length]at h};·exact absurd hs q};·exact h (Nat.le_trans (Xiq l k) hs.2))
 go_enter Tryz.func31,Tryz.ntmps31
 go_wp2
 go_loopw [5,6](λcnt i wr=>∃k:Nat,k<=l.length/\i= .int .i64 k/\cnt= .int .i64 (cpN (l.take k):Nat)/\Below w.heap.size w wr)(λ_ i _=>l.length-(intOf i).toNat)
 case atStart=>exact⟨0,Nat.zero_le _,rfl,rfl,Below.refl _ _⟩
 case round=>obtain⟨k,hk,rfl,rfl,hB⟩:=hrel;have hle:=Xnq l k;by_cases hgo:k<l.length/\(k:Int)<=most;{obtain⟨hlt,h20⟩:=hgo;obtain⟨b1,o1,rfl,hcs⟩:=hc3 (by omega);obtain⟨x,hx⟩:∃x,l[k]?=some x:=⟨_,List.getElem?_eq_getElem hlt⟩;obtain⟨av,F⟩:=hcs k x hx;have F:=F.below hB;obtain⟨c0,-⟩:=F.facts;have HCT:=Xqh (Xnr hx);clear hc3 hcs F hx HSM;generalize cpN (l.take k)=cnt at*;by_cases h31:x.Xa=31;{have e31:(x.Xa==31)=true:=by{simp[h31]};have HE:=Xqh (show cpN (l.take (k+1))=cnt+1 by rw[HCT.out,if_pos (show Ji x=true from decide_eq_true (.inl h31))]);clear h31;go_wp2;go_roundw;(case rel=>exact⟨k+1,hlt,by go_num,by rw[HE.out];go_num,hB⟩);case measure=>simp[intOf];omega};·have e31:(x.Xa==31)=false:=by{simp[h31]};by_cases h32:x.Xa=32;{have e32:(x.Xa==32)=true:=by{simp[h32]};have HE:=Xqh (show cpN (l.take (k+1))=cnt+1 by rw[HCT.out,if_pos (show Ji x=true from decide_eq_true (.inr h32))]);clear h31 h32;go_wp2;go_roundw;(case rel=>exact⟨k+1,hlt,by go_num,by rw[HE.out];go_num,hB⟩);case measure=>simp[intOf];omega};·have e32:(x.Xa==32)=false:=by{simp[h32]};have HE:=Xqh (show cpN (l.take (k+1))=cnt by rw[HCT.out,if_neg (by unfold Ji;simp[h31,h32])];rfl);clear h31 h32;go_wp2;go_roundw;(case rel=>exact⟨k+1,hlt,by go_num,by rw[HE.out],hB⟩);case measure=>simp[intOf];omega};·have hH:k<l.length->most<k:=λh=>by{rcases Nat.lt_or_ge k l.length with q|q;{have:=mt (And.intro q) hgo;omega};·omega};obtain⟨f1,f2⟩:=HF.out k hk hH;have HC:=Xqh (HSM.out wr hB);have F1:=Xqh f1;have F2:=Xqh f2;clear f1 f2 HSM HF;generalize cpN (l.take k)=cnt at*;have fin:∀(P:Prop),True->True:=λ_ h=>h;by_cases hlt:k<l.length;{have h20:¬(k:Int)<=most:=λh=>hgo ⟨hlt,h⟩;clear hgo hH;by_cases h8:cnt<=8;{have h8':(cnt:Int)<=8:=by{omega};have FF:=Xqh (F1.out h8);clear h8 F1 F2;go_wp2_with fail;refine HC.out.mono ?_;rintro e w2⟨rfl,hB2⟩;rw[FF.out];go_wp2;go_ret;exact⟨rfl,hB.trans (hB2.mono hB.size)⟩};·have h8':¬(cnt:Int)<=8:=by{omega};have FF:=Xqh (F2.out h8);clear h8 F1 F2;go_wp2;go_ret;exact⟨XW FF.out,hB⟩};·clear hgo hH;by_cases h8:cnt<=8;{have h8':(cnt:Int)<=8:=by{omega};have FF:=Xqh (F1.out h8);clear h8 F1 F2;go_wp2_with fail;refine HC.out.mono ?_;rintro e w2⟨rfl,hB2⟩;rw[FF.out];go_wp2;go_ret;exact⟨rfl,hB.trans (hB2.mono hB.size)⟩};·have h8':¬(cnt:Int)<=8:=by{omega};have FF:=Xqh (F2.out h8);clear h8 F1 F2;go_wp2;go_ret;exact⟨XW FF.out,hB⟩
end
end Go.Proofs.YtpicinjcmjaogaaGreat
