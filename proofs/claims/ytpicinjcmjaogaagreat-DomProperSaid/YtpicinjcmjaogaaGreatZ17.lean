import Derived.Test.YtpicinjcmjaogaaGreatZ12
import Derived.Test.YtpicinjcmjaogaaGreatZ16
set_option maxRecDepth 100000
set_option maxHeartbeats 4000000
set_option linter.unusedVariables false
namespace Go.Proofs.YtpicinjcmjaogaaGreat
section
theorem Xdw (A:Ar)(p n c:Int):(A.XX p n c).2.Xk≤A.Xk:=by
 unfold Ar.XX
 split
 ·exact Nat.le_refl _
 ·exact Xfg _ _ _ _
theorem Xic (A:Ar)(p n c:Int):(A.YU p n c).2.Xk≤A.Xk:=by
 unfold Ar.YU
 repeat' split
 all_goals first|(exact Nat.le_refl _)|exact Nat.le_trans (Xfg _ _ _ _) (J9 _ _)
theorem Xid (A:Ar)(p c:Int):(A.Zo p c).2.Xk≤A.Xk:=by
 unfold Ar.Zo
 repeat' split
 all_goals first|(exact Nat.le_refl _)|exact J9 _ _
theorem Xdx (A:Ar)(h:Int):(A.XR h).2.Xk≤A.Xk:=by
 unfold Ar.XR
 split
 all_goals first|(exact Nat.le_refl _)|exact J9 _ _
theorem Xie (A:Ar)(p n:Int):(A.Yq p n).2.Xk≤A.Xk:=by
 unfold Ar.Yq
 split
 ·split;·{exact Nat.le_refl _};·split;·{exact Nat.le_refl _};·dsimp only;split;·{exact Nat.le_trans (Xfg _ _ _ _) (Xdl _ _)};·exact Xdl _ _
 ·exact Nat.le_refl _
theorem Xif (A:Ar)(n d:Int):(A.YV n d).2.Xk≤A.Xk:=by
 unfold Ar.YV
 repeat' split
 all_goals first|(exact Nat.le_refl _)|exact Xff _ _ _ _
theorem Xig (A:Ar)(d:Int)(name:ByteArray):(A.Y0 d name).2.Xk≤A.Xk:=by
 unfold Ar.Y0
 repeat' split
 all_goals first|(exact Nat.le_refl _)|exact Xfd _ _ _ _ _
theorem Xih (A:Ar)(el s:Int)(name val:ByteArray):(A.YO el s name val).2.Xk≤A.Xk:=by
 unfold Ar.YO
 repeat' split
 all_goals first|(exact Nat.le_refl _)|exact Xdk _ _ _
theorem Xii (A:Ar)(el s:Int)(name:ByteArray):(A.Yy el s name).2.Xk≤A.Xk:=by
 unfold Ar.Yy
 repeat' split
 all_goals first|(exact Nat.le_refl _)|exact Xdk _ _ _
theorem Xm5 (A:Ar)(h:Int)(s:ByteArray):(A.YE h s).2.Xk≤A.Xk+s.size:=by
 unfold Ar.YE
 split
 ·exact Nat.le_add_right _ _
 ·split;·{exact XhE _ _ _};·split;·{split;·{exact Nat.le_trans (Xdl _ _) (Nat.le_add_right _ _)};·dsimp only;refine Nat.le_trans (Xcf _ _ _ _) (Nat.le_trans (Xaa _ _ _) ?_);have h1:=Xdl A h;have h2:tx (Xs s)=s.size:=rfl;omega};·exact Nat.le_add_right _ _
theorem Xm6 (s:ByteArray)(n:Nat):(⟨(s.toList.take n).toArray⟩:ByteArray).size+(⟨(s.toList.drop n).toArray⟩:ByteArray).size=s.size:=by
 show(s.toList.take n).toArray.size+(s.toList.drop n).toArray.size=_
 rw[List.size_toArray,List.size_toArray,←List.length_append,List.take_append_drop,Go.ByteArray.toList_eq]
 rfl
theorem Xij {A:Ar}(h at':Int):(A.split h at').2.Xk≤A.Xk:=by
 unfold Ar.split
 split
 ·exact Nat.le_refl _
 ·rename_i hh;have hh:=Classical.not_not.1 hh;split;·{exact Nat.le_refl _};·rename_i hk;have hk:=Classical.not_not.1 hk;split;·{exact Nat.le_refl _};·dsimp only;have m1:=Xaa A (A.get h).doc (Xs ⟨((A.get h).data.toList.drop at'.toNat).toArray⟩);have e0:tx (Xs ⟨((A.get h).data.toList.drop at'.toNat).toArray⟩)=(⟨((A.get h).data.toList.drop at'.toNat).toArray⟩:ByteArray).size:=rfl;rw[e0]at m1;have e1:=Xm6 (A.get h).data at'.toNat;have hold:(A.make (A.get h).doc (Xs ⟨((A.get h).data.toList.drop at'.toNat).toArray⟩)).2.has h∧(A.make (A.get h).doc (Xs ⟨((A.get h).data.toList.drop at'.toNat).toArray⟩)).2.get h=A.get h:=by{unfold Ar.make;split;·{exact⟨hh,rfl⟩};·exact⟨(Ar.XO _ _ _).2 (.inl hh),Ar.Zb _ hh⟩};have m2:=Xfe (A:=(A.make (A.get h).doc (Xs ⟨((A.get h).data.toList.drop at'.toNat).toArray⟩)).2) (x:=h) ⟨((A.get h).data.toList.take at'.toNat).toArray⟩ hold.1 (by rw[hold.2];exact hk);rw[hold.2]at m2;split;·{refine Nat.le_trans (Xcf _ _ _ _) ?_;omega};·omega
theorem Xm7 {A:Ar}{x:OpD}(hx:ZC x):(A.step x).2.Xk≤A.Xk+400:=by
 obtain⟨s1,s2,s3,-⟩:=hx
 have triv:A.Xk≤A.Xk+400:=Nat.le_add_right _ _
 refine XbS (P:=fun r=>r.2.Xk≤A.Xk+400) ?_ ?_ ?_ ?_ ?_ ?_ ?_ ?_ ?_ ?_ ?_ ?_ ?_ ?_<;>intro _
 ·exact Nat.le_trans (Xfb _ _) triv
 ·exact Nat.le_trans (Xaa _ _ _) triv
 ·exact Nat.le_trans (Xfd _ _ _ _ _) triv
 ·refine Nat.le_trans (Xaa _ _ _) ?_;have:tx (Xs x.s)=x.s.size:=rfl;omega
 ·exact Nat.le_trans (Xaa _ _ _) triv
 ·exact Nat.le_trans (Xaa _ _ _) triv
 ·exact Nat.le_trans (XhD _ _) triv
 ·exact Nat.le_trans (Xcf _ _ _ _) triv
 ·exact Nat.le_trans (Xdx _ _) triv
 ·exact Nat.le_trans (XhE _ _ _) (by omega)
 ·exact Nat.le_trans (Xdk _ _ _) triv
 ·exact Nat.le_trans (XhG _ _ _) triv
 ·exact Nat.le_trans (Xdj _ _ _) triv
 ·exact triv
theorem Xa3 (x:Int):¬Ar.new.has x:=fun h=>by{have:=h.1;have:=h.2;unfold Ar.n Ar.new at*;simp at*;omega}
theorem Xm8 (x:OpD):(Ar.new.step x).2.Xk≤0:=by
 have hd:∀d,Ar.new.XA d≠0:=fun d=>by unfold Ar.XA;rw[if_pos (Xa3 d)];decide
 refine XbS (P:=fun r=>r.2.Xk≤0) ?_ ?_ ?_ ?_ ?_ ?_ ?_ ?_ ?_ ?_ ?_ ?_ ?_ ?_<;>intro _
 ·exact Xfb _ _
 ·exact Xaa _ _ _
 ·exact Xfd _ _ _ _ _
 ·unfold Ar.make;rw[if_pos (hd _)];exact Nat.le_refl _
 ·exact Xaa _ _ _
 ·exact Xaa _ _ _
 ·exact XhD _ _
 ·exact Xcf _ _ _ _
 ·exact Xdx _ _
 ·unfold Ar.XG;rw[if_pos (Xa3 _)];exact Nat.le_refl _
 ·exact Xdk _ _ _
 ·exact XhG _ _ _
 ·exact Xdj _ _ _
 ·exact Nat.le_refl _
theorem Xm9 {A:Ar}(hI:A.Inv){x:OpD}(hx:ZC x):(x.Xa=34→(A.Xo x).2.Xk+(A.Xo x).2.X9≤A.Xk+A.X9)∧(x.Xa=31∨x.Xa=32→(A.Xo x).2.Xk≤2*A.Xk∧(A.Xo x).2.Xk+(A.Xo x).2.X9≤2*(A.Xk+A.X9))∧(x.Xa≠34→¬(x.Xa=31∨x.Xa=32)→(A.Xo x).2.Xk≤A.Xk+400):=by
 have s2:=hx.2.1
 have other:∀{B:Ar},x.Xa≠34→¬(x.Xa=31∨x.Xa=32)→B.Xk≤A.Xk+400→(x.Xa=34→B.Xk+B.X9≤A.Xk+A.X9)∧(x.Xa=31∨x.Xa=32→B.Xk≤2*A.Xk∧B.Xk+B.X9≤2*(A.Xk+A.X9))∧(x.Xa≠34→¬(x.Xa=31∨x.Xa=32)→B.Xk≤A.Xk+400):=fun h1 h2 h3=>⟨fun h=>absurd h h1,fun h=>absurd h h2,fun _ _=>h3⟩
 have copy:∀{B:Ar},x.Xa=31∨x.Xa=32→(B.Xk≤A.Xk+A.Xk∧B.Xk+B.X9≤(A.Xk+A.X9)+(A.Xk+A.X9))→(x.Xa=34→B.Xk+B.X9≤A.Xk+A.X9)∧(x.Xa=31∨x.Xa=32→B.Xk≤2*A.Xk∧B.Xk+B.X9≤2*(A.Xk+A.X9))∧(x.Xa≠34→¬(x.Xa=31∨x.Xa=32)→B.Xk≤A.Xk+400):=fun h1 h2=>⟨fun h=>by omega,fun _=>by omega,fun _ h=>absurd h1 h⟩
 have triv:∀{n:Nat},n≤A.Xk→n≤A.Xk+400:=fun h=>Nat.le_trans h (Nat.le_add_right _ _)
 refine XcX (P:=fun r=>(x.Xa=34→r.2.Xk+r.2.X9≤A.Xk+A.X9)∧(x.Xa=31∨x.Xa=32→r.2.Xk≤2*A.Xk∧r.2.Xk+r.2.X9≤2*(A.Xk+A.X9))∧(x.Xa≠34→¬(x.Xa=31∨x.Xa=32)→r.2.Xk≤A.Xk+400)) ?_ ?_ ?_ ?_ ?_ ?_ ?_ ?_ ?_ ?_ ?_ ?_ ?_ ?_ ?_ ?_<;>intro e
 ·exact other (by omega) (by omega) (triv (Xdw _ _ _ _))
 ·exact other (by omega) (by omega) (triv (Xdw _ _ _ _))
 ·exact other (by omega) (by omega) (triv (Xic _ _ _ _))
 ·exact other (by omega) (by omega) (triv (Xid _ _ _))
 ·exact other (by omega) (by omega) (triv (Xdx _ _))
 ·exact other (by omega) (by omega) (triv (Xie _ _ _))
 ·exact other (by omega) (by omega) (triv (Xif _ _ _))
 ·exact other (by omega) (by omega) (triv (Xig _ _ _))
 ·exact other (by omega) (by omega) (triv (Xih _ _ _ _ _))
 ·exact other (by omega) (by omega) (triv (Xii _ _ _ _))
 ·refine copy (.inl e) ?_;unfold Ar.Zx;split;·{rename_i hh;obtain⟨d1,d2⟩:=hI.ZV x.a hh;exact XhV hI hI d1 d2 hh (Z3 hI x.a)};·exact⟨Nat.le_add_right _ _,Nat.le_add_right _ _⟩
 ·refine copy (.inr e) ?_;unfold Ar.Zp;split;·{rename_i hh;split;·{exact⟨Nat.le_add_right _ _,Nat.le_add_right _ _⟩};·rename_i hk;exact XhV hI hI hh.1 (Classical.not_not.1 (fun z=>hk (.inl z))) hh.2 (Z3 hI x.b)};·exact⟨Nat.le_add_right _ _,Nat.le_add_right _ _⟩
 ·exact other (by omega) (by omega) (Nat.le_trans (Xm5 _ _ _) (by omega))
 ·exact⟨fun _=>(Xfj hI x.a).2.2.2,fun h=>by omega,fun h=>absurd e h⟩
 ·exact other (by omega) (by omega) (triv (Xij _ _))
 ·exact other (by omega) (by omega) (Xm7 hx)
theorem Xna {x:OpD}(hx:ZC x):(Ar.new.Xo x).2.Xk=0:=by
 have z:∀{n:Nat},n≤Ar.new.Xk→n=0:=fun h=>Nat.le_zero.1 h
 refine XcX (P:=fun r=>r.2.Xk=0) ?_ ?_ ?_ ?_ ?_ ?_ ?_ ?_ ?_ ?_ ?_ ?_ ?_ ?_ ?_ ?_<;>intro e
 ·exact z (Xdw _ _ _ _)
 ·exact z (Xdw _ _ _ _)
 ·exact z (Xic _ _ _ _)
 ·exact z (Xid _ _ _)
 ·exact z (Xdx _ _)
 ·exact z (Xie _ _ _)
 ·exact z (Xif _ _ _)
 ·exact z (Xig _ _ _)
 ·exact z (Xih _ _ _ _ _)
 ·exact z (Xii _ _ _ _)
 ·unfold Ar.Zx;rw[if_neg (Xa3 _)];rfl
 ·unfold Ar.Zp;rw[if_neg (fun h=>Xa3 _ h.1)];rfl
 ·unfold Ar.YE;rw[if_pos (Xa3 _)];rfl
 ·unfold Ar.normalize;rw[if_neg (Xa3 _)];rfl
 ·exact z (Xij _ _)
 ·exact Nat.le_zero.1 (Xm8 x)
end
section
/-- What a text of a joined row will say. -/
def jtx (A : Ar) (J : List (Int × ByteArray)) (k : Int) : Nat := if (A.get k).Xa = 5 then ((J.lookup k).getD (A.get k).data).size else 0
theorem Xnb {f k:Int}{d:ByteArray}{J:List (Int×ByteArray)}(h:k≠f):((if f≠0 then [(f,d)]else [])++J).lookup k=J.lookup k:=by
 by_cases q:f=0
 ·rw[if_neg (fun z=>z q)];rfl
 ·rw[if_pos q];have:(k==f)=false:=by{simp[h]};simp[List.lookup,this]
theorem Xdy {A:Ar}:∀(l:List Int)(f:Int)(d:ByteArray),l.Nodup→(∀k∈l,k≠0∧k≠f)→((jk A f d l).1.map (jtx A (jk A f d l).2)).sum+(if f≠0 then(((jk A f d l).2.lookup f).getD (A.get f).data).size else 0)≤(if f≠0 then d.size else 0)+(l.map (fun k=>tx (A.get k))).sum
 | [],f,d,_,_=>by{unfold jk;by_cases q:f=0;·{simp[q]};·simp[q]}
 |k::l,f,d,hn,h=>by{rw[List.nodup_cons]at hn;have hk:=h k (by simp);have h':∀k'∈l,k'≠0∧k'≠f:=fun k' hk'=>h k' (by simp[hk']);have h0:∀k'∈l,k'≠0∧k'≠0:=fun k' hk'=>⟨(h' k' hk').1,(h' k' hk').1⟩;have hkk:∀k'∈l,k'≠0∧k'≠k:=fun k' hk'=>⟨(h' k' hk').1,fun e=>hn.1 (e▸hk')⟩;by_cases h5:(A.get k).Xa=5;·{have htx:tx (A.get k)=(A.get k).data.size:=by{unfold tx;rw[if_pos h5]};by_cases hf:f=0∧(A.get k).data≠ByteArray.empty;·{have e:jk A f d (k::l)=(k::(jk A k (A.get k).data l).1,(jk A k (A.get k).data l).2):=by{rw[jk,if_neg (fun q=>q h5),if_pos hf]};rw[e];have ih:=Xdy (A:=A) l k (A.get k).data hn.2 hkk;rw[if_pos hk.1,if_pos hk.1]at ih;rw[if_neg (fun q=>q hf.1),if_neg (fun q=>q hf.1)];simp only[List.map_cons,List.sum_cons];have e2:jtx A (jk A k (A.get k).data l).2 k=(((jk A k (A.get k).data l).2.lookup k).getD (A.get k).data).size:=by{unfold jtx;rw[if_pos h5]};rw[e2,htx];omega};·have e:jk A f d (k::l)=jk A f (d++(A.get k).data) l:=by{rw[jk,if_neg (fun q=>q h5),if_neg hf]};rw[e];have ih:=Xdy (A:=A) l f (d++(A.get k).data) hn.2 h';rw[ByteArray.size_append]at ih;simp only[List.map_cons,List.sum_cons];rw[htx];by_cases q:f=0;·{rw[if_neg (fun z=>z q),if_neg (fun z=>z q)]at ih⊢;omega};·rw[if_pos q,if_pos q]at ih⊢;omega};·have htx:tx (A.get k)=0:=by{unfold tx;rw[if_neg h5]};have e:jk A f d (k::l)=(k::(jk A 0 ByteArray.empty l).1,(if f≠0 then [(f,d)]else [])++(jk A 0 ByteArray.empty l).2):=by{rw[jk,if_pos h5]};rw[e];have ih:=Xdy (A:=A) l 0 ByteArray.empty hn.2 h0;rw[if_neg (fun q=>q rfl),if_neg (fun q=>q rfl)]at ih;simp only[List.map_cons,List.sum_cons];have e1:∀J,jtx A J k=0:=fun J=>by{unfold jtx;rw[if_neg h5]};have e2:(jk A 0 ByteArray.empty l).1.map (jtx A ((if f≠0 then [(f,d)]else [])++(jk A 0 ByteArray.empty l).2))=(jk A 0 ByteArray.empty l).1.map (jtx A (jk A 0 ByteArray.empty l).2):=List.map_congr_left (fun x hx=>by unfold jtx;rw[Xnb (h' x (JF l 0 ByteArray.empty x hx)).2]);rw[e1,e2,htx];by_cases q:f=0;·{rw[if_neg (fun z=>z q),if_neg (fun z=>z q)];omega};·rw[if_pos q,if_pos q,if_pos q];have:(((f,d)::(jk A 0 ByteArray.empty l).2).lookup f)=some d:=by{simp[List.lookup]};rw[List.singleton_append,this];simp only[Option.getD_some];omega}
theorem Xik {A:Ar}{h:Int}(hI:A.Inv)(hh:A.has h){y:Int}(hy:A.has y):(A.join h).YJ y≤A.YJ y:=by
 obtain⟨r1,r2,r3,r4⟩:=Xav hI hh
 have hks:=JF (B:=A) (A.get h).Xc 0 ByteArray.empty
 have hkeys:=JG (B:=A) (A.get h).Xc 0 ByteArray.empty
 have hjt:=Xdy (A:=A) (A.get h).Xc 0 ByteArray.empty (hI.wf.nodup h hh) (fun k hk=>by have:=(XF hI hh hk).1.1;exact⟨by omega,by omega⟩)
 rw[if_neg (fun q=>q rfl),if_neg (fun q=>q rfl)]at hjt
 generalize jk A 0 ByteArray.empty (A.get h).Xc=J at*
 have htx:∀k,A.has k→tx ((A.join h).get k)=jtx A J.2 k:=fun k hk=>by unfold tx jtx;rw[r4 k hk];rfl
 unfold Ar.YJ
 by_cases e:y=h
 ·subst e;have ek:((A.join y).get y).Xc=J.1:=by{rw[r4 y hh];show(if y=y then _ else _)=_;rw[if_pos rfl]};rw[ek,List.map_congr_left (fun k hk=>htx k (XF hI hh (hks k hk)).1)];have h2:(J.1.map (jtx A J.2)).sum=(J.1.map (fun k=>jtx A J.2 k)).sum:=rfl;omega
 ·have ek:((A.join h).get y).Xc=(A.get y).Xc:=by{rw[r4 y hy];show(if y=h then _ else _)=_;rw[if_neg e]};rw[ek];refine Nat.le_of_eq (congrArg List.sum (List.map_congr_left (fun k hk=>?_)));obtain⟨k1,k2,k3⟩:=XF hI hy hk;rw[htx k k1];unfold jtx tx;have:J.2.lookup k=none:=Jy (fun p hp=>by rcases hkeys p hp with⟨_,z⟩|⟨z,_⟩;·{exact absurd rfl z};·exact fun q=>e (by rw[←k3,←q];exact(XF hI hh z).2.2));rw[this];rfl
theorem Xnc {A:Ar}(hI:A.Inv)(h:Int){y:Int}(hy:A.has y):(A.normalize h).2.YJ y≤A.YJ y:=by
 unfold Ar.normalize
 split
 ·rename_i hh;obtain⟨q1,q2,q3,-⟩:=Xav hI hh;have hasj:∀{B:Ar},B.ns.length=A.ns.length→∀{x},A.has x→B.has x:=fun e x hx=>⟨hx.1,by have:=hx.2;unfold Ar.n at*;omega⟩;have hh1:=hasj q2 hh;dsimp only;refine(Ze (P:=fun B:Ar=>B.Inv∧B.ns.length=A.ns.length∧B.YJ y≤A.YJ y) ⟨q1,q2,Xik hI hh hy⟩ ?_).2.2;rintro B x hx⟨p1,p2,p3⟩;have hxB:B.has x:=by{have:=(Zt q1 h hh1 x hx).1;exact⟨this.1,by have:=this.2;unfold Ar.n at*;omega⟩};obtain⟨s1,s2,s3,-⟩:=Xav p1 hxB;exact⟨s1,s2.trans p2,Nat.le_trans (Xik p1 hxB (hasj p2 hy)) p3⟩
 ·exact Nat.le_refl _
/-- The texts below the nodes, all together. -/
def fK (A : Ar) (x : Int) : Nat := A.YJ x
theorem Xil {A:Ar}(hI:A.Inv):tot fK A≤A.Xk:=by
 rw[Xce]
 unfold tot
 have:(A.hs.map (fK A)).sum=((A.hs.flatMap (fun x=>(A.get x).Xc)).map (fun k=>tx (A.get k))).sum:=(Xdg (f:=fun k=>tx (A.get k)) (g:=fun x=>(A.get x).Xc)).symm
 rw[this]
 refine Xax (Xhz hI) (fun x hx=>?_)
 obtain⟨y,hy,hx⟩:=List.mem_flatMap.1 hx
 exact ZW.2 (XF hI (ZW.1 hy) hx).1
theorem Xnd {A:Ar}{x:Int}(hx:A.has x):A.YJ x≤tot fK A:=by
 have:=Xax (f:=fK A) (l:= [x]) (H:=A.hs) (by simp) (fun y hy=>by simp at hy;subst hy;exact ZW.2 hx)
 simpa[tot,fK]using this
theorem Xne {A:Ar}(hI:A.Inv)(h:Int):tot fK (A.normalize h).2≤tot fK A:=by
 have e:(A.normalize h).2.hs=A.hs:=by unfold Ar.hs;rw[(Xfj hI h).2.1]
 unfold tot
 rw[e]
 exact Xfa (fun x hx=>Xnc hI h (ZW.1 hx))
theorem Xnf {C B:Ar}{x y:Int}(q:ZJ C B x y):fK C x=fK B y:=by
 obtain⟨q1,q2,q3,q4,q5,q6,q7⟩:=q.inv
 unfold fK Ar.YJ
 exact congrArg List.sum (Xfo q4 (fun i x y hx hy=>Xdq (q7 i x y hx hy).inv.2.2.1))
theorem Xim {B:Ar}{x:Int}(h:(B.get x).Xc= []):fK B x=0:=by
 unfold fK Ar.YJ
 rw[h]
 rfl
theorem Xin {A B:Ar}(hA:A.Inv)(hold:∀x,A.has x→B.has x∧B.get x=A.get x):∀x,A.has x→fK B x=fK A x:=fun x hx=>by{unfold fK Ar.YJ;rw[(hold x hx).2];exact congrArg List.sum (List.map_congr_left (fun k hk=>by rw[(hold k (XF hA hx hk).1).2]))}
theorem Xa0.fK {C A B:Ar}{h d c:Int}(q:Xa0 C A B h d c)(hA:A.Inv)(hC:C.Inv):tot fK B≤tot fK A+tot fK C:=by
 have hh:=q.alk.inv.1
 refine Nat.le_trans (Xbx (A:=A) (W:=B.Xi c) (Xin hA q.old) (fun x h1 h2=>(q.new x h1 h2).imp id (fun z=>Xim z.1))) ?_
 rw[←Xfq Xnf hC q.inv h hh c q.alk]
 exact Nat.add_le_add_left (Xdr hC hh) _
theorem Xio {C A:Ar}(hC:C.Inv)(hA:A.Inv){h d:Int}{m:Nat}{deep:Bool}(hd:A.has d)(hk:(A.get d).Xa=1)(hh:C.has h)(hw:(C.Xi h).length≤m):tot fK (dupF C deep m A d h).2≤tot fK A+tot fK C:=by
 cases deep with|true=>{by_cases h1:(C.get h).Xa=1;·{exact(XhU (d:=d) hC hA hh h1 hw).fK hA hC};·exact(Xaw hC m hA hd hk hh h1 hw).fK hA hC}|false=>cases m with|zero=>{have:=YL hC hh;omega}|succ m=>have hmid:XH C false m (A.Xj d (C.get h)) d h=(A.Xj d (C.get h)).2:=by{unfold XH;rw[if_neg (fun q=>by simp at q)]};rw[Y8,hmid,if_neg (by decide)];dsimp only;have key:∀(B:Ar),(∀x,A.has x→B.has x∧B.get x=A.get x)→(∀x,B.has x→¬A.has x→(B.get x).Xc= [])→tot fK B≤tot fK A+tot fK C:=fun B k1 k2=>by{have a1:=Xbx (F:=fK) (A:=A) (B:=B) (W:= []) (Xin hA k1) (fun x h1 h2=> .inr (Xim (k2 x h1 h2)));simp at a1;omega};by_cases h1:(C.get h).Xa=1;·{have hal:A.Xj d (C.get h)=(A.n+1,A.Xn (C.get h).XI):=by{unfold Ar.Xj;rw[if_pos h1]};rw[hal];have hg:(A.Xn (C.get h).XI).get (A.n+1)={XL with Xa:=1,XI:=(C.get h).XI,doc:=A.n+1}:=by{rw[Ar.Xn,Ar.YS]};refine key _ (fun x hx=>⟨(Ar.XO _ _ _).2 (.inl hx),Ar.Zb _ hx⟩) (fun x g1 g2=>?_);rcases(Ar.XO _ _ _).1 g1 with q|q;·{exact absurd q g2};·rw[q,hg];rfl};·obtain⟨n1,n2,n3⟩:=Xbu hA hC hd hk hh h1;generalize(A.Xj d (C.get h)).2=B at*;refine key B n2.old (fun x g1 g2=>?_);rcases n3 with⟨z1,z2,z3⟩|⟨z1,cc,z2,z3,z4,z5,z6,z7,z8,z9⟩;·{rcases z3 x g1 g2 with q|q;·{rw[q];exact n2.Xc};·exact q.1};·rcases z9 x g1 g2 with q|q|q;·{rw[q];exact n2.Xc};·{rw[q];exact z6};·exact q.1
theorem Xng {A:Ar}(hI:A.Inv)(x:OpD):(x.Xa=34→tot fK (A.Xo x).2≤tot fK A)∧(x.Xa=31∨x.Xa=32→tot fK (A.Xo x).2≤2*tot fK A):=by
 constructor
 ·intro e;have:(A.Xo x).2=(A.normalize x.a).2:=by{unfold Ar.Xo;simp[e]};rw[this];exact Xne hI x.a
 ·rintro(e|e);·{have:(A.Xo x)=A.Zx x.a x.Xe:=by{unfold Ar.Xo;simp[e]};rw[this];unfold Ar.Zx;split;·{rename_i hh;obtain⟨d1,d2⟩:=hI.ZV x.a hh;have:=Xio (deep:=x.Xe) hI hI d1 d2 hh (Z3 hI x.a);dsimp only;omega};·dsimp only;omega};·have:(A.Xo x)=A.Zp A x.a x.b:=by{unfold Ar.Xo;simp[e]};rw[this];unfold Ar.Zp;split;·{rename_i hh;split;·{dsimp only;omega};·rename_i hk;have:=Xio (deep:=true) hI hI hh.1 (Classical.not_not.1 (fun z=>hk (.inl z))) hh.2 (Z3 hI x.b);dsimp only;omega};·dsimp only;omega
end
end Go.Proofs.YtpicinjcmjaogaaGreat
