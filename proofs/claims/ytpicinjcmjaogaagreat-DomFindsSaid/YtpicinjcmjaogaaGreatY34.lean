import Derived.Test.YtpicinjcmjaogaaGreatY21
set_option maxRecDepth 100000
set_option maxHeartbeats 4000000
set_option linter.unusedVariables false
namespace Go.Proofs.YtpicinjcmjaogaaGreat
variable{A B:Ar}{l:List Int}{k p c n y d h:Int}{r:Bool}
section
/-- The children before a child, and those behind it; all are before, if it is not there. -/
def Yl (K : List Int) (c : Int) : List Int × List Int := if Yt (λy => decide (y = c)) K < 0 then (K, []) else (K.take (Yt (λy => decide (y = c)) K).toNat, K.drop ((Yt (λy => decide (y = c)) K).toNat + 1))
/-- How many of some nodes are of a Xa. -/
def Ar.Yn (A : Ar) (l : List Int) (k : Int) : Nat := (l.filter (λx => decide ((A.get x).Xa = k))).length
theorem Xa5 :0<A.Yn l k↔k∈l.map (λx=>(A.get x).Xa):=by
 unfold Ar.Yn
 rw[List.length_pos_iff_exists_mem,List.mem_map]
 constructor
 ·rintro⟨x,hx⟩;rw[List.mem_filter]at hx;exact⟨x,hx.1,by simpa using hx.2⟩
 ·rintro⟨x,h1,h2⟩;exact⟨x,List.mem_filter.2 ⟨h1,by simpa using h2⟩⟩
theorem XaA (A:Ar)(l:List Int)(k:Int):A.Yn l k<=l.length:=List.length_filter_le _ _
theorem XnH {i:Nat}{x:Int}(hx:l[i]?=some x):A.Yn (l.take (i+1)) k=A.Yn (l.take i) k+(if(A.get x).Xa=k then 1 else 0):=by
 unfold Ar.Yn
 rw[List.take_add_one,hx,List.filter_append,List.length_append]
 congr 1
 by_cases q:(A.get x).Xa=k<;>simp[q]
theorem XnI (A:Ar)(l:List Int)(k:Int):A.Yn l k=(l.map (λx=>(A.get x).Xa)).count k:=by
 unfold Ar.Yn
 induction l with|nil=>{rfl}|cons x l ih=>rw[List.map_cons,List.count_cons,List.filter_cons,<-ih];by_cases q:(A.get x).Xa=k<;>simp[q]
theorem XfD {A:Ar}{c:Int}:∀(K:List Int)(b e:List Int),c∉K->K.foldl (Zf A c) (false,b,e)=(false,b++K.map (λx=>(A.get x).Xa),e)
 | [],b,e,_=>by{simp}
 |x::K,b,e,h=>by{rw[List.foldl_cons];have hx:x≠c:=λq=>h (by simp[q]);have:Zf A c (false,b,e) x=(false,b++ [(A.get x).Xa],e):=by{unfold Zf;rw[if_neg hx,if_neg (by simp)]};rw[this,XfD K _ _ (λq=>h (by simp[q]))];simp}
theorem XiC {A:Ar}{c:Int}:∀(K:List Int)(b e:List Int),c∉K->K.foldl (Zf A c) (true,b,e)=(true,b,e++K.map (λx=>(A.get x).Xa))
 | [],b,e,_=>by{simp}
 |x::K,b,e,h=>by{rw[List.foldl_cons];have hx:x≠c:=λq=>h (by simp[q]);have:Zf A c (true,b,e) x=(true,b,e++ [(A.get x).Xa]):=by{unfold Zf;rw[if_neg hx,if_pos rfl]};rw[this,XiC K _ _ (λq=>h (by simp[q]))];simp}
theorem XiD (hn:(A.get p).Xc.Nodup):A.Zn p c=((Yl (A.get p).Xc c).1.map (λx=>(A.get x).Xa),(Yl (A.get p).Xc c).2.map (λx=>(A.get x).Xa)):=by
 unfold Ar.Zn Yl
 by_cases hm:c∈(A.get p).Xc
 ·obtain⟨i,e1,e2,e3,e4⟩:=XcI hm;rw[e1,if_neg (by omega),Int.toNat_natCast];have hk:(A.get p).Xc=(A.get p).Xc.take i++c::(A.get p).Xc.drop (i+1):=by{have:=List.drop_eq_getElem_cons e2;rw[(List.getElem?_eq_some_iff.1 e3).2]at this;rw[<-this,List.take_append_drop]};have hn':=hn;rw[hk,List.nodup_append]at hn';have h1:c∉(A.get p).Xc.take i:=λq=>hn'.2.2 c q c (by simp) rfl;have h2:c∉(A.get p).Xc.drop (i+1):=(List.nodup_cons.1 hn'.2.1).1;have e:(A.get p).Xc.foldl (Zf A c) (false,[],[])=((A.get p).Xc.take i++c::(A.get p).Xc.drop (i+1)).foldl (Zf A c) (false,[],[]):=by{rw[<-hk]};rw[e,List.foldl_append,XfD _ _ _ h1,List.foldl_cons];have:Zf A c (false,[]++((A.get p).Xc.take i).map (λx=>(A.get x).Xa),[]) c=(true,[]++((A.get p).Xc.take i).map (λx=>(A.get x).Xa),[]):=by{unfold Zf;rw[if_pos rfl]};rw[this,XiC _ _ _ h2];simp
 ·have:Yt (λy=>decide (y=c)) (A.get p).Xc= -1:=JT (λj y hy=>by simp;exact λe=>hm (e▸List.mem_of_getElem? hy));rw[this,if_pos (by decide),XfD _ _ _ hm];simp
/-- What the Xn asks of an element, and of a doctype. -/
def Ar.XfE (A : Ar) (p c : Int) (r : Bool) : Prop := 0 < A.Yn (Yl (A.get p).Xc c).2 3 \/ 0 < A.Yn (Yl (A.get p).Xc c).1 4 + A.Yn (Yl (A.get p).Xc c).2 4 \/ (r = false /\ c ≠ 0 /\ ((A.get c).Xa = 4 \/ (A.get c).Xa = 3))
def Ar.XfF (A : Ar) (p c : Int) (r : Bool) : Prop := 0 < A.Yn (Yl (A.get p).Xc c).1 4 \/ 0 < A.Yn (Yl (A.get p).Xc c).1 3 + A.Yn (Yl (A.get p).Xc c).2 3 \/ (r = false /\ c ≠ 0 /\ (A.get c).Xa = 3)
theorem XnJ (hn:(A.get p).Xc.Nodup):A.XfE p c r↔A.Zu p c r:=by
 unfold Ar.XfE Ar.Zu
 rw[XiD hn,<-Xa5,<-Xa5,<-Xa5]
 constructor
 ·rintro(h|h|h);{exact .inr (.inr (.inl h))};{by_cases q:0<A.Yn (Yl (A.get p).Xc c).1 4;{exact .inl q};·exact .inr (.inl (by omega))};·exact .inr (.inr (.inr h))
 ·rintro(h|h|h|h);{exact .inr (.inl (by omega))};{exact .inr (.inl (by omega))};{exact .inl h};·exact .inr (.inr h)
theorem XnK (hn:(A.get p).Xc.Nodup):A.XfF p c r↔A.Jd p c r:=by
 unfold Ar.XfF Ar.Jd
 rw[XiD hn,<-Xa5,<-Xa5,<-Xa5]
 constructor
 ·rintro(h|h|h);{exact .inr (.inr (.inl h))};{by_cases q:0<A.Yn (Yl (A.get p).Xc c).1 3;{exact .inl q};·exact .inr (.inl (by omega))};·exact .inr (.inr (.inr h))
 ·rintro(h|h|h|h);{exact .inr (.inl (by omega))};{exact .inr (.inl (by omega))};{exact .inl h};·exact .inr (.inr h)
theorem XnL :A.JB p n c r↔(1<A.Yn (A.get n).Xc 4\/0<A.Yn (A.get n).Xc 5\/(A.Yn (A.get n).Xc 4=1/\A.Zu p c r)):=by
 unfold Ar.JB Ar.XbY
 rw[<-Xa5,<-XnI]
 constructor
 ·rintro(h|h|h);{exact .inr (.inl h)};{exact .inl h};·exact .inr (.inr h)
 ·rintro(h|h|h);{exact .inr (.inl h)};{exact .inl h};·exact .inr (.inr h)
theorem XnM (A:Ar)(p n c:Int)(r:Bool):A.Ya p n c r=if¬((A.get p).Xa=1\/(A.get p).Xa=2\/(A.get p).Xa=4)then 4 else if A.contains n p=true then 4 else if c≠0/\(A.get c).Xd≠p then 5 else if(A.get n).Xa=1 then 4 else if((A.get p).Xa=1/\(A.get n).Xa=5)\/((A.get p).Xa≠1/\(A.get n).Xa=3)then 4 else if(A.get p).Xa=1/\A.Xan p n c r then 4 else 0:=rfl
end
section
theorem XiE (h:k∉l):XQ l k=l:=List.filter_eq_self.2 (λy hy=>by simp;rintro rfl;exact h hy)
theorem XiF {x:Int}:x∈XQ l k↔x∈l/\x≠k:=by
 unfold XQ
 rw[List.mem_filter]
 simp
theorem XdB (hI:A.Inv){x:Int}(hx:A.has x)(hy:A.has y):(A.cut x).get y=(A.get y).re (XQ (A.get y).Xc x) (if y=x then 0 else(A.get y).Xd):=by
 rw[Ar.Zc hI hx hy]
 congr 1
 by_cases e:y=(A.get x).Xd
 ·rw[if_pos e]
 ·rw[if_neg e,XiE (λq=>e (XF hI hy q).2.2.symm)]
theorem XiG (hI:A.Inv){x:Int}(hx:A.has x):(A.cut x).Xi x=A.Xi x:=by
 refine Xcd hI (Ar.XC.cut hI hx) x hx (λz hz=>?_)
 obtain⟨z1,z2⟩:=(Jr hI x hx z).1 hz
 rw[XdB hI hx z1]
 refine⟨(Ar.X5 _ _ _).2 z1,?_,rfl⟩
 show XQ (A.get z).Xc x=_
 refine XiE (λq=>?_)
 obtain⟨q1,q2,q3⟩:=XF hI z1 q
 have hd:=Jq hI q1 z1 q2
 obtain⟨l1,e⟩:=XaS hI z1 z2
 have:A.depth x<=A.depth z:=by unfold Ar.depth;rw[e];simp
 omega
theorem XnN {n:Nd}{k k':List Int}{p' e:Int}(h1:k=k')(h2:p=p'):({n.re k p with doc:=e}:Nd)={n.re k' p' with doc:=e}:=by
 rw[h1,h2]
theorem XnO {x:Int}(hI:B.Inv)(hx:B.has x)(hp:B.has p)(hd:B.has d)(hk:(B.get d).Xa=1)(hkp:(B.get p).Xa=1\/(B.get p).Xa=2\/(B.get p).Xa=4)(hkx:(B.get x).Xa≠1/\(B.get x).Xa≠2)(hno:p∉B.Xi x)(hc:c≠0->B.has c/\c≠x/\(B.get c).Xd=p):(Yd d p c B x).Inv/\B.ns.length<=(Yd d p c B x).ns.length/\∀y,B.has y->(Yd d p c B x).has y/\∃e,(Yd d p c B x).get y={(B.get y).re (if y=p then YK (XQ (B.get y).Xc x) x c else XQ (B.get y).Xc x) (if y=x then p else(B.get y).Xd)with doc:=e}:=by
 obtain⟨i1,t,i3⟩:=Xbk hI hx hd hk
 have hle:B.ns.length<=(B.YM x d).ns.length:=by have:=t.le;rw[Ar.YY]at this;exact this
 have hC:(B.cut x).Inv:=Ar.XC.cut hI hx
 have hasC:∀y,B.has y->(B.cut x).has y:=λy hy=>(Ar.X5 _ _ _).2 hy
 have hget:∀y,B.has y->(B.YM x d).has y/\∃e,(B.YM x d).get y={(B.get y).re (XQ (B.get y).Xc x) (if y=x then 0 else(B.get y).Xd)with doc:=e}:=λy hy=>by refine⟨t.has (hasC y hy),?_⟩;obtain⟨e,he⟩:=t.get y (hasC y hy);exact⟨e,by rw[he,XdB hI hx hy]⟩
 have hwx:(B.YM x d).Xi x=B.Xi x:=by rw[t.Xi hC i1 x (hasC x hx),XiG hI hx]
 generalize hA1:B.YM x d=A1 at*
 have hst:Yd d p c B x=(A1.put p x c).2:=by unfold Yd;rw[hA1]
 rw[hst]
 obtain⟨hx1,ex,gx⟩:=hget x hx
 obtain⟨hp1,ep,gp⟩:=hget p hp
 have hne:p≠x:=λe=>hno (by rw[Ym hI hx,e];simp)
 have hct:A1.contains x p=false:=by rw[J0 i1,hwx];exact decide_eq_false hno
 have kp1:(A1.get p).Xa=(B.get p).Xa:=by rw[gp]<;>rfl
 have kx1:(A1.get x).Xa=(B.get x).Xa:=by rw[gx]<;>rfl
 have px1:(A1.get x).Xd=0:=by rw[gx];show(if x=x then(0:Int)else _)=0;rw[if_pos rfl]
 have hc1:c≠0->A1.has c/\(A1.get c).Xd=p:=λh0=>by obtain⟨a,b,e⟩:=hc h0;obtain⟨h1,ec,gc⟩:=hget c a;refine⟨h1,?_⟩;rw[gc];show(if c=x then(0:Int)else _)=p;rw[if_neg b,e]
 have hal:A1.allowed p x c (A1.contains x p)=0:=by unfold Ar.allowed;rw[if_neg (λq=>q.elim (λq=>q hp1) (λq=>q.elim (λq=>q hx1) (λq=>q.2 (hc1 q.1).1))),if_neg (λq=>q (by rw[kp1];exact hkp)),if_neg (λq=>q.elim (by rw[kx1];exact hkx.1) (λq=>q.elim (by rw[kx1];exact hkx.2) (λq=>by rw[hct]at q;exact absurd q (by decide)))),if_neg (λq=>q.2.elim (hc q.1).2.1 (λz=>z (hc1 q.1).2))]
 have e:(A1.put p x c).2=A1.place p x c:=by unfold Ar.put;rw[if_neg (λq=>q hal)]
 refine⟨Ar.Inv.put i1 p x c,by rw[(JO A1 p x c).2];exact hle,λy hy=>?_⟩
 obtain⟨hy1,ey,gy⟩:=hget y hy
 rw[e]
 refine⟨by unfold Ar.has;rw[Ar.XaI];exact hy1,ey,?_⟩
 rw[Ar.Xcy hp1 hx1 hy1 hne,J1 px1,gy]
 refine Eq.trans (show _=({(B.get y).re (if y=p then YK (XQ (B.get y).Xc x) x c else XQ (B.get y).Xc x) (if y=x then p else(if y=x then 0 else(B.get y).Xd))with doc:=ey}:Nd)from rfl) (XnN rfl ?_)
 by_cases q:y=x
 ·rw[if_pos q,if_pos q]
 ·rw[if_neg q,if_neg q,if_neg q]
/-- The Xc of a Xd where the nodes of l are put before c. -/
structure Xp0 (B B' : Ar) (l : List Int) (p : Int) (K1 K2 : List Int) : Prop where
  inv : B'.Inv
  le : B.ns.length <= B'.ns.length
  get : ∀ y, B.has y -> B'.has y /\ ∃ e, B'.get y = { (B.get y).re (if y = p then K1.filter (λz => z ∉ l) ++ l ++ K2.filter (λz => z ∉ l) else (B.get y).Xc.filter (λz => z ∉ l)) (if y ∈ l then p else (B.get y).Xd) with doc := e }
end
section
theorem XiH {A:Ar}{p n c:Int}{r:Bool}:∀(m i:Nat),i+m=6->A.ruleFrom p n c r i m=0->∀j,i<=j->j<6->¬A.rule p n c r j
 |0,i,hi,h,j,h1,h2=>by{omega}
 |m+1,i,hi,h,j,h1,h2=>by{unfold Ar.ruleFrom at h;split at h;{exact absurd h (by unfold Xao;(repeat' split);all_goals first|(decide)|omega)};·rename_i hr;rcases Nat.lt_or_ge i j with q|q;{exact XiH m (i+1) (by omega) h j (by omega) h2};·rw[show j=i by(omega)];exact hr}
theorem XiI (h:A.Ya p n c r=0):((A.get p).Xa=1\/(A.get p).Xa=2\/(A.get p).Xa=4)/\A.contains n p=false/\(c≠0->(A.get c).Xd=p)/\(A.get n).Xa≠1:=by
 have k:=XiH 6 0 rfl h
 have k0:¬¬_:=k 0 (by omega) (by omega)
 have k1:¬(A.contains n p=true):=k 1 (by omega) (by omega)
 have k2:¬(c≠0/\(A.get c).Xd≠p):=k 2 (by omega) (by omega)
 have k3:¬((A.get n).Xa=1):=k 3 (by omega) (by omega)
 exact⟨Classical.not_not.1 k0,by simpa using k1,λq=>Classical.not_not.1 (λz=>k2 ⟨q,z⟩),k3⟩
theorem XiJ (hI:A.Inv)(hc:A.has c):∀h,(A.cut c).has h->∀y∈(A.cut c).Xi h,y∈A.Xi h:=by
 have hC:=Ar.XC.cut hI hc
 refine Jc hC (λh hh hcc hk y hy=>?_)
 have hhA:A.has h:=(Ar.X5 _ _ _).1 hh
 have e:=XdB hI hc hhA
 rw[Ym hC hh]at hy
 rw[Ym hI hhA]
 have e1:((A.cut c).get h).Xg=(A.get h).Xg:=by rw[e]
 have e2:((A.cut c).get h).Xc=XQ (A.get h).Xc c:=by rw[e]
 rw[e1]at hcc hy
 rw[e2]at hk hy
 rcases List.mem_cons.1 hy with q|q
 ·exact List.mem_cons.2 (.inl q)
 ·refine List.mem_cons.2 (.inr (List.mem_append.2 ?_));rcases List.mem_append.1 q with q|q;{by_cases z:(A.get h).Xg=0;{rw[if_neg (λw=>w z)]at q;simp at q};·rw[if_pos z]at q⊢;exact .inl (hcc z y q)};·obtain⟨k,hkk,hyk⟩:=List.mem_flatMap.1 q;exact .inr (List.mem_flatMap.2 ⟨k,(XiF.1 hkk).1,hk k hkk y hyk⟩)
theorem XfG (hI:A.Inv)(hc:A.has c)(hp:(A.get c).Xd≠0):∃K1 K2,(A.get (A.get c).Xd).Xc=K1++c::K2/\A.next c=K2.head?.getD 0:=by
 obtain⟨i,h1,h2,h3⟩:=XeT hI hc hp
 have hk:=(List.getElem?_eq_some_iff.1 h3).2
 refine⟨(A.get (A.get c).Xd).Xc.take i,(A.get (A.get c).Xd).Xc.drop (i+1),?_,?_⟩
 ·have e:=List.drop_eq_getElem_cons h2;rw[hk]at e;rw[<-e,List.take_append_drop]
 ·unfold Ar.next;rw[h1];have e:((A.get (A.get c).Xd).Xc.drop (i+1)).head?=(A.get (A.get c).Xd).Xc[i+1]?:=by{rw[List.head?_drop]};rw[e];by_cases q:i+1<(A.get (A.get c).Xd).Xc.length;{rw[if_pos ⟨by omega,by omega⟩,show((i:Int)+1).toNat=i+1 by(omega)]};·rw[if_neg (λz=>q (by omega)),List.getElem?_eq_none (by omega)];rfl
theorem XnP (hI:A.Inv)(hp:A.has p)(hn:A.has n)(h1:(A.get n).Xa≠1)(hct:A.contains n p=false):(∀x∈A.X7 n,A.has x/\(A.get x).Xa≠1/\(A.get x).Xa≠2/\p∉A.Xi x/\(x=n\/(A.get x).Xd=n))/\(A.X7 n).Nodup:=by
 have hpw:p∉A.Xi n:=by rw[J0 hI]at hct;exact of_decide_eq_false hct
 unfold Ar.X7
 by_cases h2:(A.get n).Xa=2
 ·rw[if_pos h2];refine⟨λx hx=>?_,hI.wf.nodup n hn⟩;obtain⟨q1,q2,q3⟩:=XF hI hn hx;have:=hI.par x q1 (by rw[q3];have:=hn.1;omega);refine⟨q1,this.1,this.2,λz=>hpw ?_,.inr q3⟩;rw[Ym hI hn];exact List.mem_cons.2 (.inr (List.mem_append.2 (.inr (List.mem_flatMap.2 ⟨x,hx,z⟩))))
 ·rw[if_neg h2];refine⟨λx hx=>?_,by simp⟩;simp at hx;rw[hx];exact⟨hn,h1,h2,hpw,.inl rfl⟩
theorem XiK {c:Int}:∀{K1 K2 L1 L2:List Int},(K1++c::K2).Nodup->K1++c::K2=L1++c::L2->K1=L1/\K2=L2
 | [],K2,[],L2,_,h=>by{simp at h;exact⟨rfl,h⟩}
 | [],K2,y::L1,L2,hn,h=>by{simp at h;obtain⟨rfl,h⟩:=h;simp[h]at hn}
 |x::K1,K2,[],L2,hn,h=>by{simp at h;obtain⟨rfl,h⟩:=h;simp at hn}
 |x::K1,K2,y::L1,L2,hn,h=>by{simp only[List.cons_append,List.cons.injEq]at h;obtain⟨rfl,h⟩:=h;obtain⟨a,b⟩:=XiK (List.nodup_cons.1 hn).2 h;exact⟨by rw[a],b⟩}
theorem Xa6 {x:Int}(h:A.has x):x≠0:=by
 have:=h.1
 omega
end
section
theorem XiL (hI:A.Inv){x:Int}(hh:A.has h)(hx:x∈A.Xi h)(hy:y∈A.Xi x):y∈A.Xi h:=by
 obtain⟨x1,x2⟩:=(Jr hI h hh x).1 hx
 obtain⟨y1,y2⟩:=(Jr hI x x1 y).1 hy
 obtain⟨l1,e⟩:=XaS hI y1 y2
 exact(Jr hI h hh y).2 ⟨y1,by rw[e];simp[x2]⟩
theorem XfH (hI:A.Inv)(hh:A.has h):h∈A.Xi h:=by
 rw[Ym hI hh]
 simp
theorem XnQ (hI:A.Inv)(hh:A.has h)(hc:(A.get h).Xg≠0):(A.get h).Xg∈A.Xi h:=by
 rw[Ym hI hh,if_pos hc]
 simp[XfH hI (ZL hI hh hc).1]
theorem XnR (hy:A.has y)(hne:y≠h):(A.Xt h d).2.get y=A.get y:=by
 unfold Ar.Xt
 split
 ·rfl
 ·rename_i q;split;{rfl};·show(A.mod h _).get y=_;rw[Ar.Zr _ (Classical.not_not.1 (λe=>q (.inl e))) hy,if_neg hne]
theorem XiM :∀(n:Nat){A:Ar}{h d:Int},A.Inv->A.has h->A.has d->(A.get d).Xa=1->∀y,A.has y->y∉A.Xi h->(adoptF n A h d).get y=(A.cut h).get y
 |0,A,h,d,hI,hh,hd,hk,y,hy,hn=>rfl
 |n+1,A,h,d,hI,hh,hd,hk,y,hy,hn=>by{have hC:(A.cut h).Inv:=Ar.XC.cut hI hh;have hdC:(A.cut h).has d:=(Ar.X5 _ _ _).2 hd;have hkC:((A.cut h).get d).Xa=1:=by{rw[Ar.Zc hI hh hd];exact hk};have hhC:(A.cut h).has h:=(Ar.X5 _ _ _).2 hh;have hyC:(A.cut h).has y:=(Ar.X5 _ _ _).2 hy;have hnC:y∉(A.cut h).Xi h:=by{rw[XiG hI hh];exact hn};unfold adoptF;split;{rfl};·have:=Ze (f:=Yf (adoptF n) d) (l:=h::(A.cut h).below h) (b:=A.cut h) (P:=λB:Ar=>(B.Inv/\(A.cut h).Tree B)/\B.get y=(A.cut h).get y) ⟨⟨hC,Ar.Tree.refl _⟩,rfl⟩ ?_;{exact this.2};rintro B x hx⟨⟨hB,hT⟩,e⟩;have hxw:(A.cut h).has x/\x∈(A.cut h).Xi h:=by{rcases List.mem_cons.1 hx with rfl|hx;{exact⟨hhC,XfH hC hhC⟩};·exact⟨(Zt hC h hhC x hx).1,(Zt hC h hhC x hx).2.1⟩};refine⟨XbW hB hT hdC hkC hxw.1 (λB' c i hB' hc hp hi hik=>by have:=XaT n hB' hc hi hik;rw[J1 hp]at this;exact this),?_⟩;have hxy:y≠x:=λq=>hnC (q▸hxw.2);have h1:=Ar.Inv.Xt hB x d;have t1:=hT.trans (Ar.Xam B x d);have e1:=XnR (h:=x) (d:=d) (hT.has hyC) hxy;unfold Yf;split;{rw[e1,e]};·rename_i hc;obtain⟨c1,c2,c3⟩:=ZL h1 (t1.has hxw.1) hc;have hd1:=t1.has hdC;have h2:=Ar.XC.Xq h1 hd1;obtain⟨v1,v2⟩:=Ar.XC.Xbb h1 hd1;have t2:=Ar.Xal (B.Xt x d).2 d;have tt:=t1.trans t2;have ec:((B.Xt x d).2.get x).Xg=((A.cut h).get x).Xg:=t1.Xg hxw.1;have hcC:((A.cut h).get x).Xg≠0:=by{rw[<-ec];exact hc};obtain⟨k1,-,-⟩:=ZL hC hxw.1 hcC;have hyo:y∉((B.Xt x d).2.Xq d).2.Xi ((B.Xt x d).2.get x).Xg:=by{rw[ec,tt.Xi hC h2 _ k1];exact λq=>hnC (XiL hC hhC (XiL hC hhC hxw.2 (XnQ hC hxw.1 hcC)) q)};rw[XiM n h2 (t2.has c1) v1 v2 y (tt.has hyC) hyo,J1 (by rw[t2.Xd c1];exact c3),(Ar.JS (t1.has hyC)).1,e1,e]}
theorem XnS (hI:A.Inv)(hh:A.has h)(hd:A.has d)(hk:(A.get d).Xa=1)(hy:A.has y)(hn:y∉A.Xi h):(A.YM h d).get y=(A.cut h).get y:=XiM _ hI hh hd hk y hy hn
theorem XnT {x:Int}(hI:B.Inv)(hx:B.has x)(hd:B.has d)(hk:(B.get d).Xa=1)(hy:B.has y)(hn:y∉B.Xi x):((Yd d p c B x).get y).doc=(B.get y).doc:=by
 obtain⟨i1,t,-⟩:=Xbk hI hx hd hk
 unfold Yd
 rw[(XcT i1 p x c (t.has ((Ar.X5 _ _ _).2 hy))).2.2,XnS hI hx hd hk hy hn,Ar.Zc hI hx hy]
theorem XnU {B1:Ar}(hI:B.Inv)(h1:B1.Inv)(s:∀u,B.has u->u≠p->B1.has u/\(∀k∈(B1.get u).Xc,k∈(B.get u).Xc)/\(B1.get u).Xg=(B.get u).Xg):∀u,B.has u->p∉B.Xi u->∀v,v∈B1.Xi u->v∈B.Xi u:=by
 refine Jc hI (λu hu hcu hku hpu v hv=>?_)
 have hwu:=Ym hI hu
 have hup:u≠p:=λq=>hpu (by rw[hwu,q];simp)
 obtain⟨u1,ek,ec⟩:=s u hu hup
 rw[Ym h1 u1,ec]at hv
 rw[hwu]
 rcases List.mem_cons.1 hv with rfl|hv
 ·simp
 ·refine List.mem_cons.2 (.inr (List.mem_append.2 ?_));rcases List.mem_append.1 hv with hv|hv;{left;by_cases q:(B.get u).Xg=0;{rw[if_neg (λe=>e q)]at hv;simp at hv};·rw[if_pos q]at hv⊢;exact hcu q (λr=>hpu (by rw[hwu,if_pos q];simp[r])) v hv};·right;obtain⟨k,k1,k2⟩:=List.mem_flatMap.1 hv;refine List.mem_flatMap.2 ⟨k,ek k k1,hku k (ek k k1) (λr=>hpu ?_) v k2⟩;rw[hwu];exact List.mem_cons.2 (.inr (List.mem_append.2 (.inr (List.mem_flatMap.2 ⟨k,ek k k1,r⟩))))
theorem XiN {d p c:Int}:∀(l:List Int){B:Ar},B.Inv->B.has p->B.has d->(B.get d).Xa=1->((B.get p).Xa=1\/(B.get p).Xa=2\/(B.get p).Xa=4)->(∀x∈l,B.has x/\(B.get x).Xa≠1/\(B.get x).Xa≠2/\p∉B.Xi x)->l.Nodup->(c≠0->B.has c/\c∉l/\(B.get c).Xd=p)->∀y,B.has y->(∀x∈l,y∉B.Xi x)->((l.foldl (Yd d p c) B).get y).doc=(B.get y).doc
 | [],B,hI,hp,hd,hk,hkp,hl,hn,hc,y,hy,ho=>rfl
 |x::l,B,hI,hp,hd,hk,hkp,hl,hn,hc,y,hy,ho=>by{obtain⟨x1,x2,x3,x4⟩:=hl x (by simp);obtain⟨n1,n2⟩:=List.nodup_cons.1 hn;have hcm:c≠0->B.has c/\c≠x/\(B.get c).Xd=p:=λh0=>⟨(hc h0).1,λe=>(hc h0).2.1 (by simp[e]),(hc h0).2.2⟩;obtain⟨s1,s2,s3⟩:=XnO hI x1 hp hd hk hkp ⟨x2,x3⟩ x4 hcm;have o1:=XnT (p:=p) (c:=c) hI x1 hd hk hy (ho x (by simp));generalize hB1:Yd d p c B x=B1 at*;rw[List.foldl_cons,hB1,<-o1];have kk:∀y,B.has y->(B1.get y).Xa=(B.get y).Xa:=λy hy=>by{obtain⟨e,he⟩:=(s3 y hy).2;rw[he]<;>rfl};have hsh:=XnU (p:=p) hI s1 (λu hu hup=>by obtain⟨u1,e,he⟩:=s3 u hu;refine⟨u1,λk hkk=>?_,by rw[he]<;>rfl⟩;rw[he]at hkk;have hkk':k∈(if u=p then YK (XQ (B.get u).Xc x) x c else XQ (B.get u).Xc x):=hkk;rw[if_neg hup]at hkk';exact(XiF.1 hkk').1);refine XiN l s1 (s3 p hp).1 (s3 d hd).1 ((kk d hd).trans hk) (by rw[kk p hp];exact hkp) (λz hz=>by obtain⟨z1,z2,z3,z4⟩:=hl z (by simp[hz]);exact⟨(s3 z z1).1,by rw[kk z z1];exact z2,by rw[kk z z1];exact z3,λq=>z4 (hsh z z1 z4 p q)⟩) n2 (λh0=>?_) y (s3 y hy).1 (λz hz q=>?_);{obtain⟨c1,c2,c3⟩:=hc h0;obtain⟨d1,e,he⟩:=s3 c c1;refine⟨d1,λe=>c2 (by simp[e]),?_⟩;rw[he];show(if c=x then p else(B.get c).Xd)=p;rw[if_neg (λe=>c2 (by simp[e])),c3]};·obtain⟨z1,-,-,z4⟩:=hl z (by simp[hz]);exact ho z (by simp[hz]) (hsh z z1 z4 y q)}
end
section
theorem XdC (hI:A.Inv)(hn:A.has n)(hz:A.next n≠0):A.has (A.next n)/\(A.get (A.next n)).Xd=(A.get n).Xd/\A.next n≠n/\(A.get n).Xd≠0:=by
 have hp:(A.get n).Xd≠0:=λq=>by have:A.index n= -1:=by{unfold Ar.index;rw[if_neg (by simp[q])]};exact hz (by unfold Ar.next;rw[this,if_neg (by omega)])
 obtain⟨K1,K2,k1,k2⟩:=XfG hI hn hp
 have hpp:=(hI.wf.link n hn hp).1
 cases K2 with|nil=>{exact absurd k2 hz}|cons z K3=>have e:A.next n=z:=k2;have hz:z∈(A.get (A.get n).Xd).Xc:=by{rw[k1];simp};obtain⟨q1,q2,q3⟩:=XF hI hpp hz;have hnd:=hI.wf.nodup _ hpp;rw[k1,List.nodup_append]at hnd;rw[e];refine⟨q1,q3,λq=>?_,hp⟩;subst q;exact(List.nodup_cons.1 hnd.2.1).1 (by simp)
theorem XdD (hI:A.Inv)(hn:A.has n)(hc:A.has c)(hpc:(A.get c).Xd=p)(hne:c≠n)(hct:A.contains n p=false):c∉A.X7 n:=by
 intro hx
 have hpw:p∉A.Xi n:=by rw[J0 hI]at hct;exact of_decide_eq_false hct
 unfold Ar.X7 at hx
 split at hx
 ·have:=(XF hI hn hx).2.2;rw[hpc]at this;rw[this]at hpw;exact hpw (XfH hI hn)
 ·simp at hx;exact hne hx
theorem XfI (hI:A.Inv)(hp:A.has p)(hn:A.has n)(hkp:(A.get p).Xa=1\/(A.get p).Xa=2\/(A.get p).Xa=4)(h1:(A.get n).Xa≠1)(hct:A.contains n p=false)(hc:c≠0->A.has c/\c∉A.X7 n/\(A.get c).Xd=p)(k:Nat):(((A.X7 n).take k|>.foldl (Yd (A.get p).doc p c) A).get p).doc=(A.get p).doc:=by
 obtain⟨nf,nnd⟩:=XnP hI hp hn h1 hct
 obtain⟨d1,d2⟩:=hI.ZV p hp
 exact XiN _ hI hp d1 d2 hkp (λx hx=>by obtain⟨q1,q2,q3,q4,-⟩:=nf x (List.mem_of_mem_take hx);exact⟨q1,q2,q3,q4⟩) ((List.take_sublist _ _).nodup nnd) (λh0=>⟨(hc h0).1,λq=>(hc h0).2.1 (List.mem_of_mem_take q),(hc h0).2.2⟩) p hp (λx hx=>(nf x (List.mem_of_mem_take hx)).2.2.2.1)
theorem XnV (hI:A.Inv)(hv:A.Y4 p n c=0):A.has p/\A.has n/\(A.get n).Xa≠1/\∀k,(((A.X7 n).take k|>.foldl (Yd (A.get p).doc p (if c=n then A.next n else c)) A).get p).doc=(A.get p).doc:=by
 have hh:A.has p/\A.has n/\(c≠0->A.has c):=by unfold Ar.Y4 at hv;by_cases q:A.has p/\A.has n/\(c≠0->A.has c);{exact q};·rw[if_neg q]at hv;exact absurd hv (by decide)
 have hr:A.Ya p n c false=0:=by unfold Ar.Y4 at hv;rw[if_pos hh]at hv;exact hv
 obtain⟨hp,hn,hc⟩:=hh
 obtain⟨r1,r2,r3,r4⟩:=XiI hr
 refine⟨hp,hn,r4,λk=>XfI hI hp hn r1 r4 r2 (λh0=>?_) k⟩
 by_cases e:c=n
 ·rw[if_pos e]at h0⊢;subst e;obtain⟨q1,q2,q3,q4⟩:=XdC hI hn h0;have hp':=r3 (Xa6 hn);exact⟨q1,XdD hI hn q1 (q2.trans hp') q3 r2,q2.trans hp'⟩
 ·rw[if_neg e]at h0⊢;exact⟨hc h0,XdD hI hn (hc h0) (r3 h0) e r2,r3 h0⟩
theorem XnW (hI:A.Inv)(hp:A.has p)(hn:A.has n)(hc:A.has c)(hr:A.Ya p n c true=0):(A.cut c).Inv/\(A.cut c).has p/\(A.cut c).has n/\((A.cut c).get n).Xa≠1/\∀k,((((A.cut c).X7 n).take k|>.foldl (Yd ((A.cut c).get p).doc p (if A.next c=n then A.next n else A.next c)) (A.cut c)).get p).doc=((A.cut c).get p).doc:=by
 obtain⟨r1,r2,r3,r4⟩:=XiI hr
 have hC:(A.cut c).Inv:=Ar.XC.cut hI hc
 have hasC:∀y,A.has y->(A.cut c).has y:=λy hy=>(Ar.X5 _ _ _).2 hy
 have kindC:∀y,A.has y->((A.cut c).get y).Xa=(A.get y).Xa:=λy hy=>by rw[Ar.Zc hI hc hy]
 have hct:(A.cut c).contains n p=false:=by rw[J0 hC];rw[J0 hI]at r2;exact decide_eq_false (λq=>of_decide_eq_false r2 (XiJ hI hc n (hasC n hn) p q))
 have hcp:=r3 (Xa6 hc)
 have parC:∀y,A.has y->y≠c->((A.cut c).get y).Xd=(A.get y).Xd:=λy hy hne=>by rw[XdB hI hc hy];show(if y=c then 0 else(A.get y).Xd)=_;rw[if_neg hne]
 refine⟨hC,hasC p hp,hasC n hn,by rw[kindC n hn];exact r4,λk=>XfI hC (hasC p hp) (hasC n hn) (by rw[kindC p hp];exact r1) (by rw[kindC n hn];exact r4) hct (λh0=>?_) k⟩
 by_cases e:A.next c=n
 ·rw[if_pos e]at h0⊢;obtain⟨q1,q2,q3,q4⟩:=XdC hI hn h0;obtain⟨t1,t2,t3,t4⟩:=XdC hI hc (by rw[e];exact Xa6 hn);rw[e]at t2 t3;have hpar:(A.get (A.next n)).Xd=p:=by{rw[q2,t2,hcp]};have hne:A.next n≠c:=λq=>by{obtain⟨K1,K2,k1,k2⟩:=XfG hI hc (by rw[hcp];exact Xa6 hp);obtain⟨L1,L2,l1,l2⟩:=XfG hI hn q4;rw[t2]at l1;cases K2 with|nil=>{rw[e]at k2;exact Xa6 hn k2}|cons z K3=>have ez:n=z:=e.symm.trans k2;subst ez;have hnd:=hI.wf.nodup (A.get c).Xd (by rw[hcp];exact hp);rw[k1]at hnd l1;have hnd2:((K1++ [c])++n::K3).Nodup:=by{simpa using hnd};obtain⟨u1,u2⟩:=XiK hnd2 (by simpa using l1);rw[<-u2]at l2;cases K3 with|nil=>{exact Xa6 hc (q.symm.trans l2)}|cons y K4=>have ey:c=y:=q.symm.trans l2;subst ey;rw[List.nodup_append]at hnd;exact(List.nodup_cons.1 hnd.2.1).1 (by simp)};exact⟨hasC _ q1,XdD hC (hasC n hn) (hasC _ q1) (by rw[parC _ q1 hne];exact hpar) q3 hct,by rw[parC _ q1 hne];exact hpar⟩
 ·rw[if_neg e]at h0⊢;obtain⟨q1,q2,q3,q4⟩:=XdC hI hc h0;have hpar:(A.get (A.next c)).Xd=p:=by{rw[q2,hcp]};exact⟨hasC _ q1,XdD hC (hasC n hn) (hasC _ q1) (by rw[parC _ q1 q3];exact hpar) e hct,by rw[parC _ q1 q3];exact hpar⟩
theorem XnX (hI:A.Inv)(hl:∀x∈l,A.has x)(hn:A.has n):(l.foldl (λB k=>B.cut k) A).Inv/\(l.foldl (λB k=>B.cut k) A).ns.length=A.ns.length/\(∀y,A.has y->(l.foldl (λB k=>B.cut k) A).has y/\((l.foldl (λB k=>B.cut k) A).get y).Xa=(A.get y).Xa)/\∀y∈(l.foldl (λB k=>B.cut k) A).Xi n,y∈A.Xi n:=by
 refine Ze (P:=λB:Ar=>B.Inv/\B.ns.length=A.ns.length/\(∀y,A.has y->B.has y/\(B.get y).Xa=(A.get y).Xa)/\∀y∈B.Xi n,y∈A.Xi n) ⟨hI,rfl,λy hy=>⟨hy,rfl⟩,λy hy=>hy⟩ ?_
 rintro B x hx⟨h1,h2,h3,h4⟩
 have hxB:=(h3 x (hl x hx)).1
 have hC:(B.cut x).Inv:=Ar.XC.cut h1 hxB
 refine⟨hC,(Ar.YY B x).trans h2,λy hy=>⟨(Ar.X5 _ _ _).2 (h3 y hy).1,by rw[Ar.Zc h1 hxB (h3 y hy).1];exact(h3 y hy).2⟩,λy hy=>h4 y (XiJ h1 hxB n ((Ar.X5 _ _ _).2 (h3 n hn).1) y hy)⟩
theorem XnY (hI:A.Inv)(hp:A.has p)(hn:A.has n)(hkp:(A.get p).Xa=4\/(A.get p).Xa=2)(hkn:(A.get n).Xa=2)(hct:A.contains n p=false):(A.empty p).Inv/\(A.empty p).has p/\(A.empty p).has n/\((A.empty p).get n).Xa≠1/\(A.empty p).ns.length=A.ns.length/\∀k,((((A.empty p).X7 n).take k|>.foldl (Yd ((A.empty p).get p).doc p 0) (A.empty p)).get p).doc=((A.empty p).get p).doc:=by
 obtain⟨h1,h2,h3,h4⟩:=XnX hI (l:=(A.get p).Xc) (λx hx=>(XF hI hp hx).1) hn
 have e:(A.get p).Xc.foldl (λB k=>B.cut k) A=A.empty p:=rfl
 rw[e]at h1 h2 h3 h4
 have hk1:((A.empty p).get n).Xa≠1:=by rw[(h3 n hn).2,hkn];decide
 refine⟨h1,(h3 p hp).1,(h3 n hn).1,hk1,h2,λk=>XfI h1 (h3 p hp).1 (h3 n hn).1 ?_ hk1 ?_ (λh0=>absurd rfl h0) k⟩
 ·rw[(h3 p hp).2];rcases hkp with q|q;{exact .inr (.inr q)};·exact .inr (.inl q)
 ·rw[J0 h1];rw[J0 hI]at hct;exact decide_eq_false (λq=>of_decide_eq_false hct (h4 p q))
end
end Go.Proofs.YtpicinjcmjaogaaGreat
