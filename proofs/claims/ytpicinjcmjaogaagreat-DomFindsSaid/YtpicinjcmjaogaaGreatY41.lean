import Derived.Test.YtpicinjcmjaogaaGreatY24
set_option maxRecDepth 100000
set_option maxHeartbeats 4000000
set_option linter.unusedVariables false
namespace Go.Proofs.YtpicinjcmjaogaaGreat
variable{A B:Ar}{p p':Int->Nat}{x q h:Int}{l:List Int}{i:Nat}
section
theorem XoC (h1:B.ns.length=A.ns.length)(h2:B.Xh=A.Xh)(h3:∀x,A.has x->B.get x=A.get x):B=A:=by
 have hn:B.ns=A.ns:=by apply List.ext_getElem h1;intro i hi hj;have hx:A.has ((i:Int)+1):=⟨by omega,by unfold Ar.n;omega⟩;have:=h3 _ hx;unfold Ar.get at this;rw[show((i:Int)+1).toNat-1=i by(omega)]at this;simpa[hi,hj]using this
 cases A
 cases B
 simp at hn h2⊢
 exact⟨hn,h2⟩
/-- What is left of the first children of a node, and what their texts will say. -/
def Ar.jj (A : Ar) (p : Int -> Nat) (q : Int) : List Int × List (Int × ByteArray) := jk A 0 ByteArray.empty ((A.get q).Xc.take (p q))
/-- B is A, of which the first p x children of each node x are joined. -/
structure NQ (A : Ar) (p : Int -> Nat) (B : Ar) : Prop where
  inv : B.Inv
  len : B.ns.length = A.ns.length
  Xh : B.Xh = A.Xh
  p0 : p 0 = 0
  get : ∀ x, A.has x -> B.get x = (A.get x).re3 ((A.jj p x).1 ++ (A.get x).Xc.drop (p x))
    (if x ∈ (A.get (A.get x).Xd).Xc.take (p (A.get x).Xd) /\ (A.get x).Xa = 5 /\ x ∉ (A.jj p (A.get x).Xd).1 then 0 else (A.get x).Xd)
    (((A.jj p (A.get x).Xd).2.lookup x).getD (A.get x).data)
theorem NQ.has (h:NQ A p B):B.has x↔A.has x:=by
 have:=h.len
 unfold Ar.has Ar.n at*
 omega
theorem XfS (h:p q=0):A.jj p q=([],[]):=by
 unfold Ar.jj
 rw[h]
 simp[jk]
theorem JI (h:p' q=p q):A.jj p' q=A.jj p q:=by
 unfold Ar.jj
 rw[h]
theorem NQ.start (hI:A.Inv):NQ A (λ_=>0) A:=⟨hI,rfl,rfl,rfl,λx hx=>by rw[XfS rfl,XfS rfl];simp[Nd.re3]⟩
theorem NQ.unique {B':Ar}(h:NQ A p B)(h':NQ A p B'):B'=B:=XoC (h'.len.trans h.len.symm) (h'.Xh.trans h.Xh.symm) (λx hx=>(h'.get x (h.has.1 hx)).trans (h.get x (h.has.1 hx)).symm)
theorem NQ.congr (hI:A.Inv)(h:NQ A p B)(h0:p' 0=0)(he:∀x,A.has x->(A.get x).Xc≠ []->p' x=p x):NQ A p' B:=by
 refine⟨h.inv,h.len,h.Xh,h0,λx hx=>?_⟩
 have hq:A.jj p' (A.get x).Xd=A.jj p (A.get x).Xd/\(A.get (A.get x).Xd).Xc.take (p' (A.get x).Xd)=(A.get (A.get x).Xd).Xc.take (p (A.get x).Xd):=by by_cases hp:(A.get x).Xd=0;{rw[hp];exact⟨JI (h0.trans h.p0.symm),by rw[h0,h.p0]⟩};·obtain⟨l1,l2⟩:=hI.wf.link x hx hp;have hne:(A.get (A.get x).Xd).Xc≠ []:=λe=>by{rw[e]at l2;simp at l2};have:=he _ l1 hne;exact⟨JI this,by rw[this]⟩
 have hk:(A.jj p' x).1++(A.get x).Xc.drop (p' x)=(A.jj p x).1++(A.get x).Xc.drop (p x):=by by_cases hne:(A.get x).Xc= [];{unfold Ar.jj;rw[hne];simp};·have:=he x hx hne;rw[JI this,this]
 rw[h.get x hx,hq.1,hq.2,hk]
theorem NQ.XfT (h:NQ A p B)(hx:A.has x)(h0:p x=0):(B.get x).Xc=(A.get x).Xc:=by
 rw[h.get x hx]
 show(A.jj p x).1++_=_
 rw[XfS h0,h0]
 simp
theorem NQ.Xa (h:NQ A p B)(hx:A.has x):(B.get x).Xa=(A.get x).Xa:=by
 rw[h.get x hx]
 rfl
theorem XdL (hn:l.Nodup)(h1:x∈l.take i)(h2:x∈l.drop i):False:=by
 have:=List.nodup_append.1 (by rw[List.take_append_drop];exact hn:(l.take i++l.drop i).Nodup)
 exact this.2.2 x h1 x h2 rfl
theorem NQ.rest (hI:A.Inv)(h:NQ A p B){k:Int}(hq:A.has q)(hk:k∈(A.get q).Xc.drop (p q)):A.has k/\(A.get k).Xd=q/\(B.get k).Xa=(A.get k).Xa/\(B.get k).data=(A.get k).data/\(B.get k).Xd=q:=by
 have hkk:=List.mem_of_mem_drop hk
 obtain⟨k1,-,k3⟩:=XF hI hq hkk
 have hno:k∉(A.get q).Xc.take (p q):=λz=>XdL (hI.wf.nodup q hq) z hk
 refine⟨k1,k3,h.Xa k1,?_,?_⟩
 ·rw[h.get k k1,k3];show((A.jj p q).2.lookup k).getD _=_;rw[Jy (λz hz e=>?_)];{rfl};rcases JG _ _ _ z hz with⟨-,w⟩|⟨w,-⟩;{exact w rfl};·rw[e]at w;exact hno w
 ·rw[h.get k k1,k3];show(if _ then _ else _)=_;rw[if_neg (λz=>hno z.1)]
/-- p with another number at h. -/
def pAt (p : Int -> Nat) (h : Int) (n : Nat) : Int -> Nat := λx => if x = h then n else p x
theorem Jn (p:Int->Nat)(h:Int)(n:Nat):pAt p h n h=n:=if_pos rfl
theorem Zq (n:Nat)(e:x≠h):pAt p h n x=p x:=if_neg e
theorem NQ.join (hI:A.Inv)(h:NQ A p B)(hq:A.has q)(h0:p q=0):NQ A (pAt p q (A.get q).Xc.length) (B.join q):=by
 have hqB:=h.has.2 hq
 obtain⟨r1,r2,r3,r4⟩:=Xav h.inv hqB
 have hk:=h.XfT hq h0
 have hrest:=λk(hk:k∈(A.get q).Xc)=>h.rest hI hq (k:=k) (by rw[h0];exact hk)
 have hj:jk B 0 ByteArray.empty (B.get q).Xc=A.jj (pAt p q (A.get q).Xc.length) q:=by rw[hk,Xbt (B:=A) (B':=B) 0 ByteArray.empty (λk hk=>⟨(hrest k hk).2.2.1,(hrest k hk).2.2.2.1⟩)];unfold Ar.jj;rw[Jn,List.take_length]
 rw[hj]at r4
 refine⟨r1,r2.trans h.len,r3.trans h.Xh,?_,λx hx=>?_⟩
 ·unfold pAt;rw[if_neg (λe=>by rw[<-e]at hq;exact Za A hq)];exact h.p0
 ·rw[r4 x (h.has.2 hx)];have hkd:=h.Xa hx;rw[hkd];have e1:(if x=q then(A.jj (pAt p q (A.get q).Xc.length) q).1 else(B.get x).Xc)=(A.jj (pAt p q (A.get q).Xc.length) x).1++(A.get x).Xc.drop (pAt p q (A.get q).Xc.length x):=by{by_cases e:x=q;{subst e;rw[if_pos rfl,Jn,List.drop_length,List.append_nil]};·rw[if_neg e,JI (Zq _ e),Zq _ e,h.get x hx];rfl};rw[e1,hk];by_cases e:(A.get x).Xd=q;{have hxq:x∈(A.get q).Xc:=by{obtain⟨l1,l2⟩:=hI.wf.link x hx (by rw[e];exact λz=>by rw[z]at hq;exact Za A hq);rw[e]at l2;exact l2.1};obtain⟨-,-,-,s1,s2⟩:=hrest x hxq;rw[e,s1,s2,Jn,List.take_length];(conv=>lhs;rw[h.get x hx]);rw[Xc8]};·have hxq:x∉(A.get q).Xc:=λz=>e (XF hI hq z).2.2;rw[if_neg (λz=>hxq z.1),Jy (λz hz e'=>?_),JI (Zq _ e),Zq _ e];{(conv=>lhs;rw[h.get x hx]);rfl};·rcases JG _ _ _ z hz with⟨-,w⟩|⟨w,-⟩;{exact w rfl};·rw[e']at w;exact hxq (List.mem_of_mem_take w)
theorem NQ.XfU (hI:A.Inv):∀(l:List Int){B:Ar}{p:Int->Nat},NQ A p B->l.Nodup->(∀x∈l,A.has x/\p x=0)->NQ A (λx=>if x∈l then(A.get x).Xc.length else p x) (l.foldl Ar.join B)
 | [],B,p,h,_,_=>by{simpa using h}
 |a::l,B,p,h,hn,hp=>by{rw[List.nodup_cons]at hn;have h1:=h.join hI (hp a (by simp)).1 (hp a (by simp)).2;have h2:=NQ.XfU hI l h1 hn.2 (λx hx=>⟨(hp x (by simp[hx])).1,by rw[Zq _ (λe=>hn.1 (by rw[<-e];exact hx))];exact(hp x (by simp[hx])).2⟩);have e:(λx=>if x∈l then(A.get x).Xc.length else pAt p a (A.get a).Xc.length x)=(λx=>if x∈a::l then(A.get x).Xc.length else p x):=by{funext x;by_cases e1:x∈l;{simp[e1]};·by_cases e2:x=a;{subst e2;simp[e1,Jn]};·simp[e1,e2,Zq _ e2]};rw[<-e];exact h2}
theorem XoD (hA:A.Inv)(hB:B.Inv)(hhas:∀x,A.has x->B.has x):∀h,A.has h->(∀y,y=h\/y∈A.below h->(B.get y).Xc=(A.get y).Xc)->B.below h=A.below h:=by
 refine Jc hA (λh hh _ hk he=>?_)
 rw[ZD hA hh,ZD hB (hhas h hh),he h (.inl rfl)]
 refine XaR (λk hkk=>?_)
 rw[hk k hkk (λy hy=>he y (.inr ?_))]
 rw[ZD hA hh]
 exact List.mem_flatMap.2 ⟨k,hkk,List.mem_cons.2 hy⟩
theorem XdM {B:Ar}:∀(l:List Int)(f:Int)(d:ByteArray){x:Int},x∈l->(B.get x).Xa≠5->x∈(jk B f d l).1
 | [],f,d,x,hx,_=>absurd hx (by simp)
 |k::l,f,d,x,hx,hk=>by{unfold jk;rcases List.mem_cons.1 hx with rfl|hx;{rw[if_pos hk];simp};·split;{simp[XdM l 0 ByteArray.empty hx hk]};·split;{simp[XdM l k (B.get k).data hx hk]};·exact XdM l f _ hx hk}
theorem XiY (hI:A.Inv){k:Int}(hh:A.has h)(hk:k∈(A.get h).Xc):k≠h/\h∉A.below k:=by
 obtain⟨k1,-,-⟩:=XF hI hh hk
 have hlt:(A.Xi k).length<(A.Xi h).length:=(Zt hI h hh k (by rw[ZD hI hh];exact List.mem_flatMap.2 ⟨k,hk,by simp⟩)).2.2.1
 exact⟨λe=>by rw[e]at hlt;omega,λe=>by have:=(Zt hI k k1 h e).2.2.1;omega⟩
theorem XoE (hI:A.Inv)(hh:A.has h)(hx:A.has x)(hk:(A.get x).Xc≠ []):x∈(A.join h).below h↔x∈A.below h:=by
 have h1:=(NQ.start hI).join hI hh rfl
 have hhB:=h1.has.2 hh
 have hkh:((A.join h).get h).Xc=(jk A 0 ByteArray.empty (A.get h).Xc).1:=by rw[h1.get h hh];show(A.jj _ h).1++_=_;unfold Ar.jj;rw[Jn,List.take_length,List.drop_length,List.append_nil]
 have hb:∀k∈(A.get h).Xc,(A.join h).below k=A.below k:=λk hk=>by obtain⟨k1,-,-⟩:=XF hI hh hk;obtain⟨n1,n2⟩:=XiY hI hh hk;refine XoD hI h1.inv (λx=>h1.has.2) k k1 (λy hy=>h1.XfT ?_ (Zq _ ?_));{rcases hy with rfl|hy;{exact k1};·exact(Zt hI k k1 y hy).1};·rcases hy with rfl|hy;{exact n1};·exact λe=>n2 (by rw[<-e];exact hy)
 have h5:(A.get x).Xa≠5:=λe=>by have:=hI.ZB x hx hk;omega
 rw[ZD hI hh,ZD h1.inv hhB,hkh,List.mem_flatMap,List.mem_flatMap]
 constructor
 ·rintro⟨k,hk1,hk2⟩;have hks:=JF _ _ _ k hk1;exact⟨k,hks,by rw[hb k hks]at hk2;exact hk2⟩
 ·rintro⟨k,hk1,hk2⟩;obtain⟨k1,-,-⟩:=XF hI hh hk1;have hk5:(A.get k).Xa≠5:=λe=>by{rcases List.mem_cons.1 hk2 with e'|hk2;{rw[e']at h5;exact h5 e};·rw[ZD hI k1,show(A.get k).Xc= []from Classical.byContradiction λz=>by{have:=hI.ZB k k1 z;omega}]at hk2;simp at hk2};exact⟨k,XdM _ _ _ hk1 hk5,by rw[hb k hk1];exact hk2⟩
/-- How many children of each node Normalize XfU. -/
def Ar.full (A : Ar) (h : Int) : Int -> Nat := λx => if x = h \/ x ∈ A.below h then (A.get x).Xc.length else 0
theorem XoF (hI:A.Inv)(hh:A.has h):NQ A (A.full h) (A.normalize h).2:=by
 have h1:=(NQ.start hI).join hI hh rfl
 have hn:=Xfn h1.inv (h1.has.2 hh)
 rw[List.nodup_cons]at hn
 have hno:∀x,x∈(A.join h).below h->x≠h:=λx hx e=>by subst e;exact hn.1 hx
 have h2:=NQ.XfU hI _ h1 hn.2 (λx hx=>⟨h1.has.1 (Zt h1.inv h (h1.has.2 hh) x hx).1,Zq _ (hno x hx)⟩)
 unfold Ar.normalize
 rw[if_pos hh]
 refine h2.congr hI ?_ (λx hx hk=>?_)
 ·unfold Ar.full;rw[if_neg];rintro(e|e);{rw[<-e]at hh;exact Za A hh};·exact Za A (Zt hI h hh 0 e).1
 ·have:=XoE hI hh hx hk;unfold Ar.full;by_cases e:x=h;{rw[if_pos (.inl e),if_neg (λz=>hno x z e)];rw[e,Jn]};·by_cases e2:x∈A.below h;{rw[if_pos (.inr e2),if_pos (this.2 e2)]};·rw[if_neg (λz=>z.elim e e2),if_neg (λz=>e2 (this.1 z)),Zq _ e]
theorem XoG (hI:A.Inv)(hh:A.has h)(hB:NQ A (A.full h) B):B=(A.normalize h).2:=(XoF hI hh).unique hB
theorem XoH (A:Ar)(f:Int)(d:ByteArray):jk A f d []=([],if f≠0 then [(f,d)]else []):=by
 rw[jk]
theorem XfV (A:Ar)(f:Int)(d:ByteArray)(k:Int)(l:List Int):jk A f d (k::l)=if(A.get k).Xa≠5 then(k::(jk A 0 ByteArray.empty l).1,(if f≠0 then [(f,d)]else [])++(jk A 0 ByteArray.empty l).2)else if f=0/\(A.get k).data≠ByteArray.empty then(k::(jk A k (A.get k).data l).1,(jk A k (A.get k).data l).2)else jk A f (d++(A.get k).data) l:=by
 rw[jk]
theorem XbC {A:Ar}:∀(l:List Int)(f:Int)(d:ByteArray)(k:Int)(m:List Int),(A.get k).Xa≠5->jk A f d (l++k::m)=((jk A f d l).1++k::(jk A 0 ByteArray.empty m).1,(jk A f d l).2++(jk A 0 ByteArray.empty m).2)
 | [],f,d,k,m,hk=>by{rw[List.nil_append,XfV,if_pos hk,XoH];rfl}
 |a::l,f,d,k,m,hk=>by{rw[List.cons_append,XfV,XfV,XbC l 0 ByteArray.empty k m hk,XbC l a (A.get a).data k m hk,XbC l f _ k m hk];by_cases h1:(A.get a).Xa≠5;{rw[if_pos h1,if_pos h1];simp};·rw[if_neg h1,if_neg h1];by_cases h2:f=0/\(A.get a).data≠ByteArray.empty;{rw[if_pos h2,if_pos h2];rfl};·rw[if_neg h2,if_neg h2]}
/-- No text stands last. -/
def bnd (A : Ar) (l : List Int) : Prop := l = [] \/ ∃ l0 k, l = l0 ++ [k] /\ (A.get k).Xa ≠ 5
theorem XoI (h:bnd A l)(m:List Int):jk A 0 ByteArray.empty (l++m)=((jk A 0 ByteArray.empty l).1++(jk A 0 ByteArray.empty m).1,(jk A 0 ByteArray.empty l).2++(jk A 0 ByteArray.empty m).2):=by
 rcases h with rfl|⟨l0,k,rfl,hk⟩
 ·simp[jk]
 ·rw[List.append_assoc,List.singleton_append,XbC _ _ _ _ _ hk,XbC l0 0 ByteArray.empty k [] hk];simp[jk]
theorem NQ.skip (hI:A.Inv)(h:NQ A p B){k:Int}(hq:A.has q)(hk:(A.get q).Xc[p q]?=some k)(h5:(A.get k).Xa≠5):NQ A (pAt p q (p q+1)) B:=by
 have ht:(A.get q).Xc.take (p q+1)=(A.get q).Xc.take (p q)++ [k]:=by rw[List.take_add_one,hk];rfl
 have hj:A.jj (pAt p q (p q+1)) q=((A.jj p q).1++ [k],(A.jj p q).2):=by unfold Ar.jj;rw[Jn,ht,XbC _ _ _ _ _ h5];simp[jk]
 refine⟨h.inv,h.len,h.Xh,?_,λx hx=>?_⟩
 ·unfold pAt;rw[if_neg (λe=>by rw[<-e]at hq;exact Za A hq)];exact h.p0
 ·rw[h.get x hx];refine XaW ?_ ?_ ?_;{by_cases e:x=q;{subst e;obtain⟨hlt,e1⟩:=List.getElem?_eq_some_iff.1 hk;rw[hj,Jn,List.drop_eq_getElem_cons hlt,e1];simp};·rw[JI (Zq _ e),Zq _ e]};{by_cases e:(A.get x).Xd=q;{rw[e,hj,Jn,ht];by_cases hxk:x=k;{subst hxk;rw[if_neg (λz=>h5 z.2.1),if_neg (λz=>h5 z.2.1)]};·simp[hxk]};·rw[JI (Zq _ e),Zq _ e]};·by_cases e:(A.get x).Xd=q;{rw[e,hj]};·rw[JI (Zq _ e)]
/-- What the Xn does with one text of a run: f is the first that says something, or 0. -/
def Yg (f : Int) (d : ByteArray) (B : Ar) (x : Int) : Ar := if x = f then (B.XG x d).2 else B.cut x
theorem XoJ (hI:B.Inv){f:Int}{d:ByteArray}(hq:B.has q)(hx:x∈(B.get q).Xc)(h5:(B.get x).Xa=5):(Yg f d B x).Inv/\(Yg f d B x).ns.length=B.ns.length/\(Yg f d B x).Xh=B.Xh/\∀y,B.has y->(Yg f d B x).get y=(B.get y).re3 (if y=q/\x≠f then XQ (B.get y).Xc x else(B.get y).Xc) (if y=x/\x≠f then 0 else(B.get y).Xd) (if y=x/\x=f then d else(B.get y).data):=by
 obtain⟨x1,-,x3⟩:=XF hI hq hx
 unfold Yg
 by_cases e:x=f
 ·rw[if_pos e];obtain⟨-,n2,n3⟩:=J7 B x d;refine⟨hI.XG _ _,n2,n3,λy hy=>?_⟩;rw[Xe1 x1 h5 hy];refine XaW ?_ ?_ ?_;{rw[if_neg (λz=>z.2 e)]};{rw[if_neg (λz=>z.2 e)]};·by_cases e':y=x;{rw[if_pos e',if_pos ⟨e',e⟩]};·rw[if_neg e',if_neg (λz=>e' z.1)]
 ·rw[if_neg e];refine⟨Ar.XC.cut hI x1,Ar.YY _ _,Ar.Z2 _ _,λy hy=>?_⟩;rw[Ar.Zc hI x1 hy,x3];show(B.get y).re3 _ _ (B.get y).data=_;refine XaW ?_ ?_ ?_;{by_cases e':y=q;{rw[if_pos e',if_pos ⟨e',e⟩]};·rw[if_neg e',if_neg (λz=>e' z.1)]};{by_cases e':y=x;{rw[if_pos e',if_pos ⟨e',e⟩]};·rw[if_neg e',if_neg (λz=>e' z.1)]};·rw[if_neg (λz=>e z.2)]
theorem XiZ {f q:Int}{d:ByteArray}:∀(run:List Int){B:Ar},B.Inv->B.has q->run.Nodup->(∀x∈run,x∈(B.get q).Xc/\(B.get x).Xa=5)->(run.foldl (Yg f d) B).Inv/\(run.foldl (Yg f d) B).ns.length=B.ns.length/\(run.foldl (Yg f d) B).Xh=B.Xh/\∀y,B.has y->(run.foldl (Yg f d) B).get y=(B.get y).re3 (if y=q then(B.get y).Xc.filter (λz=>decide (z∉run\/z=f))else(B.get y).Xc) (if y∈run/\y≠f then 0 else(B.get y).Xd) (if y∈run/\y=f then d else(B.get y).data)
 | [],B,hI,hq,_,_=>⟨hI,rfl,rfl,λy hy=>by show B.get y=_;have e:(if y=q then(B.get y).Xc.filter (λz=>decide (z∉([]:List Int)\/z=f))else(B.get y).Xc)=(B.get y).Xc:=by{split;{exact List.filter_eq_self.2 (λz _=>by simp)};·rfl};rw[e,if_neg (λz=>absurd z.1 List.not_mem_nil),if_neg (λz=>absurd z.1 List.not_mem_nil)];rfl⟩
 |a::run,B,hI,hq,hn,hk=>by{rw[List.nodup_cons]at hn;obtain⟨a1,a2⟩:=hk a (by simp);obtain⟨s1,s2,s3,s4⟩:=XoJ hI (f:=f) (d:=d) hq a1 a2;have hh:∀y,(Yg f d B a).has y↔B.has y:=λy=>by{unfold Ar.has Ar.n;rw[s2]};have hk':∀x∈run,x∈((Yg f d B a).get q).Xc/\((Yg f d B a).get x).Xa=5:=λx hx=>by{obtain⟨b1,b2⟩:=hk x (by simp[hx]);have hxa:x≠a:=λe=>hn.1 (by rw[<-e];exact hx);refine⟨?_,?_⟩;{rw[s4 q hq];show x∈(if _ then _ else _);split;{unfold XQ;rw[List.mem_filter];exact⟨b1,by simpa using hxa⟩};·exact b1};·rw[s4 x (XF hI hq b1).1];exact b2};obtain⟨t1,t2,t3,t4⟩:=XiZ run s1 ((hh q).2 hq) hn.2 hk';refine⟨t1,t2.trans s2,t3.trans s3,λy hy=>?_⟩;show(run.foldl (Yg f d) (Yg f d B a)).get y=_;rw[t4 y ((hh y).2 hy),s4 y hy,Xc8];refine XaW ?_ ?_ ?_;{by_cases e:y=q;{subst e;rw[if_pos rfl,if_pos rfl];show List.filter _ (if _ then _ else _)=_;by_cases e':a=f;{rw[if_neg (λz=>z.2 e')];refine List.filter_congr (λz _=>?_);by_cases e2:z=a;{simp[e2,e']};·simp[e2]};·rw[if_pos ⟨rfl,e'⟩];unfold XQ;rw[List.filter_filter];refine List.filter_congr (λz _=>?_);by_cases e2:z=a;{subst e2;simp[e']};·simp[e2]};·rw[if_neg e,if_neg e];show(if _ then _ else _)=_;rw[if_neg (λz=>e z.1)]};{show(if _ then _ else(if _ then _ else _))=_;by_cases e:y=a;{subst e;by_cases e':y=f;{simp[e']};·simp[e']};·simp[e]};·show(if _ then _ else(if _ then _ else _))=_;by_cases e:y=a;{subst e;by_cases e':y=f;{simp[e']};·simp[e']};·simp[e]}
/-- The first text of a run that says something, or 0. -/
def Ar.Yh (A : Ar) (run : List Int) : Int := (run.find? (λx => decide ((A.get x).data ≠ ByteArray.empty))).getD 0
def Ar.runD (A : Ar) : ByteArray -> List Int -> ByteArray
  | d, [] => d
  | d, k :: l => A.runD (d ++ (A.get k).data) l
theorem Xi0 {A:Ar}:∀(run:List Int)(f:Int)(d:ByteArray),f≠0->(∀x∈run,(A.get x).Xa=5)->jk A f d run=([],[(f,A.runD d run)])
 | [],f,d,hf,_=>by{rw[jk,if_pos hf];rfl}
 |k::l,f,d,hf,h=>by{rw[jk,if_neg (λe=>e (h k (by simp))),if_neg (λe=>hf e.1),Xi0 l f _ hf (λx hx=>h x (by simp[hx]))];rfl}
theorem XfW (s:ByteArray):ByteArray.empty++s=s:=by
 apply ByteArray.ext
 simp
theorem Xi1 {A:Ar}:∀(run:List Int),(∀x∈run,(A.get x).Xa=5/\x≠0)->jk A 0 ByteArray.empty run=if A.Yh run=0 then([],[])else([A.Yh run],[(A.Yh run,A.runD ByteArray.empty run)])
 | [],h=>by{simp[jk,Ar.Yh]}
 |k::l,h=>by{obtain⟨h1,h2⟩:=h k (by simp);have h':∀x∈l,(A.get x).Xa=5/\x≠0:=λx hx=>h x (by simp[hx]);rw[jk,if_neg (λe=>e h1)];by_cases e:(A.get k).data=ByteArray.empty;{rw[if_neg (λz=>z.2 e),e,XfW,Xi1 l h'];have e1:A.Yh (k::l)=A.Yh l:=by{unfold Ar.Yh;rw[List.find?_cons_of_neg (by simp[e])]};have e2:A.runD ByteArray.empty (k::l)=A.runD ByteArray.empty l:=by{rw[Ar.runD,e,XfW]};rw[e1,e2]};·rw[if_pos ⟨rfl,e⟩,Xi0 l k _ h2 (λx hx=>(h' x hx).1)];have e1:A.Yh (k::l)=k:=by{unfold Ar.Yh;rw[List.find?_cons_of_pos (by simp[e])];rfl};rw[e1,if_neg h2,Ar.runD,XfW]}
theorem XoK {run:List Int}(h:A.Yh run≠0):A.Yh run∈run:=by
 unfold Ar.Yh at*
 cases hf:run.find? (λx=>decide ((A.get x).data≠ByteArray.empty))with|none=>{rw[hf]at h;simp at h}|some x=>exact List.mem_of_find?_eq_some hf
theorem NQ.run {A B:Ar}{p:Int->Nat}(hI:A.Inv)(h:NQ A p B){q:Int}(hq:A.has q){run rest:List Int}(hd:(A.get q).Xc.drop (p q)=run++rest)(hp:p q<=(A.get q).Xc.length)(h5:∀x∈run,(A.get x).Xa=5)(hb:bnd A ((A.get q).Xc.take (p q))):NQ A (pAt p q (p q+run.length)) (run.foldl (Yg (A.Yh run) (A.runD ByteArray.empty run)) B):=by
 have hnd:=hI.wf.nodup q hq
 have hlist:(A.get q).Xc=(A.get q).Xc.take (p q)++(run++rest):=by rw[<-hd,List.take_append_drop]
 have hrun:∀x∈run,x∈(A.get q).Xc.drop (p q):=λx hx=>by rw[hd];simp[hx]
 have hkB:(B.get q).Xc=(A.jj p q).1++(run++rest):=by rw[h.get q hq,<-hd];rfl
 have hz:∀x∈run,(A.get x).Xa=5/\x≠0:=λx hx=>⟨h5 x hx,λe=>Za A (by rw[<-e];exact(XF hI hq (List.mem_of_mem_drop (hrun x hx))).1)⟩
 have hnr:run.Nodup:=by have:=(List.drop_sublist (p q) (A.get q).Xc).nodup hnd;rw[hd]at this;exact(List.sublist_append_left run rest).nodup this
 obtain⟨t1,t2,t3,t4⟩:=XiZ (f:=A.Yh run) (d:=A.runD ByteArray.empty run) run h.inv (h.has.2 hq) hnr (λx hx=>⟨by rw[hkB];simp[hx],by rw[h.Xa (XF hI hq (List.mem_of_mem_drop (hrun x hx))).1];exact h5 x hx⟩)
 have ht:(A.get q).Xc.take (p q+run.length)=(A.get q).Xc.take (p q)++run:=by(conv=>lhs;rw[hlist]);rw[List.take_append,List.length_take,Nat.min_eq_left hp,List.take_of_length_le (by rw[List.length_take];omega),show p q+run.length-p q=run.length by(omega),List.take_left]
 have hdr:(A.get q).Xc.drop (p q+run.length)=rest:=by rw[<-List.drop_drop,hd,List.drop_left]
 have hj:A.jj (pAt p q (p q+run.length)) q=((A.jj p q).1++(jk A 0 ByteArray.empty run).1,(A.jj p q).2++(jk A 0 ByteArray.empty run).2):=by unfold Ar.jj;rw[Jn,ht,XoI hb]
 have hjr:=Xi1 run hz
 have hsub:∀x∈(A.jj p q).1,x∉run:=λx hx hx2=>XdL hnd (JF _ _ _ x hx) (hrun x hx2)
 have hrr:∀x∈rest,x∉run:=λx hx hx2=>by have:=(List.drop_sublist (p q) (A.get q).Xc).nodup hnd;rw[hd]at this;exact(List.nodup_append.1 this).2.2 x hx2 x hx rfl
 have hkeys:∀x∈run,(A.jj p q).2.lookup x=none:=λx hx=>Jy (λz hz e=>by rcases JG _ _ _ z hz with⟨-,w⟩|⟨w,-⟩;{exact w rfl};·rw[e]at w;exact XdL hnd w (hrun x hx))
 have hrk:∀x,x∉run->(jk A 0 ByteArray.empty run).2.lookup x=none:=λx hx=>Jy (λz hz e=>by rcases JG _ _ _ z hz with⟨-,w⟩|⟨w,-⟩;{exact w rfl};·rw[e]at w;exact hx w)
 refine⟨t1,t2.trans h.len,t3.trans h.Xh,?_,λx hx=>?_⟩
 ·unfold pAt;rw[if_neg (λe=>by rw[<-e]at hq;exact Za A hq)];exact h.p0
 ·rw[t4 x (h.has.2 hx)];(conv=>lhs;rw[h.get x hx]);rw[Xc8];refine XaW ?_ ?_ ?_;{show(if x=q then List.filter _ ((A.jj p x).1++_)else _)=_;by_cases e:x=q;{subst e;rw[if_pos rfl,hj,Jn,hdr,hd,List.filter_append,List.filter_append,List.append_assoc];have e1:(A.jj p x).1.filter (λz=>decide (z∉run\/z=A.Yh run))=(A.jj p x).1:=List.filter_eq_self.2 (λz hz=>by simp[hsub z hz]);have e3:rest.filter (λz=>decide (z∉run\/z=A.Yh run))=rest:=List.filter_eq_self.2 (λz hz=>by simp[hrr z hz]);have e2:run.filter (λz=>decide (z∉run\/z=A.Yh run))=(jk A 0 ByteArray.empty run).1:=by{have e4:run.filter (λz=>decide (z∉run\/z=A.Yh run))=run.filter (λz=>decide (z=A.Yh run)):=List.filter_congr (λz hz=>by simp[hz]);rw[e4,hjr];by_cases e5:A.Yh run=0;{rw[if_pos e5,e5];exact List.filter_eq_nil_iff.2 (λz hz'=>by simpa using(hz z hz').2)};·rw[if_neg e5];have hm:=XoK e5;generalize A.Yh run=r at*;clear e1 e3 e4 e5 hjr;clear hz hrk hkeys hrr hsub hj hdr ht t4 t3 t2 t1 hkB hrun hlist hd h5;induction run with|nil=>{simp at hm}|cons a run ih=>rw[List.nodup_cons]at hnr;by_cases ea:a=r;{rw[List.filter_cons_of_pos (by simpa using ea),ea,List.filter_eq_nil_iff.2 (λz hz=>?_)];simp;rintro rfl;exact hnr.1 (by rw[ea];exact hz)};·rw[List.filter_cons_of_neg (by simpa using ea)];exact ih hnr.2 ((List.mem_cons.1 hm).resolve_left (λe=>ea e.symm))};rw[e1,e2,e3]};·rw[if_neg e,JI (Zq _ e),Zq _ e];rfl};{show(if x∈run/\x≠A.Yh run then(0:Int)else(if _ then(0:Int)else _))=_;by_cases e:(A.get x).Xd=q;{rw[e,hj,Jn,ht];by_cases hxr:x∈run;{have hx5:=h5 x hxr;have hno1:x∉(A.get q).Xc.take (p q):=λz=>XdL hnd z (hrun x hxr);have hno2:x∉(A.jj p q).1:=λz=>hsub x z hxr;rw[hjr];by_cases e5:x=A.Yh run;{have:A.Yh run≠0:=by{rw[<-e5];exact(hz x hxr).2};rw[if_neg (λz=>z.2 e5),if_neg (λz=>hno1 z.1),if_neg (λz=>z.2.2 (by rw[if_neg this];simp[e5]))]};·rw[if_pos ⟨hxr,e5⟩,if_pos];refine⟨by simp[hxr],hx5,?_⟩;split;{simpa using hno2};·simp[hno2,e5]};·rw[if_neg (λz=>hxr z.1)];have hno:x∉(jk A 0 ByteArray.empty run).1:=λz=>hxr (JF _ _ _ x z);simp[hxr,hno]};·have hxr:x∉run:=λz=>e (XF hI hq (List.mem_of_mem_drop (hrun x z))).2.2;rw[if_neg (λz=>hxr z.1),JI (Zq _ e),Zq _ e]};·show(if x∈run/\x=A.Yh run then _ else(_:Option ByteArray).getD _)=_;by_cases e:(A.get x).Xd=q;{rw[e,hj];show _=(List.lookup x ((A.jj p q).2++(jk A 0 ByteArray.empty run).2)).getD _;rw[Xhj];by_cases hxr:x∈run;{rw[hkeys x hxr,hjr];by_cases e5:x=A.Yh run;{have:A.Yh run≠0:=by{rw[<-e5];exact(hz x hxr).2};rw[if_pos ⟨hxr,e5⟩,if_neg this,<-e5];simp};·rw[if_neg (λz=>e5 z.2)];split;{simp};·have:(x==A.Yh run)=false:=by{simp[e5]};simp[List.lookup_cons,this]};·rw[if_neg (λz=>hxr z.1),hrk x hxr];simp};·have hxr:x∉run:=λz=>e (XF hI hq (List.mem_of_mem_drop (hrun x z))).2.2;rw[if_neg (λz=>hxr z.1),JI (Zq _ e)]
/-- All below h is joined too. -/
def Ar.XbD (A : Ar) (p : Int -> Nat) (h : Int) : Int -> Nat := λx => if x = h \/ x ∈ A.below h then (A.get x).Xc.length else p x
/-- The first i children of h are joined, and all below them. -/
def Ar.Zk (A : Ar) (p : Int -> Nat) (h : Int) (i : Nat) : Int -> Nat := λx => if x = h then i else if x ∈ ((A.get h).Xc.take i).flatMap (λk => k :: A.below k) then (A.get x).Xc.length else p x
theorem XaC (A:Ar)(p:Int->Nat)(h:Int)(i:Nat):A.Zk p h i h=i:=if_pos rfl
theorem XoL (h0:p h=0):A.Zk p h 0=p:=by
 funext x
 unfold Ar.Zk
 by_cases e:x=h
 ·rw[if_pos e,e,h0]
 ·rw[if_neg e,if_neg (by simp)]
theorem XoM (hI:A.Inv)(hh:A.has h):A.Zk p h (A.get h).Xc.length=A.XbD p h:=by
 funext x
 unfold Ar.Zk Ar.XbD
 rw[List.take_length,<-ZD hI hh]
 by_cases e:x=h
 ·rw[if_pos e,if_pos (.inl e),e]
 ·rw[if_neg e];by_cases e2:x∈A.below h;{rw[if_pos e2,if_pos (.inr e2)]};·rw[if_neg e2,if_neg (λz=>z.elim e e2)]
theorem XoN (hh:A.has h)(h0:p 0=0)(hI:A.Inv):A.Zk p h i 0=0:=by
 unfold Ar.Zk
 rw[if_neg (λe=>by rw[<-e]at hh;exact Za A hh),if_neg (λe=>?_)]
 ·exact h0
 ·have:(0:Int)∈A.below h:=by{rw[ZD hI hh];obtain⟨k,hk,hz⟩:=List.mem_flatMap.1 e;exact List.mem_flatMap.2 ⟨k,List.mem_of_mem_take hk,hz⟩};exact Za A (Zt hI h hh 0 this).1
theorem NQ.XoO (hI:A.Inv)(h00:p 0=0)(hh:A.has h)(q:NQ A (A.Zk p h i) B){run rest:List Int}(hd:(A.get h).Xc.drop i=run++rest)(hi:i<=(A.get h).Xc.length)(h5:∀x∈run,(A.get x).Xa=5)(hb:bnd A ((A.get h).Xc.take i)):NQ A (A.Zk p h (i+run.length)) (run.foldl (Yg (A.Yh run) (A.runD ByteArray.empty run)) B):=by
 have r:=q.run hI hh (run:=run) (rest:=rest) (by rw[XaC];exact hd) (by rw[XaC];exact hi) h5 (by rw[XaC];exact hb)
 rw[XaC]at r
 refine r.congr hI (XoN hh h00 hI) (λx hx hk=>?_)
 unfold Ar.Zk pAt
 by_cases e:x=h
 ·rw[if_pos e,if_pos e]
 ·rw[if_neg e,if_neg e];show _=(if x=h then i else _);rw[if_neg e];have hlist:(A.get h).Xc.take (i+run.length)=(A.get h).Xc.take i++run:=by{(conv=>lhs;rw[<-List.take_append_drop i (A.get h).Xc,hd]);rw[List.take_append,List.length_take,Nat.min_eq_left hi,List.take_of_length_le (by rw[List.length_take];omega),show i+run.length-i=run.length by(omega),List.take_left]};have hno:x∉run.flatMap (λk=>k::A.below k):=λz=>by{obtain⟨k,hk1,hk2⟩:=List.mem_flatMap.1 z;have hkk:k∈(A.get h).Xc:=List.mem_of_mem_drop (i:=i) (by rw[hd];simp[hk1]);obtain⟨k1,-,-⟩:=XF hI hh hkk;have hk0:(A.get k).Xc= []:=Classical.byContradiction λz=>by{have:=hI.ZB k k1 z;have:=h5 k hk1;omega};rcases List.mem_cons.1 hk2 with e2|e2;{rw[e2]at hk;exact hk hk0};·rw[ZD hI k1,hk0]at e2;simp at e2};rw[hlist,List.flatMap_append];by_cases e2:x∈((A.get h).Xc.take i).flatMap (λk=>k::A.below k);{rw[if_pos e2,if_pos (List.mem_append.2 (.inl e2))]};·rw[if_neg e2,if_neg (λz=>(List.mem_append.1 z).elim e2 hno)]
theorem NQ.XoP (hI:A.Inv){k:Int}(hh:A.has h)(hz:∀x,x=h\/x∈A.below h->p x=0)(q:NQ A (A.Zk p h i) B)(hk:(A.get h).Xc[i]?=some k)(h5:(A.get k).Xa≠5):NQ A (pAt (A.Zk p h i) h (i+1)) B/\(∀x,x=k\/x∈A.below k->pAt (A.Zk p h i) h (i+1) x=0)/\A.XbD (pAt (A.Zk p h i) h (i+1)) k=A.Zk p h (i+1):=by
 have r:=q.skip hI hh (k:=k) (by rw[XaC];exact hk) h5
 rw[XaC]at r
 have hkk:=List.mem_of_getElem? hk
 obtain⟨n1,n2⟩:=XiY hI hh hkk
 have hnd:=Xfn hI hh
 rw[List.nodup_cons,ZD hI hh]at hnd
 have ht:(A.get h).Xc.take (i+1)=(A.get h).Xc.take i++ [k]:=by rw[List.take_add_one,hk];rfl
 have hin:∀x,x=k\/x∈A.below k->x∈A.below h:=λx hx=>by rw[ZD hI hh];exact List.mem_flatMap.2 ⟨k,hkk,List.mem_cons.2 hx⟩
 have hne:∀x,x=k\/x∈A.below k->x≠h:=λx hx e=>by rw[e]at hx;exact hx.elim (λz=>n1 z.symm) n2
 have hdis:∀x,x=k\/x∈A.below k->x∉((A.get h).Xc.take i).flatMap (λk=>k::A.below k):=λx hx z=>by have h2:=hnd.2;rw[<-List.take_append_drop i (A.get h).Xc,List.flatMap_append,List.nodup_append]at h2;obtain⟨hlt,ek⟩:=List.getElem?_eq_some_iff.1 hk;refine h2.2.2 x z x ?_ rfl;rw[List.drop_eq_getElem_cons hlt,ek,List.flatMap_cons];exact List.mem_append.2 (.inl (List.mem_cons.2 hx))
 refine⟨r,λx hx=>?_,?_⟩
 ·rw[Zq _ (hne x hx)];unfold Ar.Zk;rw[if_neg (hne x hx),if_neg (hdis x hx)];exact hz x (.inr (hin x hx))
 ·funext x;unfold Ar.XbD;by_cases hx:x=k\/x∈A.below k;{rw[if_pos hx];unfold Ar.Zk;rw[if_neg (hne x hx),ht,List.flatMap_append,if_pos (List.mem_append.2 (.inr (by simpa using hx)))]};·rw[if_neg hx];by_cases e:x=h;{rw[e,Jn,XaC]};·rw[Zq _ e];unfold Ar.Zk;rw[if_neg e,if_neg e,ht,List.flatMap_append];by_cases e2:x∈((A.get h).Xc.take i).flatMap (λk=>k::A.below k);{rw[if_pos e2,if_pos (List.mem_append.2 (.inl e2))]};·rw[if_neg e2,if_neg (λz=>(List.mem_append.1 z).elim e2 (λz=>hx (by simpa using z)))]
theorem XoQ (hI:A.Inv)(hh:A.has h)(q:NQ A (A.XbD (λ_=>0) h) B):B=(A.normalize h).2:=by
 refine XoG hI hh ?_
 exact q
theorem Xi2 {A:Ar}:∀(run:List Int)(d:ByteArray),(∀x∈run,(A.get x).Xa=5)->(A.runD d run).size=d.size+(run.map (λy=>tx (A.get y))).sum
 | [],d,_=>by{simp[Ar.runD]}
 |k::l,d,h=>by{rw[Ar.runD,Xi2 l _ (λx hx=>h x (by simp[hx])),ByteArray.size_append,List.map_cons,List.sum_cons];have:tx (A.get k)=(A.get k).data.size:=by{unfold tx;rw[if_pos (h k (by simp))]};omega}
end
end Go.Proofs.YtpicinjcmjaogaaGreat
