import Derived.Test.YtpicinjcmjaogaaGreatY22
set_option maxRecDepth 100000
set_option maxHeartbeats 4000000
set_option linter.unusedVariables false
namespace Go.Proofs.YtpicinjcmjaogaaGreat
variable{A B C:Ar}{h y d:Int}{K dn:List Int}{k m:Nat}
section
def Ar.YJ (A : Ar) (h : Int) : Nat := ((A.get h).Xc.map (λy => tx (A.get y))).sum
theorem Xmg (hI:A.Inv)(hh:A.has h):A.YJ h<=A.Xk:=by
 rw[Xce]
 exact Xax (hI.wf.nodup h hh) (λx hx=>ZW.2 (XF hI hh hx).1)
/-- Joining, up to a child. -/
structure Xab (A : Ar) (K : List Int) (k : Nat) (s : X8) : Prop where
  inv : s.ar.Inv
  n : s.ar.n = A.n
  Xa : ∀ y, A.has y -> (s.ar.get y).Xa = (A.get y).Xa
  data : ∀ y ∈ K.drop k, (s.ar.get y).data = (A.get y).data
  size : s.data.size <= ((K.take k).map (λy => tx (A.get y))).sum
  first : s.first ≠ 0 -> s.first ∈ K.take k /\ (A.get s.first).Xa = 5
theorem Xab.has {s:X8}(h:Xab A K k s){x:Int}(hx:A.has x):s.ar.has x:=by
 unfold Ar.has
 rw[h.n]
 exact hx
theorem Xab.flush {s:X8}(h:Xab A K k s)(hK:∀x∈K,A.has x)(hn:K.Nodup):Xab A K k s.flush:=by
 have hf:s.first≠0->s.ar.has s.first/\(s.ar.get s.first).Xa=5:=λq=>by have:=hK _ (List.mem_of_mem_take (h.first q).1);exact⟨h.has this,(h.Xa _ this).trans (h.first q).2⟩
 refine⟨Xc9 h.inv,(XaX s).1.trans h.n,λy hy=>?_,λy hy=>?_,?_,λq=>absurd rfl q⟩
 ·rw[Xau hf (h.has hy)];exact h.Xa y hy
 ·have hyK:=List.mem_of_mem_drop hy;rw[Xau hf (h.has (hK y hyK))];show(List.lookup y _).getD (s.ar.get y).data=_;have:(if s.first≠0 then [(s.first,s.data)]else []).lookup y=none:=Jy (λp hp=>by by_cases z:s.first=0;{rw[if_neg (λq=>q z)]at hp;simp at hp};·rw[if_pos z]at hp;simp at hp;subst hp;intro e;have e':s.first=y:=e;have h1:=(h.first z).1;rw[<-List.take_append_drop k K]at hn;exact(List.nodup_append.1 hn).2.2 _ h1 _ hy e');rw[this];exact h.data y hy
 ·exact Nat.zero_le _
theorem Xfm {x:Int}{f:Int->Nat}(hx:K[k]?=some x):((K.take (k+1)).map f).sum=((K.take k).map f).sum+f x:=by
 rw[List.take_add_one,hx]
 simp
theorem Xab.step {s:X8}{x:Int}(h:Xab A K k s)(hK:∀x∈K,A.has x)(hn:K.Nodup)(hx:K[k]?=some x):Xab A K (k+1) (s.step x):=by
 have hk:=(List.getElem?_eq_some_iff.1 hx).1
 have hxK:=List.mem_of_getElem? hx
 have hxh:=hK x hxK
 have hdrop:K.drop k=x::K.drop (k+1):=by rw[List.drop_eq_getElem_cons hk,(List.getElem?_eq_some_iff.1 hx).2]
 have hxd:(s.ar.get x).data=(A.get x).data:=h.data x (by rw[hdrop];simp)
 have hxk:=h.Xa x hxh
 have mono:∀y,y∈K.drop (k+1)->y∈K.drop k:=λy hy=>by rw[hdrop];simp[hy]
 have memt:∀y,y∈K.take k->y∈K.take (k+1):=λy hy=>by rw[List.take_add_one];simp[hy]
 unfold X8.step
 by_cases h5:(s.ar.get x).Xa=5
 ·rw[if_neg (λq=>q h5)];have htx:tx (A.get x)=(A.get x).data.size:=by{unfold tx;rw[if_pos (hxk.symm.trans h5)]};by_cases h0:s.first=0/\(s.ar.get x).data≠ByteArray.empty;{rw[if_pos h0];refine⟨h.inv,h.n,h.Xa,λy hy=>h.data y (mono y hy),?_,λ_=>⟨?_,hxk.symm.trans h5⟩⟩;{dsimp only;rw[Xfm hx,hxd,htx];omega};·dsimp only;rw[List.take_add_one,hx];simp};·rw[if_neg h0];have hxs:=h.has hxh;have hg:∀y,A.has y->((s.ar.cut x).get y).Xa=(s.ar.get y).Xa/\((s.ar.cut x).get y).data=(s.ar.get y).data:=λy hy=>by{rw[Ar.Zc h.inv hxs (h.has hy)];exact⟨rfl,rfl⟩};refine⟨Ar.XC.cut h.inv hxs,(Ar.XaG _ _).trans h.n,λy hy=>(hg y hy).1.trans (h.Xa y hy),λy hy=>?_,?_,λq=>⟨memt _ (h.first q).1,(h.first q).2⟩⟩;{exact(hg y (hK y (List.mem_of_mem_drop hy))).2.trans (h.data y (mono y hy))};·dsimp only;rw[Xfm hx,hxd,htx,ByteArray.size_append];have:=h.size;omega
 ·rw[if_pos h5];have hf:=h.flush hK hn;refine⟨hf.inv,hf.n,hf.Xa,λy hy=>hf.data y (mono y hy),?_,λq=>absurd rfl q⟩;show ByteArray.empty.size<=_;exact Nat.zero_le _
theorem XhM {A:Ar}{h:Int}(hI:A.Inv)(hh:A.has h):∀k,k<=(A.get h).Xc.length->Xab A (A.get h).Xc k (((A.get h).Xc.take k).foldl X8.step ⟨A,0,ByteArray.empty⟩)
 |0,_=>⟨hI,rfl,λ_ _=>rfl,λ_ _=>rfl,Nat.zero_le _,λq=>absurd rfl q⟩
 |k+1,hk=>by{obtain⟨x,hx⟩:∃x,(A.get h).Xc[k]?=some x:=⟨_,List.getElem?_eq_getElem (by omega)⟩;have:=(XhM hI hh k (by omega)).step (λx hx=>(XF hI hh hx).1) (hI.wf.nodup h hh) hx;rw[List.take_add_one,hx,List.foldl_append];exact this}
end
section
theorem XhN {α β:Type}{f g:α->List β}:∀{l:List α},(∀x∈l,(f x).Sublist (g x))->(l.flatMap f).Sublist (l.flatMap g)
 | [],_=>by{simp}
 |a::l,h=>by{rw[List.flatMap_cons,List.flatMap_cons];exact(h a (by simp)).append (XhN (λx hx=>h x (by simp[hx])))}
theorem Xmh (hI:A.Inv):∀h,A.has h->(h::A.below h).Sublist (A.Xi h):=by
 refine Jc hI (λh hh _ hk=>?_)
 rw[ZD hI hh,Ym hI hh]
 exact((XhN hk).trans (List.sublist_append_right _ _)).cons_cons _
theorem Xfn (hI:A.Inv)(hh:A.has h):(h::A.below h).Nodup:=(Xmh hI h hh).nodup (Xeq hI h hh)
/-- Joining, at some of the nodes. -/
structure ZA (A : Ar) (dn : List Int) (B : Ar) : Prop where
  inv : B.Inv
  len : B.ns.length = A.ns.length
  Xc : ∀ y, A.has y -> y ∉ dn -> (B.get y).Xc = (A.get y).Xc /\ ∀ k ∈ (A.get y).Xc, tx (B.get k) = tx (A.get k)
theorem ZA.has (h:ZA A dn B){x:Int}(hx:A.has x):B.has x:=by
 have:=h.len
 unfold Ar.has Ar.n at*
 omega
theorem ZA.XhO (h:ZA A dn B){x:Int}(hx:B.has x):A.has x:=by
 have:=h.len
 unfold Ar.has Ar.n at*
 omega
theorem ZA.start (hI:A.Inv):ZA A [] A:=⟨hI,rfl,λ_ _ _=>⟨rfl,λ_ _=>rfl⟩⟩
theorem ZA.tx (h:ZA A dn B)(hI:A.Inv){x:Int}(hx:A.has x)(hn:x∉dn):B.YJ x=A.YJ x:=by
 obtain⟨h1,h2⟩:=h.Xc x hx hn
 unfold Ar.YJ
 rw[h1]
 exact congrArg List.sum (List.map_congr_left h2)
theorem ZA.step (h:ZA A dn B)(hI:A.Inv){x:Int}(hx:A.has x):ZA A (dn++ [x]) (B.join x):=by
 have hxB:=h.has hx
 obtain⟨r1,r2,r3,r4⟩:=Xav h.inv hxB
 have hkeys:=JG (B:=B) (B.get x).Xc 0 ByteArray.empty
 generalize jk B 0 ByteArray.empty (B.get x).Xc=J at*
 refine⟨r1,r2.trans h.len,λy hy hn=>?_⟩
 rw[List.mem_append,not_or]at hn
 obtain⟨h1,h2⟩:=h.Xc y hy hn.1
 have hyx:y≠x:=λe=>hn.2 (by simp[e])
 have hyB:=h.has hy
 refine⟨?_,λk hk=>?_⟩
 ·rw[r4 y hyB];show(if y=x then _ else _)=_;rw[if_neg hyx];exact h1
 ·obtain⟨k1,k2,k3⟩:=XF hI hy hk;have hkB:k∈(B.get y).Xc:=by{rw[h1];exact hk};obtain⟨b1,b2,b3⟩:=XF h.inv hyB hkB;rw[<-h2 k hk,r4 k b1];have:J.2.lookup k=none:=Jy (λp hp=>by rcases hkeys p hp with⟨_,z⟩|⟨z,_⟩;{exact absurd rfl z};·intro e;have:=(XF h.inv hxB z).2.2;rw[show p.1=k from e,b3]at this;exact hyx this);unfold Go.Proofs.YtpicinjcmjaogaaGreat.tx;show(if(B.get k).Xa=5 then((J.2.lookup k).getD (B.get k).data).size else 0)=_;rw[this];rfl
theorem XhP {A:Ar}{h:Int}(hI:A.Inv)(hh:A.has h):∀k,k<=((A.join h).below h).length->ZA A (h::((A.join h).below h).take k) ((((A.join h).below h).take k).foldl Ar.join (A.join h))
 |0,_=>(ZA.start hI).step hI hh
 |k+1,hk=>by{obtain⟨x,hx⟩:∃x,((A.join h).below h)[k]?=some x:=⟨_,List.getElem?_eq_getElem (by omega)⟩;have h0:ZA A [h] (A.join h):=(ZA.start hI).step hI hh;have hxA:=h0.XhO (Zt h0.inv h (h0.has hh) x (List.mem_of_getElem? hx)).1;have:=(XhP hI hh k (by omega)).step hI hxA;rw[List.take_add_one,hx,List.foldl_append];exact this}
theorem Xmi {A:Ar}{h:Int}(hI:A.Inv)(hh:A.has h){k:Nat}{x:Int}(hx:((A.join h).below h)[k]?=some x):A.has x/\x∉h::((A.join h).below h).take k:=by
 have h0:ZA A [h] (A.join h):=(ZA.start hI).step hI hh
 refine⟨h0.XhO (Zt h0.inv h (h0.has hh) x (List.mem_of_getElem? hx)).1,λhm=>?_⟩
 have hn:=Xfn h0.inv (h0.has hh)
 rw[List.nodup_cons]at hn
 rcases List.mem_cons.1 hm with rfl|hm
 ·exact hn.1 (List.mem_of_getElem? hx)
 ·have hk:=(List.getElem?_eq_some_iff.1 hx).1;have h2:=hn.2;rw[<-List.take_append_drop k ((A.join h).below h),List.nodup_append]at h2;refine h2.2.2 x hm x ?_ rfl;rw[List.drop_eq_getElem_cons hk,(List.getElem?_eq_some_iff.1 hx).2];simp
end
section
theorem Xfo {a b:Int->Nat}:∀{l1 l2:List Int},l1.length=l2.length->(∀(i:Nat)(x y:Int),l1[i]?=some x->l2[i]?=some y->a x=b y)->l1.map a=l2.map b
 | [],[],_,_=>rfl
 |x::l1,y::l2,hl,h=>by{rw[List.map_cons,List.map_cons,h 0 x y rfl rfl,Xfo (l1:=l1) (l2:=l2) (by simpa using hl) (λi x y h1 h2=>h (i+1) x y (by simpa using h1) (by simpa using h2))]}
theorem Xfp {f:Int->Nat}{p:Int->Bool}:∀{l:List Int},(l.map f).sum=((l.filter p).map f).sum+((l.filter (λx=> !p x)).map f).sum
 | []=>rfl
 |x::l=>by{have:=Xfp (f:=f) (p:=p) (l:=l);cases hp:p x<;>simp[hp]<;>omega}
theorem XhQ {f:Int->Nat}:∀{l:List Int},(∀x∈l,f x=0)->(l.map f).sum=0
 | [],_=>rfl
 |x::l,h=>by{rw[List.map_cons,List.sum_cons,h x (by simp),XhQ (λy hy=>h y (by simp[hy]))]}
/-- A sum over the nodes. -/
def tot (F : Ar -> Int -> Nat) (A : Ar) : Nat := (A.hs.map (F A)).sum
theorem Xfq {F:Ar->Int->Nat}(hF:∀{C B:Ar}{x y:Int},ZJ C B x y->F C x=F B y)(hC:C.Inv)(hB:B.Inv):∀h,C.has h->∀k,ZJ C B h k->((C.Xi h).map (F C)).sum=((B.Xi k).map (F B)).sum:=by
 refine Jc hC (λh hh hc hk k q=>?_)
 have h0:=hF q
 obtain⟨q1,q2,q3,q4,q5,q6,q7⟩:=q.inv
 rw[Ym hC hh,Ym hB q2]
 simp only[List.map_cons,List.sum_cons,List.map_append,List.sum_append,Xdg]
 rw[h0]
 have e2:(C.get h).Xc.map (λx=>((C.Xi x).map (F C)).sum)=(B.get k).Xc.map (λx=>((B.Xi x).map (F B)).sum):=Xfo q4 (λi x y hx hy=>hk x (List.mem_of_getElem? hx) y (q7 i x y hx hy))
 rw[e2]
 by_cases hz:(C.get h).Xg=0
 ·rw[if_neg (λe=>e hz),if_neg (λe=>e (q5.1 hz))];simp
 ·rw[if_pos hz,if_pos (λe=>hz (q5.2 e)),hc hz _ (q6 hz)]
theorem Xbx {F:Ar->Int->Nat}{W:List Int}(hold:∀x,A.has x->F B x=F A x)(hnew:∀x,B.has x->¬A.has x->x∈W\/F B x=0):tot F B<=tot F A+(W.map (F B)).sum:=by
 have e1:=Xfp (f:=F B) (p:=λx=>decide (A.has x)) (l:=B.hs)
 have e2:=Xfp (f:=F B) (p:=λx=>decide (x∈W)) (l:=B.hs.filter (λx=> !decide (A.has x)))
 have h1:((B.hs.filter (λx=>decide (A.has x))).map (F B)).sum<=(A.hs.map (F B)).sum:=Xax ((Xdf B).filter _) (λx hx=>by have:=(List.mem_filter.1 hx).2;exact ZW.2 (of_decide_eq_true this))
 have h2:(A.hs.map (F B)).sum=tot F A:=congrArg List.sum (List.map_congr_left (λx hx=>hold x (ZW.1 hx)))
 have h3:(((B.hs.filter (λx=> !decide (A.has x))).filter (λx=>decide (x∈W))).map (F B)).sum<=(W.map (F B)).sum:=Xax (((Xdf B).filter _).filter _) (λx hx=>of_decide_eq_true (List.mem_filter.1 hx).2)
 have h4:(((B.hs.filter (λx=> !decide (A.has x))).filter (λx=> !decide (x∈W))).map (F B)).sum=0:=XhQ (λx hx=>by obtain⟨g1,g2⟩:=List.mem_filter.1 hx;obtain⟨g3,g4⟩:=List.mem_filter.1 g1;rcases hnew x (ZW.1 g3) (by simpa using g4)with g|g;{simp[g]at g2};·exact g)
 unfold tot at h2⊢
 omega
/-- What counts of a node: its text; its text and what joining at it would add. -/
def fT (A : Ar) (x : Int) : Nat := tx (A.get x)
def fG (A : Ar) (x : Int) : Nat := tx (A.get x) + gainL A false (A.get x).Xc
theorem Xdq {n m:Nd}(h:Y1 n m):tx n=tx m:=by
 unfold tx
 rw[h.1,h.2.2.2.2.1]
theorem XhR {C B:Ar}:∀{l1 l2:List Int}(b:Bool),l1.length=l2.length->(∀(i:Nat)(x y:Int),l1[i]?=some x->l2[i]?=some y->Y1 (C.get x) (B.get y))->gainL C b l1=gainL B b l2
 | [],[],_,_,_=>rfl
 |x::l1,y::l2,b,hl,h=>by{have h0:=h 0 x y rfl rfl;have ih:=λb=>XhR (C:=C) (B:=B) (l1:=l1) (l2:=l2) b (by simpa using hl) (λi x y h1 h2=>h (i+1) x y (by simpa using h1) (by simpa using h2));unfold gainL;rw[h0.1,h0.2.2.2.2.1,ih,ih,ih]}
theorem Xmj {x:Int}(q:ZJ C B x y):fT C x=fT B y:=Xdq q.inv.2.2.1
theorem Xmk {x:Int}(q:ZJ C B x y):fG C x=fG B y:=by
 obtain⟨q1,q2,q3,q4,q5,q6,q7⟩:=q.inv
 unfold fG
 rw[Xdq q3,XhR false q4 (λi x y hx hy=>(q7 i x y hx hy).inv.2.2.1)]
theorem Xby (A:Ar):tot fT A=A.Xk:=(Xce A).symm
theorem Xcj (A:Ar):tot fG A=A.Xk+A.X9:=by
 rw[Xce]
 unfold tot fG Ar.X9
 generalize A.hs=l
 induction l with|nil=>{rfl}|cons x l ih=>simp only[List.map_cons,List.sum_cons]at ih⊢;omega
theorem Xfr {x:Int}(h:Blank (B.get x)):fT B x=0:=by
 unfold fT tx
 rw[if_neg (by rw[h.2.2];decide)]
theorem XhS {x:Int}(h:Blank (B.get x)):fG B x=0:=by
 unfold fG
 rw[h.1]
 have:=Xfr h
 unfold fT at this
 rw[this]
 rfl
theorem XhT (hA:A.Inv)(hold:∀x,A.has x->B.has x/\B.get x=A.get x):∀x,A.has x->fG B x=fG A x:=λx hx=>by{unfold fG;rw[(hold x hx).2];congr 1;exact Xa1 false (λk hk=>by rw[(hold k (XF hA hx hk).1).2];exact⟨rfl,rfl⟩)}
theorem Xdr {F:Ar->Int->Nat}(hC:C.Inv)(hh:C.has h):((C.Xi h).map (F C)).sum<=tot F C:=Xax (Xeq hC h hh) (λx hx=>ZW.2 ((Jr hC h hh x).1 hx).1)
theorem Xa0.Xk {c:Int}(q:Xa0 C A B h d c)(hA:A.Inv)(hC:C.Inv):B.Xk<=A.Xk+C.Xk/\B.Xk+B.X9<=(A.Xk+A.X9)+(C.Xk+C.X9):=by
 have hh:=q.alk.inv.1
 constructor
 ·rw[<-Xby,<-Xby,<-Xby];refine Nat.le_trans (Xbx (A:=A) (W:=B.Xi c) (λx hx=>by unfold fT;rw[(q.old x hx).2]) (λx h1 h2=>(q.new x h1 h2).imp id Xfr)) ?_;rw[<-Xfq Xmj hC q.inv h hh c q.alk];exact Nat.add_le_add_left (Xdr hC hh) _
 ·rw[<-Xcj,<-Xcj,<-Xcj];refine Nat.le_trans (Xbx (A:=A) (W:=B.Xi c) (XhT hA q.old) (λx h1 h2=>(q.new x h1 h2).imp id XhS)) ?_;rw[<-Xfq Xmk hC q.inv h hh c q.alk];exact Nat.add_le_add_left (Xdr hC hh) _
theorem XhU (hC:C.Inv)(hA:A.Inv)(hh:C.has h)(h1:(C.get h).Xa=1)(hw:(C.Xi h).length<=m):Xa0 C A (dupF C true m A d h).2 h (((dupF C true m A d h).2.get (A.n+1)).doc) (dupF C true m A d h).1:=by
 cases m with|zero=>{have:=YL hC hh;omega}|succ m=>have hnt:¬XN (C.get h):=λq=>by{have:=q.1;omega};have hc:(C.get h).Xg=0:=hC.YG h hh (.inr hnt);have hal:A.Xj d (C.get h)=(A.n+1,A.Xn (C.get h).XI):=by{unfold Ar.Xj;rw[if_pos h1]};have hmid:XH C true m (A.n+1,A.Xn (C.get h).XI) d h=A.Xn (C.get h).XI:=by{unfold XH;rw[if_neg (λq=>q.2.2 hc)]};have hI:(A.Xn (C.get h).XI).Inv:=Ar.XC.Xn hA _;have hwe:=Ym hC hh;rw[if_neg (λq=>q hc)]at hwe;have hwl:(C.Xi h).length=1+((C.get h).Xc.flatMap C.Xi).length:=by{rw[hwe];simp;omega};rw[Y8,if_pos h1,hal];dsimp only;rw[hmid,if_pos rfl];have hnew:(A.Xn (C.get h).XI).has (A.n+1):=(Ar.XO _ _ _).2 (.inr rfl);have hg:(A.Xn (C.get h).XI).get (A.n+1)={XL with Xa:=1,XI:=(C.get h).XI,doc:=A.n+1}:=by{rw[Ar.Xn,Ar.YS]};have hnk:((A.Xn (C.get h).XI).get (A.n+1)).Xa=1:=by{rw[hg]};have hold0:∀x,A.has x->(A.Xn (C.get h).XI).has x/\(A.Xn (C.get h).XI).get x=A.get x:=λx hx=>⟨(Ar.XO _ _ _).2 (.inl hx),Ar.Zb _ hx⟩;obtain⟨K2,R⟩:=Xbv (C:=C) hC (rec:=λB k=>dupF C true m B (A.n+1) k) (d:=A.n+1) (c:=A.n+1) (C.get h).Xc (B:=A.Xn (C.get h).XI) (λB k hkk hB hBd hBk=>by obtain⟨q1,q2,q3⟩:=XF hC hh hkk;have hkw:(C.Xi k).length<=((C.get h).Xc.flatMap C.Xi).length:=by{obtain⟨s,t,e⟩:=List.append_of_mem hkk;rw[e];simp;omega};exact Xaw hC m hB hBd hBk q1 (hC.par k q1 (by rw[q3];have:=hh.1;omega)).1 (by omega)) (λk hkk=>by obtain⟨q1,q2,q3⟩:=XF hC hh hkk;exact hC.par k q1 (by rw[q3];have:=hh.1;omega)) hI hnew hnk hnew (λ_=> .inl hnk);generalize hB:(C.get h).Xc.foldl (XP (λB k=>dupF C true m B (A.n+1) k) (A.n+1)) (A.Xn (C.get h).XI)=B' at*;have o1:=R.old (A.n+1) hnew;rw[if_pos rfl,hg]at o1;have hk1:(B'.get (A.n+1)).Xc=K2:=by{rw[o1.2];rfl};have hc1:(B'.get (A.n+1)).Xg=0:=by{rw[o1.2];rfl};have hl:=hC.loc h hh;have hwB:=Ym R.more.inv o1.1;rw[hk1,hc1,if_neg (λq=>q rfl),List.nil_append]at hwB;have hnn:(A.Xn (C.get h).XI).n=A.n+1:=by{unfold Ar.Xn Ar.add Ar.n;simp};have hgo:∀x,A.has x->B'.has x/\B'.get x=A.get x:=λx hx=>by{have r:=R.old x (hold0 x hx).1;refine⟨r.1,?_⟩;rw[r.2,if_neg (by have:=hx.2;omega),(hold0 x hx).2]};refine⟨R.more.inv,(XeI hA hI).trans R.more,hgo,rfl,o1.1,by rw[o1.2];rfl,by rw[o1.2];rfl,rfl,?_,λx h1 h2=>?_,?_,λx hx=>?_⟩;{refine ZJ.mk hh o1.1 ?_ (by rw[hk1,R.len]) (by rw[hc,hc1]) (λq=>absurd hc q) (λi x y hx hy=>R.alk i x y hx (by rw[<-hk1];exact hy));rw[o1.2];exact⟨h1,(hl.el (by omega)).1,hl.nm (by omega) (by omega),(hl.el (by omega)).2,hl.da (by omega) (by omega),(hl.ps (by omega)).1,(hl.ps (by omega)).2,rfl⟩};{rw[hwB];by_cases q:(A.Xn (C.get h).XI).has x;{rcases(Ar.XO _ _ _).1 q with q|q;{exact absurd q h2};·left;simp[q]};·rcases R.new x h1 q with⟨y,hy,hx⟩|q;{left;exact List.mem_cons.2 (.inr (List.mem_flatMap.2 ⟨y,hy,hx⟩))};·exact .inr q};{rw[hwB];refine List.pairwise_cons.2 ⟨λx hx=>?_,R.inc⟩;have:=R.ge x hx;omega};·rw[hwB]at hx;rcases List.mem_cons.1 hx with rfl|hx;{omega};·have:=R.ge x hx;omega
theorem Xml {x:Int}(h:(B.get x).Xc= []):fG B x=tx (B.get x):=by
 unfold fG
 rw[h]
 rfl
theorem Xmm (hC:C.Inv)(hA:A.Inv)(hd:A.has d)(hk:(A.get d).Xa=1)(hh:C.has h)(hw:(C.Xi h).length<=m):(dupF C false m A d h).2.Xk<=A.Xk+C.Xk/\(dupF C false m A d h).2.Xk+(dupF C false m A d h).2.X9<=(A.Xk+A.X9)+(C.Xk+C.X9):=by
 cases m with|zero=>{have:=YL hC hh;omega}|succ m=>have hmid:XH C false m (A.Xj d (C.get h)) d h=(A.Xj d (C.get h)).2:=by{unfold XH;rw[if_neg (λq=>by simp at q)]};rw[Y8,hmid,if_neg (by decide)];dsimp only;have hle:fT C h<=C.Xk:=by{have:=Xdr (F:=fT) hC hh;rw[Ym hC hh,Xby]at this;simp only[List.map_cons,List.sum_cons]at this;omega};have key:∀(B:Ar)(W:List Int),(∀x,A.has x->B.has x/\B.get x=A.get x)->(∀x,B.has x->¬A.has x->x∈W\/Blank (B.get x))->(W.map (fT B)).sum<=C.Xk->(∀x∈W,(B.get x).Xc= [])->B.Xk<=A.Xk+C.Xk/\B.Xk+B.X9<=(A.Xk+A.X9)+(C.Xk+C.X9):=λB W k1 k2 k3 k4=>by{have e:(W.map (fG B)).sum=(W.map (fT B)).sum:=congrArg List.sum (List.map_congr_left (λx hx=>Xml (k4 x hx)));have a1:=Xbx (F:=fT) (A:=A) (B:=B) (W:=W) (λx hx=>by unfold fT;rw[(k1 x hx).2]) (λx h1 h2=>(k2 x h1 h2).imp id Xfr);have a2:=Xbx (F:=fG) (A:=A) (B:=B) (W:=W) (XhT hA k1) (λx h1 h2=>(k2 x h1 h2).imp id XhS);rw[Xby,Xby]at a1;rw[Xcj,Xcj]at a2;omega};by_cases h1:(C.get h).Xa=1;{have hal:A.Xj d (C.get h)=(A.n+1,A.Xn (C.get h).XI):=by{unfold Ar.Xj;rw[if_pos h1]};rw[hal];have hg:(A.Xn (C.get h).XI).get (A.n+1)={XL with Xa:=1,XI:=(C.get h).XI,doc:=A.n+1}:=by{rw[Ar.Xn,Ar.YS]};refine key _ [] (λx hx=>⟨(Ar.XO _ _ _).2 (.inl hx),Ar.Zb _ hx⟩) (λx g1 g2=>?_) (Nat.zero_le _) (by simp);rcases(Ar.XO _ _ _).1 g1 with q|q;{exact absurd q g2};·right;rw[q,hg];exact⟨rfl,rfl,rfl⟩};·obtain⟨n1,n2,n3⟩:=Xbu hA hC hd hk hh h1;generalize(A.Xj d (C.get h)).2=B at*;have e1:fT B (A.n+1)=fT C h:=(Xdq n2.Xcc).symm;rcases n3 with⟨z1,z2,z3⟩|⟨z1,cc,z2,z3,z4,z5,z6,z7,z8,z9⟩;{refine key B [A.n+1] n2.old (λx g1 g2=>(z3 x g1 g2).imp (λq=>by simp[q]) id) ?_ (λx hx=>?_);{simp[e1];exact hle};·simp at hx;rw[hx];exact n2.Xc};·refine key B [A.n+1,cc] n2.old (λx g1 g2=>?_) ?_ (λx hx=>?_);{rcases z9 x g1 g2 with q|q|q;{left;simp[q]};{left;simp[q]};·exact .inr q};{have e2:fT B cc=0:=by{unfold fT tx;rw[if_neg (by rw[z8];decide)]};simp[e1,e2];exact hle};·simp at hx;rcases hx with q|q;{rw[q];exact n2.Xc};·rw[q];exact z6
theorem XhV (hC:C.Inv)(hA:A.Inv){deep:Bool}(hd:A.has d)(hk:(A.get d).Xa=1)(hh:C.has h)(hw:(C.Xi h).length<=m):(dupF C deep m A d h).2.Xk<=A.Xk+C.Xk/\(dupF C deep m A d h).2.Xk+(dupF C deep m A d h).2.X9<=(A.Xk+A.X9)+(C.Xk+C.X9):=by
 cases deep with|false=>{exact Xmm hC hA hd hk hh hw}|true=>by_cases h1:(C.get h).Xa=1;{exact(XhU (d:=d) hC hA hh h1 hw).Xk hA hC};·exact(Xaw hC m hA hd hk hh h1 hw).Xk hA hC
end
end Go.Proofs.YtpicinjcmjaogaaGreat
