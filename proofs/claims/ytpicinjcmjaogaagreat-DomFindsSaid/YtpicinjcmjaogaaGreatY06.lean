import Derived.Test.YtpicinjcmjaogaaGreatY05
set_option maxRecDepth 100000
set_option maxHeartbeats 4000000
set_option linter.unusedVariables false
namespace Go.Proofs.YtpicinjcmjaogaaGreat
variable{A B C:Ar}{k h x y d p c:Int}{l:List Int}
section
def walkF (A : Ar) : Nat -> Int -> List Int
  | 0, _ => []
  | n + 1, h => h :: ((if (A.get h).Xg ≠ 0 then walkF A n (A.get h).Xg else []) ++ (A.get h).Xc.flatMap (walkF A n))
def Ar.Xi (A : Ar) (h : Int) : List Int := if A.has h then walkF A A.ns.length h else []
def Ar.depth (A : Ar) (h : Int) : Nat := (A.YR true h).length
theorem Xeo (hI:A.Inv)(hk:A.has k)(hh:A.has h)(hu:A.up k=h):A.YR true k=k::A.YR true h:=XaH (hI.wf.Zs hk) ⟨rfl,hk,by have:Ye A true k=h:=by{simp[Ye,hu]};rw[this];exact hI.wf.Zs hh⟩
theorem Jq (hI:A.Inv)(hk:A.has k)(hh:A.has h)(hu:A.up k=h):A.depth k=A.depth h+1:=by
 unfold Ar.depth
 rw[Xeo hI hk hh hu]
 simp
theorem XbT (hI:A.Inv)(hh:A.has h):A.depth h<=A.ns.length:=XdV (hI.wf.Zs hh)
theorem XgD (hI:A.Inv)(hh:A.has h):1<=A.depth h:=by
 have:=Xcx (hI.wf.Zs hh) hh
 unfold Ar.depth
 exact List.length_pos_of_mem this
theorem XF (hI:A.Inv)(hh:A.has h)(hk:k∈(A.get h).Xc):A.has k/\A.up k=h/\(A.get k).Xd=h:=by
 obtain⟨h1,h2⟩:=hI.wf.Xc h hh k hk
 refine⟨h1,?_,h2⟩
 unfold Ar.up
 rw[if_pos (by rw[h2];have:=hh.1;omega),h2]
theorem ZL (hI:A.Inv)(hh:A.has h)(hc:(A.get h).Xg≠0):A.has (A.get h).Xg/\A.up (A.get h).Xg=h/\(A.get (A.get h).Xg).Xd=0:=by
 have ht:XN (A.get h):=Classical.not_not.1 (λhn=>hc (hI.YG h hh (.inr hn)))
 obtain⟨h1,h2,h3⟩:=hI.cont h hh (by have:=hh.1;omega) ht
 have h4:(A.get (A.get h).Xg).Xd=0:=Classical.not_not.1 (λhn=>(hI.par _ h1 hn).2 h2)
 refine⟨h1,?_,h4⟩
 unfold Ar.up
 rw[if_neg (by rw[h4];simp),h3]
theorem XaR {α β:Type}{l:List α}{f g:α->List β}(h:∀x∈l,f x=g x):l.flatMap f=l.flatMap g:=by
 induction l with|nil=>{rfl}|cons a l ih=>simp only[List.flatMap_cons];rw[h a (by simp),ih (λx hx=>h x (by simp[hx]))]
theorem Xep {A:Ar}(hI:A.Inv):∀(f:Nat)(h:Int),A.has h->A.ns.length+1<=f+A.depth h->walkF A f h=walkF A (f+1) h
 |0,h,hh,hf=>by{have:=XbT hI hh;omega}
 |f+1,h,hh,hf=>by{rw[walkF,walkF];congr 1;congr 1;{split;{rename_i hc;obtain⟨h1,h2,_⟩:=ZL hI hh hc;exact Xep hI f _ h1 (by rw[Jq hI h1 hh h2];omega)};·rfl};·refine XaR (λk hk=>?_);obtain⟨h1,h2,_⟩:=XF hI hh hk;exact Xep hI f _ h1 (by rw[Jq hI h1 hh h2];omega)}
theorem Ym (hI:A.Inv)(hh:A.has h):A.Xi h=h::((if(A.get h).Xg≠0 then A.Xi (A.get h).Xg else [])++(A.get h).Xc.flatMap A.Xi):=by
 have h1:A.Xi h=walkF A A.ns.length h:=if_pos hh
 have hd:=XgD hI hh
 rw[h1,Xep hI _ h hh (by omega),walkF]
 congr 1
 congr 1
 ·split;{rename_i hc;exact(if_pos (ZL hI hh hc).1).symm};·rfl
 ·refine XaR (λk hk=>?_);exact(if_pos (XF hI hh hk).1).symm
theorem Jc (hI:A.Inv){P:Int->Prop}(step:∀h,A.has h->((A.get h).Xg≠0->P (A.get h).Xg)->(∀k∈(A.get h).Xc,P k)->P h):∀h,A.has h->P h:=by
 have key:∀(m:Nat)(h:Int),A.has h->A.ns.length-A.depth h<=m->P h:=by intro m;induction m with|zero=>{intro h hh hm;have hd:=XbT hI hh;refine step h hh (λhc=>?_) (λk hk=>?_);{obtain⟨h1,h2,_⟩:=ZL hI hh hc;have:=XbT hI h1;rw[Jq hI h1 hh h2]at this;omega};·obtain⟨h1,h2,_⟩:=XF hI hh hk;have:=XbT hI h1;rw[Jq hI h1 hh h2]at this;omega}|succ m ih=>intro h hh hm;refine step h hh (λhc=>?_) (λk hk=>?_);{obtain⟨h1,h2,_⟩:=ZL hI hh hc;exact ih _ h1 (by rw[Jq hI h1 hh h2];omega)};·obtain⟨h1,h2,_⟩:=XF hI hh hk;exact ih _ h1 (by rw[Jq hI h1 hh h2];omega)
 exact λh hh=>key _ h hh (Nat.le_refl _)
theorem XbU (hI:A.Inv)(hh:A.has h):h∈A.YR true h:=Xcx (hI.wf.Zs hh) hh
theorem XaS (hI:A.Inv)(hx:A.has x)(hy:y∈A.YR true x):∃l1,A.YR true x=l1++A.YR true y:=by
 have hw:=hI.wf.Zs hx
 obtain⟨l1,l2,e⟩:=List.append_of_mem hy
 rw[e]at hw
 have hyh:=Xa9 hw y (by simp)
 have h1:=XaH (Xct hw) (hI.wf.Zs hyh)
 exact⟨l1,by rw[e,h1]⟩
theorem Jr (hI:A.Inv):∀h,A.has h->∀x,x∈A.Xi h↔A.has x/\h∈A.YR true x:=by
 refine Jc hI (λh hh hc hk x=>?_)
 rw[Ym hI hh]
 constructor
 ·intro hx;have sub:∀y,A.has y->A.up y=h->A.has x/\y∈A.YR true x->A.has x/\h∈A.YR true x:=by{rintro y hy hu⟨h1,h2⟩;obtain⟨l1,e⟩:=XaS hI h1 h2;refine⟨h1,?_⟩;rw[e,Xeo hI hy hh hu];simp[XbU hI hh]};rcases List.mem_cons.1 hx with rfl|hx;{exact⟨hh,XbU hI hh⟩};·rcases List.mem_append.1 hx with hx|hx;{split at hx;{rename_i hcc;obtain⟨h1,h2,_⟩:=ZL hI hh hcc;exact sub _ h1 h2 ((hc hcc x).1 hx)};·simp at hx};·obtain⟨k,hkk,hx⟩:=List.mem_flatMap.1 hx;obtain⟨h1,h2,_⟩:=XF hI hh hkk;exact sub _ h1 h2 ((hk k hkk x).1 hx)
 ·rintro⟨hx,hm⟩;obtain⟨l1,e⟩:=XaS hI hx hm;by_cases hl:l1= [];{subst hl;have hw:=hI.wf.Zs hx;have h1:=hI.wf.Zs hh;rw[List.nil_append]at e;have hne:A.YR true x≠ []:=λe=>by{have:=XbU hI hx;rw[e]at this;simp at this};obtain⟨a,l,ea⟩:=List.exists_cons_of_ne_nil hne;rw[ea]at hw e;rw[<-e]at h1;have:x=h:=hw.1.symm.trans h1.1;rw[this];simp};·obtain⟨l0,y,rfl⟩:=List.eq_nil_or_concat l1|>.resolve_left hl;simp only[List.append_assoc,List.singleton_append,List.concat_eq_append]at e;have hw:=hI.wf.Zs hx;rw[e]at hw;have hyh:=Xa9 hw y (by simp);have hym:y∈A.YR true x:=by{rw[e];simp};obtain⟨_,_,hw3⟩:=Xct hw;have hup:A.up y=h:=by{have hhh:=hI.wf.Zs hh;have hne:A.YR true h≠ []:=λe=>by{have:=XbU hI hh;rw[e]at this;simp at this};obtain⟨a,l,ea⟩:=List.exists_cons_of_ne_nil hne;rw[ea]at hw3 hhh;have h1:a=Ye A true y:=hw3.1;have h2:a=h:=hhh.1;rw[<-h2,h1];simp[Ye]};refine List.mem_cons.2 (.inr (List.mem_append.2 ?_));by_cases hp:(A.get y).Xd=0;{have hho:(A.get y).host=h:=by{unfold Ar.up at hup;rw[if_neg (by rw[hp];simp)]at hup;exact hup};obtain⟨_,_,_,h4⟩:=hI.host y hyh (by rw[hho];have:=hh.1;omega);rw[hho]at h4;have hcc:(A.get h).Xg≠0:=by{rw[h4];have:=hyh.1;omega};left;rw[if_pos hcc];exact(hc hcc x).2 ⟨hx,by rw[h4];exact hym⟩};·have hpp:(A.get y).Xd=h:=by{unfold Ar.up at hup;rw[if_pos hp]at hup;exact hup};have hkm:=(hI.wf.link y hyh hp).2.1;rw[hpp]at hkm;right;exact List.mem_flatMap.2 ⟨y,hkm,(hk y hkm x).2 ⟨hx,hym⟩⟩
theorem XgE (hI:A.Inv){z:Int}(hx:A.has x)(hy:y∈A.YR true x)(hz:z∈A.YR true x)(hd:A.depth y=A.depth z):y=z:=by
 obtain⟨l1,e1⟩:=XaS hI hx hy
 obtain⟨l2,e2⟩:=XaS hI hx hz
 have hyh:=Xa9 (hI.wf.Zs hx) y hy
 have hzh:=Xa9 (hI.wf.Zs hx) z hz
 unfold Ar.depth at hd
 have h3:=List.append_inj_right' (e1.symm.trans e2) hd
 have h1:=hI.wf.Zs hyh
 have h2:=hI.wf.Zs hzh
 have hne:A.YR true y≠ []:=λe=>by have:=XbU hI hyh;rw[e]at this;simp at this
 obtain⟨a,l,ea⟩:=List.exists_cons_of_ne_nil hne
 rw[<-h3,ea]at h2
 rw[ea]at h1
 exact h1.1.symm.trans h2.1
theorem XgF {f:Int->List Int}(hl:l.Nodup)(h1:∀k∈l,(f k).Nodup)(h2:∀j∈l,∀k∈l,∀x,x∈f j->x∈f k->j=k):(l.flatMap f).Nodup:=by
 induction l with|nil=>{simp}|cons a l ih=>rw[List.nodup_cons]at hl;rw[List.flatMap_cons,List.nodup_append];refine⟨h1 a (by simp),ih hl.2 (λk hk=>h1 k (by simp[hk])) (λj hj k hk=>h2 j (by simp[hj]) k (by simp[hk])),?_⟩;intro x hx y hy e;subst e;obtain⟨k,hk,hxk⟩:=List.mem_flatMap.1 hy;have:=h2 a (by simp) k (by simp[hk]) x hx hxk;exact hl.1 (by rw[this];exact hk)
theorem Xeq (hI:A.Inv):∀h,A.has h->(A.Xi h).Nodup:=by
 refine Jc hI (λh hh hc hk=>?_)
 have hmem:=Jr hI
 rw[Ym hI hh,List.nodup_cons,List.nodup_append]
 have hno:∀y,A.has y->A.up y=h->h∉A.Xi y:=λy hy hu hm=>by have h1:=((hmem y hy h).1 hm).2;obtain⟨l1,e⟩:=XaS hI hh h1;have h2:=congrArg List.length e;rw[Xeo hI hy hh hu]at h2;simp at h2;omega
 refine⟨λhm=>?_,?_,?_,?_⟩
 ·rcases List.mem_append.1 hm with hm|hm;{split at hm;{rename_i hcc;exact hno _ (ZL hI hh hcc).1 (ZL hI hh hcc).2.1 hm};·simp at hm};·obtain⟨k,hkk,hm⟩:=List.mem_flatMap.1 hm;exact hno _ (XF hI hh hkk).1 (XF hI hh hkk).2.1 hm
 ·split;{rename_i hcc;exact hc hcc};·exact List.nodup_nil
 ·refine XgF (hI.wf.nodup h hh) hk (λj hj k hkk x hxj hxk=>?_);obtain⟨j1,j2,_⟩:=XF hI hh hj;obtain⟨k1,k2,_⟩:=XF hI hh hkk;have a:=(hmem j j1 x).1 hxj;have b:=(hmem k k1 x).1 hxk;exact XgE hI a.1 a.2 b.2 (by rw[Jq hI j1 hh j2,Jq hI k1 hh k2])
 ·intro x hx y hy e;subst e;split at hx;{rename_i hcc;obtain⟨k,hkk,hxk⟩:=List.mem_flatMap.1 hy;obtain⟨c1,c2,c3⟩:=ZL hI hh hcc;obtain⟨k1,k2,k3⟩:=XF hI hh hkk;have a:=(hmem _ c1 x).1 hx;have b:=(hmem k k1 x).1 hxk;have:=XgE hI a.1 a.2 b.2 (by rw[Jq hI c1 hh c2,Jq hI k1 hh k2]);rw[<-this,c3]at k3;have:=hh.1;omega};·simp at hx
theorem Z3 (hI:A.Inv)(h:Int):(A.Xi h).length<=A.ns.length:=by
 by_cases hh:A.has h
 ·exact Xcr _ _ (Xeq hI h hh) (λx hx=>((Jr hI h hh x).1 hx).1)
 ·unfold Ar.Xi;rw[if_neg hh];exact Nat.zero_le _
theorem Xka (hh:¬A.has h):A.Xi h= []:=if_neg hh
theorem J0 (hI:A.Inv)(h x:Int):A.contains h x=decide (x∈A.Xi h):=by
 unfold Ar.contains
 by_cases hh:A.has h
 ·rw[Bool.eq_iff_iff];simp only[decide_eq_true_eq];rw[Jr hI h hh x];exact⟨fun⟨_,a,b⟩=>⟨a,b⟩,fun⟨a,b⟩=>⟨hh,a,b⟩⟩
 ·rw[Xka hh,decide_eq_false (by rintro⟨h1,_⟩;exact hh h1)];simp
end
section
/-- The nodes below a node, in preorder, XQ Xg. -/
def belowF (A : Ar) : Nat -> Int -> List Int
  | 0, _ => []
  | n + 1, h => (A.get h).Xc.flatMap (λk => k :: belowF A n k)
def Ar.below (A : Ar) (h : Int) : List Int := belowF A A.ns.length h
theorem XgG {A:Ar}(hI:A.Inv):∀(f:Nat)(h:Int),A.has h->A.ns.length+1<=f+A.depth h->belowF A f h=belowF A (f+1) h
 |0,h,hh,hf=>by{have:=XbT hI hh;omega}
 |f+1,h,hh,hf=>by{rw[belowF,belowF];refine XaR (λk hk=>?_);obtain⟨h1,h2,_⟩:=XF hI hh hk;rw[XgG hI f _ h1 (by rw[Jq hI h1 hh h2];omega)]}
theorem ZD (hI:A.Inv)(hh:A.has h):A.below h=(A.get h).Xc.flatMap (λk=>k::A.below k):=by
 have hd:=XgD hI hh
 unfold Ar.below
 rw[XgG hI _ h hh (by omega),belowF]
theorem Zt (hI:A.Inv):∀h,A.has h->∀x,x∈A.below h->A.has x/\x∈A.Xi h/\(A.Xi x).length<(A.Xi h).length/\(A.get x).Xd≠0:=by
 refine Jc hI (λh hh _ hk x hx=>?_)
 rw[ZD hI hh]at hx
 obtain⟨k,hkk,hx⟩:=List.mem_flatMap.1 hx
 obtain⟨h1,h2,h3⟩:=XF hI hh hkk
 have hw:=Ym hI hh
 have hlen:(A.Xi k).length<(A.Xi h).length:=by obtain⟨s,t,e⟩:=List.append_of_mem hkk;rw[hw,e];simp;omega
 have hin:∀y,y∈A.Xi k->y∈A.Xi h:=λy hy=>by rw[hw];exact List.mem_cons.2 (.inr (List.mem_append.2 (.inr (List.mem_flatMap.2 ⟨k,hkk,hy⟩))))
 rcases List.mem_cons.1 hx with rfl|hx
 ·exact⟨h1,hin _ (by rw[Ym hI h1];simp),hlen,by rw[h3];have:=hh.1;omega⟩
 ·obtain⟨q1,q2,q3,q4⟩:=hk k hkk x hx;exact⟨q1,hin _ q2,Nat.lt_trans q3 hlen,q4⟩
theorem XcR (hI:A.Inv)(hh:A.has h)(hc:(A.get h).Xg≠0):(A.Xi (A.get h).Xg).length<(A.Xi h).length:=by
 rw[Ym hI hh,if_pos hc]
 simp
 omega
theorem YL (hI:A.Inv)(hh:A.has h):0<(A.Xi h).length:=by
 rw[Ym hI hh]
 simp
theorem Xkb (hI:A.Inv):∀h,A.has h->(A.below h).length<(A.Xi h).length:=by
 refine Jc hI (λh hh _ hk=>?_)
 rw[ZD hI hh,Ym hI hh]
 have:∀l:List Int,(∀k∈l,(A.below k).length<(A.Xi k).length)->(l.flatMap (λk=>k::A.below k)).length<=(l.flatMap A.Xi).length:=by intro l;induction l with|nil=>{simp}|cons a l ih=>intro h;have h1:=h a (by simp);have h2:=ih (λk hk=>h k (by simp[hk]));simp only[List.flatMap_cons,List.length_append,List.length_cons]at h2⊢;omega
 have:=this _ hk
 simp only[List.length_cons,List.length_append]
 omega
/-- B has the nodes of A with the same Xcw and fields, but for node documents; B may have more. -/
structure Ar.Tree (A B : Ar) : Prop where
  le : A.ns.length <= B.ns.length
  get : ∀ x, A.has x -> ∃ d, B.get x = { A.get x with doc := d }
theorem Ar.Tree.has (h:A.Tree B)(hx:A.has x):B.has x:=⟨hx.1,by have:=hx.2;have:=h.le;unfold Ar.n at*;omega⟩
theorem Ar.Tree.refl (A:Ar):A.Tree A:=⟨Nat.le_refl _,λx _=>⟨(A.get x).doc,rfl⟩⟩
theorem Ar.Tree.trans (h:A.Tree B)(k:B.Tree C):A.Tree C:=⟨Nat.le_trans h.le k.le,λx hx=>by obtain⟨d,e⟩:=h.get x hx;obtain⟨d',e'⟩:=k.get x (h.has hx);exact⟨d',by rw[e',e]⟩⟩
theorem Ar.Tree.Xc (h:A.Tree B)(hx:A.has x):(B.get x).Xc=(A.get x).Xc:=by
 obtain⟨d,e⟩:=h.get x hx
 rw[e]
theorem Ar.Tree.Xg (h:A.Tree B)(hx:A.has x):(B.get x).Xg=(A.get x).Xg:=by
 obtain⟨d,e⟩:=h.get x hx
 rw[e]
theorem Ar.Tree.Xa (h:A.Tree B)(hx:A.has x):(B.get x).Xa=(A.get x).Xa:=by
 obtain⟨d,e⟩:=h.get x hx
 rw[e]
theorem Ar.Tree.Xd (h:A.Tree B)(hx:A.has x):(B.get x).Xd=(A.get x).Xd:=by
 obtain⟨d,e⟩:=h.get x hx
 rw[e]
theorem Ar.Tree.Xi (h:A.Tree B)(hA:A.Inv)(hB:B.Inv):∀x,A.has x->B.Xi x=A.Xi x:=by
 refine Jc hA (λx hx hc hk=>?_)
 rw[Ym hA hx,Ym hB (h.has hx),h.Xc hx,h.Xg hx]
 congr 1
 congr 1
 ·split;{rename_i q;exact hc q};·rfl
 ·exact XaR (λk hkk=>hk k hkk)
theorem Ar.Tree.below (h:A.Tree B)(hA:A.Inv)(hB:B.Inv):∀x,A.has x->B.below x=A.below x:=by
 refine Jc hA (λx hx hc hk=>?_)
 rw[ZD hA hx,ZD hB (h.has hx),h.Xc hx]
 exact XaR (λk hkk=>by rw[hk k hkk])
theorem Ar.Xal (A:Ar)(d:Int):A.Tree (A.Xq d).2:=⟨(Ar.XaK A d).1,λx hx=>⟨(A.get x).doc,by rw[(Ar.JS hx).1]⟩⟩
theorem Ar.Xam (A:Ar)(h d:Int):A.Tree (A.Xt h d).2:=by
 unfold Ar.Xt
 split
 ·exact Ar.Tree.refl A
 ·rename_i q;have hh:A.has h:=Classical.not_not.1 (λe=>q (.inl e));split;{exact Ar.Tree.refl A};·refine⟨by simp[Ar.mod],λx hx=>?_⟩;show∃d',(A.mod h λx=>{x with doc:=d}).get x=_;rw[Ar.Zr _ hh hx];split;{rename_i e;subst e;exact⟨d,rfl⟩};·exact⟨(A.get x).doc,rfl⟩
theorem J1 (hp:(A.get h).Xd=0):A.cut h=A:=by
 unfold Ar.cut
 rw[if_pos hp]
theorem XbV (hd:A.has d)(hl:A.Xh.length=A.ns.length+1):(A.Xq d).1=(A.Xq d).2.Xu d/\(A.Xq d).2.Xu d≠0:=by
 unfold Ar.Xq
 by_cases h0:A.Xu d≠0
 ·rw[if_pos h0];exact⟨rfl,h0⟩
 ·rw[if_neg h0];have hlen:(A.Xn false).Xh.length=A.ns.length+2:=by{simp[Ar.Xn,Ar.add,hl]};have h1:=hd.1;have h2:=hd.2;unfold Ar.n at h2;have e:({A.Xn false with Xh:=((A.Xn false).Xh.set d.toNat (A.n+1)).set (A.n+1).toNat (A.n+1)}:Ar).Xu d=if d.toNat=(A.n+1).toNat then A.n+1 else if d.toNat=d.toNat then A.n+1 else(A.Xn false).Xu d:=Xcv (by omega) (by unfold Ar.n;omega);have e2:({A.Xn false with Xh:=((A.Xn false).Xh.set d.toNat (A.n+1)).set (A.n+1).toNat (A.n+1)}:Ar).Xu d=A.n+1:=by{rw[e];split;{rfl};·rw[if_pos rfl]};exact⟨e2.symm,by rw[e2];unfold Ar.n;omega⟩
theorem Xbj (A:Ar)(h d:Int):(A.Xt h d).2.Xh=A.Xh/\(A.Xt h d).2.ns.length=A.ns.length:=by
 unfold Ar.Xt
 split
 ·exact⟨rfl,rfl⟩
 ·split;{exact⟨rfl,rfl⟩};·exact⟨rfl,by simp[Ar.mod]⟩
/-- What a Xn gives to a node: itself as the node Xn, and its Xh Xn to the Xg. -/
def Yf (rec : Ar -> Int -> Int -> Ar) (d : Int) (B : Ar) (x : Int) : Ar :=
  if ((B.Xt x d).2.get x).Xg = 0 then (B.Xt x d).2
  else rec ((B.Xt x d).2.Xq d).2 ((B.Xt x d).2.get x).Xg ((B.Xt x d).2.Xq d).1
/-- Adoption, with fuel. -/
def adoptF : Nat -> Ar -> Int -> Int -> Ar
  | 0, A, h, _ => A.cut h
  | n + 1, A, h, d => if ((A.cut h).get h).doc = d then A.cut h else (h :: (A.cut h).below h).foldl (Yf (adoptF n) d) (A.cut h)
def Ar.YM (A : Ar) (h d : Int) : Ar := adoptF A.ns.length A h d
theorem Ze {α β:Type}{f:β->α->β}{P:β->Prop}:∀{l:List α}{b:β},P b->(∀b x,x∈l->P b->P (f b x))->P (l.foldl f b)
 | [],b,hb,_=>hb
 |a::l,b,hb,h=>Ze (l:=l) (h b a (by simp) hb) (λb x hx=>h b x (by simp[hx]))
theorem XbW {rec:Ar->Int->Int->Ar}(hB:B.Inv)(hT:C.Tree B)(hd:C.has d)(hk:(C.get d).Xa=1)(hx:C.has x)(hrec:∀B' c i,B'.Inv->B'.has c->(B'.get c).Xd=0->B'.has i->(B'.get i).Xa=1->(rec B' c i).Inv/\B'.Tree (rec B' c i)):(Yf rec d B x).Inv/\C.Tree (Yf rec d B x):=by
 have h1:=Ar.Inv.Xt hB x d
 have t1:=hT.trans (Ar.Xam B x d)
 unfold Yf
 split
 ·exact⟨h1,t1⟩
 ·rename_i hc;obtain⟨c1,c2,c3⟩:=ZL h1 (t1.has hx) hc;have hd1:=t1.has hd;have h2:=Ar.XC.Xq h1 hd1;obtain⟨v1,v2⟩:=Ar.XC.Xbb h1 hd1;have t2:=Ar.Xal (B.Xt x d).2 d;obtain⟨r1,r2⟩:=hrec _ _ _ h2 (t2.has c1) (by rw[t2.Xd c1];exact c3) v1 v2;exact⟨r1,(t1.trans t2).trans r2⟩
theorem XaT :∀(n:Nat){A:Ar}{h d:Int},A.Inv->A.has h->A.has d->(A.get d).Xa=1->(adoptF n A h d).Inv/\(A.cut h).Tree (adoptF n A h d)
 |0,A,h,d,hI,hh,hd,hk=>⟨Ar.XC.cut hI hh,Ar.Tree.refl _⟩
 |n+1,A,h,d,hI,hh,hd,hk=>by{have hC:(A.cut h).Inv:=Ar.XC.cut hI hh;have hdC:(A.cut h).has d:=(Ar.X5 _ _ _).2 hd;have hkC:((A.cut h).get d).Xa=1:=by{rw[Ar.Zc hI hh hd];exact hk};have hhC:(A.cut h).has h:=(Ar.X5 _ _ _).2 hh;unfold adoptF;split;{exact⟨hC,Ar.Tree.refl _⟩};·refine Ze (P:=λB:Ar=>B.Inv/\(A.cut h).Tree B) ⟨hC,Ar.Tree.refl _⟩ ?_;rintro B x hx⟨hB,hT⟩;have hxC:(A.cut h).has x:=by{rcases List.mem_cons.1 hx with rfl|hx;{exact hhC};·exact(Zt hC h hhC x hx).1};refine XbW hB hT hdC hkC hxC ?_;intro B' c i hB' hc hp hi hik;have:=XaT n hB' hc hi hik;rw[J1 hp]at this;exact this}
theorem Xer :∀(n:Nat){A:Ar}{h d:Int},A.Inv->A.has h->A.has d->(A.get d).Xa=1->A.Xu d≠0->(adoptF n A h d).Xh=A.Xh/\(adoptF n A h d).ns.length=A.ns.length
 |0,A,h,d,hI,hh,hd,hk,hi=>⟨Ar.Z2 A h,Ar.YY A h⟩
 |n+1,A,h,d,hI,hh,hd,hk,hi=>by{have hC:(A.cut h).Inv:=Ar.XC.cut hI hh;have hdC:(A.cut h).has d:=(Ar.X5 _ _ _).2 hd;have hkC:((A.cut h).get d).Xa=1:=by{rw[Ar.Zc hI hh hd];exact hk};have hhC:(A.cut h).has h:=(Ar.X5 _ _ _).2 hh;unfold adoptF;split;{exact⟨Ar.Z2 A h,Ar.YY A h⟩};·have:=Ze (f:=Yf (adoptF n) d) (l:=h::(A.cut h).below h) (b:=A.cut h) (P:=λB:Ar=>(B.Inv/\(A.cut h).Tree B)/\B.Xh=A.Xh/\B.ns.length=A.ns.length) ⟨⟨hC,Ar.Tree.refl _⟩,Ar.Z2 A h,Ar.YY A h⟩ ?_;{exact this.2};rintro B x hx⟨⟨hB,hT⟩,e1,e2⟩;have hxC:(A.cut h).has x:=by{rcases List.mem_cons.1 hx with rfl|hx;{exact hhC};·exact(Zt hC h hhC x hx).1};refine⟨XbW hB hT hdC hkC hxC (λB' c i hB' hc hp hi hik=>by have:=XaT n hB' hc hi hik;rw[J1 hp]at this;exact this),?_⟩;obtain⟨s1,s2⟩:=Xbj B x d;have h1:=Ar.Inv.Xt hB x d;have t1:=hT.trans (Ar.Xam B x d);unfold Yf;split;{exact⟨s1.trans e1,s2.trans e2⟩};·rename_i hc;obtain⟨c1,c2,c3⟩:=ZL h1 (t1.has hxC) hc;have hd1:=t1.has hdC;have hin:(B.Xt x d).2.Xu d≠0:=by{have:(B.Xt x d).2.Xu d=A.Xu d:=by{unfold Ar.Xu;rw[s1,e1]};rw[this];exact hi};have he:(B.Xt x d).2.Xq d=((B.Xt x d).2.Xu d,(B.Xt x d).2):=by{unfold Ar.Xq;rw[if_pos hin]};obtain⟨q1,q2,q3,q4⟩:=Ar.XC.Xh h1 d hin;rw[he];obtain⟨r1,r2⟩:=Xer n h1 c1 q2 q3 (by rw[q4];exact hin);exact⟨r1.trans (s1.trans e1),r2.trans (s2.trans e2)⟩}
/-- How many nodes there may be when a Xn has got what it wants: one more, if its Xh Xn was missing. -/
def Ar.cap (A : Ar) (d : Int) : Nat := A.ns.length + (if A.Xu d = 0 then 1 else 0)
theorem Ar.Js (h1:B.Xh=A.Xh)(h2:B.ns.length=A.ns.length):B.cap d=A.cap d:=by
 unfold Ar.cap Ar.Xu
 rw[h1,h2]
theorem Ar.Yv (A:Ar)(d:Int):A.ns.length<=A.cap d:=by
 unfold Ar.cap
 omega
theorem Ar.Jk (A:Ar)(d:Int):A.cap d<=A.ns.length+1:=by
 unfold Ar.cap
 split<;>omega
theorem XcS (hd:A.has d)(hl:A.Xh.length=A.ns.length+1):(A.Xq d).2.cap d=A.cap d:=by
 have h:=XbV hd hl
 have h2:=h.2
 unfold Ar.cap
 rw[if_neg h2]
 by_cases q:A.Xu d=0
 ·rw[if_pos q];unfold Ar.Xq;rw[if_neg (λe=>e q)];simp[Ar.Xn,Ar.add]
 ·rw[if_neg q];unfold Ar.Xq;rw[if_pos q]
theorem Xkc :∀(n:Nat){A:Ar}{h d:Int},A.Inv->A.has h->A.has d->(A.get d).Xa=1->(adoptF n A h d).cap d=A.cap d
 |0,A,h,d,hI,hh,hd,hk=>Ar.Js (Ar.Z2 A h) (Ar.YY A h)
 |n+1,A,h,d,hI,hh,hd,hk=>by{have hC:(A.cut h).Inv:=Ar.XC.cut hI hh;have hdC:(A.cut h).has d:=(Ar.X5 _ _ _).2 hd;have hkC:((A.cut h).get d).Xa=1:=by{rw[Ar.Zc hI hh hd];exact hk};have hhC:(A.cut h).has h:=(Ar.X5 _ _ _).2 hh;have h0:(A.cut h).cap d=A.cap d:=Ar.Js (Ar.Z2 A h) (Ar.YY A h);unfold adoptF;split;{exact h0};·have:=Ze (f:=Yf (adoptF n) d) (l:=h::(A.cut h).below h) (b:=A.cut h) (P:=λB:Ar=>(B.Inv/\(A.cut h).Tree B)/\B.cap d=A.cap d) ⟨⟨hC,Ar.Tree.refl _⟩,h0⟩ ?_;{exact this.2};rintro B x hx⟨⟨hB,hT⟩,e1⟩;have hxC:(A.cut h).has x:=by{rcases List.mem_cons.1 hx with rfl|hx;{exact hhC};·exact(Zt hC h hhC x hx).1};refine⟨XbW hB hT hdC hkC hxC (λB' c i hB' hc hp hi hik=>by have:=XaT n hB' hc hi hik;rw[J1 hp]at this;exact this),?_⟩;obtain⟨s1,s2⟩:=Xbj B x d;have s3:(B.Xt x d).2.cap d=A.cap d:=(Ar.Js s1 s2).trans e1;have h1:=Ar.Inv.Xt hB x d;have t1:=hT.trans (Ar.Xam B x d);unfold Yf;split;{exact s3};·rename_i hc;obtain⟨c1,c2,c3⟩:=ZL h1 (t1.has hxC) hc;have hd1:=t1.has hdC;have h2:=Ar.XC.Xq h1 hd1;obtain⟨v1,v2⟩:=Ar.XC.Xbb h1 hd1;obtain⟨i1,i2⟩:=XbV hd1 h1.wf.Xh;obtain⟨q1,q2,q3,q4⟩:=Ar.XC.Xh h2 d i2;obtain⟨r1,r2⟩:=Xer n h2 ((Ar.Xal _ d).has c1) v1 v2 (by rw[i1,q4];exact i2);rw[Ar.Js r1 r2,XcS hd1 h1.wf.Xh,s3]}
/-- The nodes that are inserted for a node. -/
def Ar.X7 (A : Ar) (h : Int) : List Int := if (A.get h).Xa = 2 then (A.get h).Xc else [h]
/-- The child that follows a node, or 0. -/
def Ar.next (A : Ar) (h : Int) : Int :=
  if 0 < A.index h + 1 /\ A.index h + 1 < ((A.get (A.get h).Xd).Xc.length : Int) then (A.get (A.get h).Xd).Xc[(A.index h + 1).toNat]?.getD 0 else 0
def Yd (d p c : Int) (B : Ar) (x : Int) : Ar := ((B.YM x d).put p x c).2
def Ar.YD (A : Ar) (p n c : Int) : Ar := (A.X7 n).foldl (Yd (A.get p).doc p c) A
theorem JO (A:Ar)(p x c:Int):(A.put p x c).2.Xh=A.Xh/\(A.put p x c).2.ns.length=A.ns.length:=by
 unfold Ar.put
 split
 ·exact⟨rfl,rfl⟩
 ·exact⟨Ar.XdZ A p x c,by have:=Ar.XaI A p x c;unfold Ar.n at this;dsimp only;omega⟩
theorem XcT (hI:A.Inv)(p x c:Int)(hy:A.has y):(A.put p x c).2.has y/\((A.put p x c).2.get y).Xa=(A.get y).Xa/\((A.put p x c).2.get y).doc=(A.get y).doc:=by
 refine⟨⟨hy.1,by have:=(JO A p x c).2;have:=hy.2;unfold Ar.n at*;omega⟩,?_⟩
 unfold Ar.put
 split
 ·exact⟨rfl,rfl⟩
 ·rename_i q;have q:=Classical.not_not.1 q;obtain⟨h1,h2,h3,h4,h5,h6⟩:=Xem q;have hne:p≠x:=λe=>by{subst e;have:A.contains p p=true:=by{simp[Ar.contains,h1,Xcx (hI.wf.Zs h1) h1]};rw[this]at h6;exact absurd h6 (by simp)};show((A.place p x c).get y).Xa=_/\((A.place p x c).get y).doc=_;rw[Ar.Xcy h1 h2 hy hne,Ar.Zc hI h2 hy];exact⟨rfl,rfl⟩
theorem Xbk (hI:A.Inv)(hh:A.has h)(hd:A.has d)(hk:(A.get d).Xa=1):(A.YM h d).Inv/\(A.cut h).Tree (A.YM h d)/\(A.YM h d).cap d=A.cap d:=⟨(XaT _ hI hh hd hk).1,(XaT _ hI hh hd hk).2,Xkc _ hI hh hd hk⟩
theorem Xkd (hI:A.Inv)(hx:A.has x)(hd:A.has d)(hk:(A.get d).Xa=1):(Yd d p c A x).Inv/\(Yd d p c A x).cap d=A.cap d/\∀y,A.has y->(Yd d p c A x).has y/\((Yd d p c A x).get y).Xa=(A.get y).Xa:=by
 obtain⟨i1,i2,i3⟩:=Xbk hI hx hd hk
 unfold Yd
 refine⟨Ar.Inv.put i1 _ _ _,by rw[Ar.Js (JO _ _ _ _).1 (JO _ _ _ _).2,i3],λy hy=>?_⟩
 have hc:(A.cut x).has y:=(Ar.X5 _ _ _).2 hy
 obtain⟨g1,g2,_⟩:=XcT i1 p x c (i2.has hc)
 refine⟨g1,?_⟩
 rw[g2,i2.Xa hc,Ar.Zc hI hx hy]
theorem XbX (hI:A.Inv)(hh:A.has h):∀x∈A.X7 h,A.has x:=by
 intro x hx
 unfold Ar.X7 at hx
 split at hx
 ·exact(XF hI hh hx).1
 ·simp at hx;subst hx;exact hh
theorem Xes (hd:A.has d)(hk:(A.get d).Xa=1)(hI:A.Inv)(hl:∀x∈l,A.has x):(l.foldl (Yd d p c) A).Inv/\(l.foldl (Yd d p c) A).cap d=A.cap d/\∀y,A.has y->(l.foldl (Yd d p c) A).has y/\((l.foldl (Yd d p c) A).get y).Xa=(A.get y).Xa:=by
 refine Ze (P:=λB:Ar=>B.Inv/\B.cap d=A.cap d/\∀y,A.has y->B.has y/\(B.get y).Xa=(A.get y).Xa) ⟨hI,rfl,λy hy=>⟨hy,rfl⟩⟩ ?_
 rintro B x hx⟨h1,h2,h3⟩
 obtain⟨q1,q2,q3⟩:=Xkd (p:=p) (c:=c) h1 (h3 x (hl x hx)).1 (h3 d hd).1 ((h3 d hd).2.trans hk)
 exact⟨q1,q2.trans h2,λy hy=>⟨(q3 y (h3 y hy).1).1,(q3 y (h3 y hy).1).2.trans (h3 y hy).2⟩⟩
theorem Xet {n:Int}(hI:A.Inv)(hp:A.has p)(hn:A.has n):(A.YD p n c).Inv/\(A.YD p n c).ns.length<=A.ns.length+1:=by
 obtain⟨d1,d2⟩:=hI.ZV p hp
 obtain⟨q1,q2,q3⟩:=Xes (p:=p) (c:=c) d1 d2 hI (XbX hI hn)
 refine⟨q1,?_⟩
 have h1:=Ar.Yv (A.YD p n c) (A.get p).doc
 have h2:=Ar.Jk A (A.get p).doc
 unfold Ar.YD at h1⊢
 omega
/-- The kinds of the children before a child, and behind it. -/
def Zf (A : Ar) (c : Int) (s : Bool × List Int × List Int) (k : Int) : Bool × List Int × List Int :=
  if k = c then (true, s.2.1, s.2.2) else if s.1 = true then (s.1, s.2.1, s.2.2 ++ [(A.get k).Xa]) else (s.1, s.2.1 ++ [(A.get k).Xa], s.2.2)
def Ar.Zn (A : Ar) (p c : Int) : List Int × List Int := ((A.get p).Xc.foldl (Zf A c) (false, [], [])).2
def Ar.Zu (A : Ar) (p c : Int) (r : Bool) : Prop := 4 ∈ (A.Zn p c).1 \/ 4 ∈ (A.Zn p c).2 \/ 3 ∈ (A.Zn p c).2 \/ (r = false /\ c ≠ 0 /\ ((A.get c).Xa = 4 \/ (A.get c).Xa = 3))
instance (A : Ar) (p c : Int) (r : Bool) : Decidable (A.Zu p c r) := inferInstanceAs (Decidable (_ \/ _))
def Ar.Jd (A : Ar) (p c : Int) (r : Bool) : Prop := 3 ∈ (A.Zn p c).1 \/ 3 ∈ (A.Zn p c).2 \/ 4 ∈ (A.Zn p c).1 \/ (r = false /\ c ≠ 0 /\ (A.get c).Xa = 3)
instance (A : Ar) (p c : Int) (r : Bool) : Decidable (A.Jd p c r) := inferInstanceAs (Decidable (_ \/ _))
def Ar.XbY (A : Ar) (h : Int) : List Int := (A.get h).Xc.map (λk => (A.get k).Xa)
def Ar.JB (A : Ar) (p n c : Int) (r : Bool) : Prop := 5 ∈ A.XbY n \/ 1 < (A.XbY n).count 4 \/ ((A.XbY n).count 4 = 1 /\ A.Zu p c r)
instance (A : Ar) (p n c : Int) (r : Bool) : Decidable (A.JB p n c r) := inferInstanceAs (Decidable (_ \/ _))
/-- A Xn would have too many children, or in a wrong order. -/
def Ar.Xan (A : Ar) (p n c : Int) (r : Bool) : Prop := ((A.get n).Xa = 2 /\ A.JB p n c r) \/ ((A.get n).Xa = 4 /\ A.Zu p c r) \/ ((A.get n).Xa = 3 /\ A.Jd p c r)
instance (A : Ar) (p n c : Int) (r : Bool) : Decidable (A.Xan p n c r) := inferInstanceAs (Decidable (_ \/ _))
/-- The rules of an insertion, one by one. -/
def Ar.rule (A : Ar) (p n c : Int) (r : Bool) : Nat -> Prop
  | 0 => ¬ ((A.get p).Xa = 1 \/ (A.get p).Xa = 2 \/ (A.get p).Xa = 4)
  | 1 => A.contains n p = true
  | 2 => c ≠ 0 /\ (A.get c).Xd ≠ p
  | 3 => (A.get n).Xa = 1
  | 4 => ((A.get p).Xa = 1 /\ (A.get n).Xa = 5) \/ ((A.get p).Xa ≠ 1 /\ (A.get n).Xa = 3)
  | 5 => (A.get p).Xa = 1 /\ A.Xan p n c r
  | _ => False
instance (A : Ar) (p n c : Int) (r : Bool) : ∀ i, Decidable (A.rule p n c r i)
  | 0 => inferInstanceAs (Decidable (¬ _))
  | 1 => inferInstanceAs (Decidable (_ = _))
  | 2 => inferInstanceAs (Decidable (_ /\ _))
  | 3 => inferInstanceAs (Decidable (_ = _))
  | 4 => inferInstanceAs (Decidable (_ \/ _))
  | 5 => inferInstanceAs (Decidable (_ /\ _))
  | _ + 6 => inferInstanceAs (Decidable False)
def Xao (i : Nat) : Int := if i = 2 then 5 else 4
/-- The error of the first rule from i on that applies. -/
def Ar.ruleFrom (A : Ar) (p n c : Int) (r : Bool) : Nat -> Nat -> Int
  | _, 0 => 0
  | i, m + 1 => if A.rule p n c r i then Xao i else A.ruleFrom p n c r (i + 1) m
def Ar.Ya (A : Ar) (p n c : Int) (r : Bool) : Int := A.ruleFrom p n c r 0 6
def Ar.Y4 (A : Ar) (p n c : Int) : Int := if A.has p /\ A.has n /\ (c ≠ 0 -> A.has c) then A.Ya p n c false else 3
def Ar.XX (A : Ar) (p n c : Int) : Int × Ar := if A.Y4 p n c ≠ 0 then (A.Y4 p n c, A) else (0, A.YD p n (if c = n then A.next n else c))
def Ar.YU (A : Ar) (p n c : Int) : Int × Ar :=
  if A.has p /\ A.has n /\ A.has c then
    if A.Ya p n c true ≠ 0 then (A.Ya p n c true, A) else (0, (A.cut c).YD p n (if A.next c = n then A.next n else A.next c))
  else (3, A)
def Ar.Zo (A : Ar) (p c : Int) : Int × Ar := if A.has p /\ A.has c then (if (A.get c).Xd ≠ p then (5, A) else (0, A.cut c)) else (3, A)
def Ar.empty (A : Ar) (p : Int) : Ar := (A.get p).Xc.foldl (λB k => B.cut k) A
def Ar.Yq (A : Ar) (p n : Int) : Int × Ar :=
  if A.has p /\ (n ≠ 0 -> A.has n) then
    if (A.get p).Xa ≠ 4 /\ (A.get p).Xa ≠ 2 then (9, A)
    else if n ≠ 0 /\ ((A.get n).Xa ≠ 2 \/ A.contains n p = true) then (4, A)
    else (0, if n ≠ 0 then (A.empty p).YD p n 0 else A.empty p)
  else (3, A)
def Ar.YV (A : Ar) (n d : Int) : Int × Ar :=
  if A.has n /\ A.has d then (if (A.get d).Xa ≠ 1 \/ (A.get n).Xa = 1 \/ (A.get n).host ≠ 0 then (9, A) else (0, A.YM n d)) else (3, A)
end
end Go.Proofs.YtpicinjcmjaogaaGreat
