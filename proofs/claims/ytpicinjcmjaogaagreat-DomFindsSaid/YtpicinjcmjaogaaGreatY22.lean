import Derived.Test.YtpicinjcmjaogaaGreatY21
set_option maxRecDepth 100000
set_option maxHeartbeats 4000000
set_option linter.unusedVariables false
namespace Go.Proofs.YtpicinjcmjaogaaGreat
variable{A B C A0:Ar}{h d c:Int}{X:Nat}
section
/-- The bytes of a text. -/
def tx (n : Nd) : Nat := if n.Xa = 5 then n.data.size else 0
def Ar.Xk (A : Ar) : Nat := (A.ns.map tx).sum
/-- What joining would add: all texts of a row but the first that is not empty. -/
def gainL (A : Ar) : Bool -> List Int -> Nat
  | _, [] => 0
  | b, k :: l => if (A.get k).Xa ≠ 5 then gainL A false l else if b = true then (A.get k).data.size + gainL A true l else gainL A (decide ((A.get k).data.size ≠ 0)) l
def Ar.hs (A : Ar) : List Int := (List.range A.ns.length).map (λi : Nat => (i : Int) + 1)
def Ar.X9 (A : Ar) : Nat := (A.hs.map (λx => gainL A false (A.get x).Xc)).sum
theorem ZW {x:Int}:x∈A.hs↔A.has x:=by
 unfold Ar.hs Ar.has Ar.n
 rw[List.mem_map]
 constructor
 ·rintro⟨i,hi,rfl⟩;have:=List.mem_range.1 hi;omega
 ·rintro⟨h1,h2⟩;exact⟨x.toNat-1,List.mem_range.2 (by omega),by omega⟩
theorem Xdf (A:Ar):A.hs.Nodup:=by
 unfold Ar.hs
 rw[List.nodup_iff_pairwise_ne,List.pairwise_map]
 refine List.Pairwise.imp ?_ List.nodup_range
 intro a b hab e
 omega
theorem Xl5 {α:Type}(A:Ar)(f:Nd->α):A.ns.map f=A.hs.map (λx=>f (A.get x)):=by
 unfold Ar.hs
 apply List.ext_getElem?
 intro i
 simp only[List.getElem?_map]
 by_cases hi:i<A.ns.length
 ·rw[List.getElem?_range hi];have e:A.get ((i:Int)+1)=A.ns[i]:=by{unfold Ar.get;have:((i:Int)+1).toNat-1=i:=by{omega};rw[this,List.getElem?_eq_getElem hi];rfl};simp only[Option.map_some,e,List.getElem?_eq_getElem hi]
 ·rw[List.getElem?_eq_none (by omega),List.getElem?_eq_none (by simp;omega)];rfl
theorem Xce (A:Ar):A.Xk=(A.hs.map (λx=>tx (A.get x))).sum:=by
 unfold Ar.Xk
 rw[Xl5]
theorem Xax {f:Int->Nat}:∀{l H:List Int},l.Nodup->(∀x∈l,x∈H)->(l.map f).sum<=(H.map f).sum
 | [],H,_,_=>by{simp}
 |x::l,H,hn,hs=>by{obtain⟨h1,h2⟩:=List.nodup_cons.1 hn;have hp:=(List.perm_cons_erase (hs x (by simp))).map f;have e:=hp.sum_nat;have:=Xax (f:=f) (l:=l) (H:=H.erase x) h2 (λy hy=>(List.mem_erase_of_ne (by rintro rfl;exact h1 hy)).2 (hs y (by simp[hy])));rw[e];simp only[List.map_cons,List.sum_cons];omega}
theorem Xfa {f g:Int->Nat}:∀{l:List Int},(∀x∈l,f x<=g x)->(l.map f).sum<=(l.map g).sum
 | [],_=>by{simp}
 |x::l,h=>by{have h1:=h x (by simp);have h2:=Xfa (f:=f) (g:=g) (l:=l) (λy hy=>h y (by simp[hy]));simp only[List.map_cons,List.sum_cons];omega}
theorem Xdg {f:Int->Nat}{g:Int->List Int}:∀{l:List Int},((l.flatMap g).map f).sum=(l.map (λx=>((g x).map f).sum)).sum
 | []=>rfl
 |x::l=>by{simp only[List.flatMap_cons,List.map_append,List.sum_append,List.map_cons,List.sum_cons,Xdg (f:=f) (g:=g) (l:=l)]}
theorem Xl6 {f g:Int->Nat}{H:List Int}(hh:h∈H)(hn:H.Nodup)(he:∀x∈H,x≠h->g x=f x):(H.map g).sum+f h=(H.map f).sum+g h:=by
 have hp:=List.perm_cons_erase hh
 have e1:=(hp.map f).sum_nat
 have e2:=(hp.map g).sum_nat
 have e3:(H.erase h).map g=(H.erase h).map f:=List.map_congr_left (λx hx=>by obtain⟨q1,q2⟩:=(List.Nodup.mem_erase_iff hn).1 hx;exact he x q2 q1)
 rw[e1,e2]
 simp only[List.map_cons,List.sum_cons,e3]
 omega
theorem Xa1 {A B:Ar}:∀{l:List Int}(b:Bool),(∀k∈l,(B.get k).Xa=(A.get k).Xa/\(B.get k).data=(A.get k).data)->gainL B b l=gainL A b l
 | [],_,_=>rfl
 |k::l,b,h=>by{obtain⟨h1,h2⟩:=h k (by simp);have h':∀k'∈l,(B.get k').Xa=(A.get k').Xa/\(B.get k').data=(A.get k').data:=λk' hk=>h k' (by simp[hk]);unfold gainL;rw[h1,h2,Xa1 false h',Xa1 true h',Xa1 _ h']}
theorem Xdh (A:Ar):∀(l:List Int)(b:Bool),gainL A b l<=(l.map (λk=>tx (A.get k))).sum
 | [],_=>by{simp[gainL]}
 |k::l,b=>by{have h1:=Xdh A l false;have h2:=Xdh A l true;have h3:=Xdh A l (decide ((A.get k).data.size≠0));unfold gainL;simp only[List.map_cons,List.sum_cons];split;{omega};·rename_i q;have q:=Classical.not_not.1 q;have e:tx (A.get k)=(A.get k).data.size:=by{unfold tx;rw[if_pos q]};split<;>omega}
theorem Xhz (hI:A.Inv):(A.hs.flatMap (λx=>(A.get x).Xc)).Nodup:=by
 refine XgF (Xdf A) (λx hx=>hI.wf.nodup x (ZW.1 hx)) ?_
 intro j hj k hk x h1 h2
 rw[<-(XF hI (ZW.1 hj) h1).2.2,(XF hI (ZW.1 hk) h2).2.2]
theorem XhA (hI:A.Inv):A.X9<=A.Xk:=by
 rw[Xce]
 refine Nat.le_trans (Xfa (λx hx=>Xdh A (A.get x).Xc false)) ?_
 rw[<-Xdg (f:=λk=>tx (A.get k)) (g:=λx=>(A.get x).Xc)]
 refine Xax (Xhz hI) (λx hx=>?_)
 obtain⟨y,hy,hx⟩:=List.mem_flatMap.1 hx
 exact ZW.2 (XF hI (ZW.1 hy) hx).1
theorem Xdi (A:Ar)(n:Nd):(A.add n).Xk=A.Xk+tx n:=by
 simp[Ar.Xk,Ar.add]
theorem XhB {f:Nd->Nd}{c:Nat}(hf:∀n,tx (f n)<=tx n+c):∀(l:List Nd)(i:Nat),((l.modify i f).map tx).sum<=(l.map tx).sum+c
 | [],i=>by{simp}
 |n::l,0=>by{have:=hf n;simp;omega}
 |n::l,i+1=>by{have:=XhB hf l i;simp;omega}
theorem XhC (A:Ar)(x:Int){f:Nd->Nd}(c:Nat)(hf:∀n,tx (f n)<=tx n+c):(A.mod x f).Xk<=A.Xk+c:=XhB hf _ _
theorem Xay (A:Ar)(x:Int){f:Nd->Nd}(hf:∀n,tx (f n)=tx n):(A.mod x f).Xk<=A.Xk:=XhC A x 0 (λn=>Nat.le_of_eq (hf n))
theorem J9 (A:Ar)(x:Int):(A.cut x).Xk<=A.Xk:=by
 unfold Ar.cut
 split
 ·exact Nat.le_refl _
 ·exact Nat.le_trans (Xay _ _ (λ_=>rfl)) (Xay _ _ (λ_=>rfl))
theorem Xcf (A:Ar)(p x c:Int):(A.put p x c).2.Xk<=A.Xk:=by
 unfold Ar.put
 split
 ·exact Nat.le_refl _
 ·exact Nat.le_trans (Xay _ _ (λ_=>rfl)) (Nat.le_trans (Xay _ _ (λ_=>rfl)) (J9 A x))
theorem Xfb (A:Ar)(q:Bool):(A.Xn q).Xk<=A.Xk:=by
 rw[Ar.Xn,Xdi]
 exact Nat.le_refl _
theorem Xfc (A:Ar)(d:Int):(A.Xq d).2.Xk<=A.Xk:=by
 unfold Ar.Xq
 split
 ·exact Nat.le_refl _
 ·exact Xfb A false
theorem XhD (A:Ar)(d:Int):(A.YA d).2.Xk<=A.Xk:=by
 unfold Ar.YA
 split
 ·exact Nat.le_refl _
 ·exact Xfc A d
theorem Xaa (A:Ar)(d:Int)(n:Nd):(A.make d n).2.Xk<=A.Xk+tx n:=by
 unfold Ar.make
 split
 ·exact Nat.le_add_right _ _
 ·rw[Xdi];exact Nat.le_refl _
theorem Xfd (A:Ar)(d s:Int)(name:ByteArray)(l:List Xm):(A.element d s name l).2.Xk<=A.Xk:=by
 have h1:(A.add (XJ d s name l)).Xk<=A.Xk:=by rw[Xdi];exact Nat.le_refl _
 by_cases he:A.XA d=0
 ·by_cases hs:XS s/\Ys l;{by_cases ht:XN (XJ d s name l);{rw[XaN he hs ht];refine Nat.le_trans (Xay _ _ (λ_=>rfl)) ?_;rw[Xdi];exact Nat.le_trans (Xfc _ d) h1};·rw[XaM he hs ht];exact h1};·rw[XaL he hs];exact Nat.le_refl _
 ·have:A.element d s name l=((0,A.XA d),A):=by{simp[Ar.element,he]};rw[this];exact Nat.le_refl _
theorem XhE (A:Ar)(x:Int)(s:ByteArray):(A.XG x s).2.Xk<=A.Xk+s.size:=by
 unfold Ar.XG
 split
 ·exact Nat.le_add_right _ _
 ·split;{exact Nat.le_add_right _ _};·refine XhC A x s.size (λn=>?_);unfold tx;dsimp only;split<;>omega
theorem XhF {f:Nd->Nd}:∀(l:List Nd)(i:Nat)(n:Nd),l[i]?=some n->((l.modify i f).map tx).sum+tx n=(l.map tx).sum+tx (f n)
 | [],i,n,h=>by{simp at h}
 |m::l,0,n,h=>by{simp at h;subst h;simp;omega}
 |m::l,i+1,n,h=>by{have:=XhF (f:=f) l i n (by simpa using h);simp;omega}
theorem Xfe {x:Int}(s:ByteArray)(hx:A.has x)(hk:(A.get x).Xa=5):(A.XG x s).2.Xk+(A.get x).data.size=A.Xk+s.size:=by
 unfold Ar.XG
 rw[if_neg (λe=>e hx),if_neg (λe=>e (.inl hk))]
 have h1:A.ns[x.toNat-1]?=some (A.get x):=by obtain⟨hi,e⟩:=Ar.Xcq hx;rw[e];exact List.getElem?_eq_getElem hi
 have:=XhF (f:=λn=>{n with data:=s}) A.ns (x.toNat-1) _ h1
 have e1:tx (A.get x)=(A.get x).data.size:=by unfold tx;rw[if_pos hk]
 have e2:tx {(A.get x)with data:=s}=s.size:=by unfold tx;rw[if_pos hk]
 rw[e1,e2]at this
 exact this
theorem XhG (A:Ar)(x:Int)(q:Bool):(A.YQ x q).2.Xk<=A.Xk:=by
 unfold Ar.YQ
 repeat' split
 all_goals first|(exact Nat.le_refl _)|exact Xay _ _ (λ_=>rfl)
theorem Xdj (A:Ar)(x d:Int):(A.Xt x d).2.Xk<=A.Xk:=by
 unfold Ar.Xt
 repeat' split
 all_goals first|(exact Nat.le_refl _)|exact Xay _ _ (λ_=>rfl)
theorem Xdk (A:Ar)(x:Int)(l:List Xm):(A.X0 x l).2.Xk<=A.Xk:=by
 unfold Ar.X0
 repeat' split
 all_goals first|(exact Nat.le_refl _)|exact Xay _ _ (λ_=>rfl)
theorem Xff :∀(n:Nat)(A:Ar)(h d:Int),(adoptF n A h d).Xk<=A.Xk
 |0,A,h,d=>J9 A h
 |n+1,A,h,d=>by{unfold adoptF;split;{exact J9 A h};·refine Ze (P:=λB:Ar=>B.Xk<=A.Xk) (J9 A h) ?_;intro B x hx hB;unfold Yf;split;{exact Nat.le_trans (Xdj B x d) hB};·exact Nat.le_trans (Xff n _ _ _) (Nat.le_trans (Xfc _ d) (Nat.le_trans (Xdj B x d) hB))}
theorem Xfg (A:Ar)(p n c:Int):(A.YD p n c).Xk<=A.Xk:=Ze (P:=λB:Ar=>B.Xk<=A.Xk) (Nat.le_refl _) (λB x hx hB=>Nat.le_trans (Xcf _ _ _ _) (Nat.le_trans (Xff _ B _ _) hB))
theorem Xdl (A:Ar)(p:Int):(A.empty p).Xk<=A.Xk:=Ze (P:=λB:Ar=>B.Xk<=A.Xk) (Nat.le_refl _) (λB x hx hB=>Nat.le_trans (J9 B x) hB)
theorem Xfh {s:ByteArray}:s.size=0↔s=ByteArray.empty:=⟨λh=>ByteArray.ext (Array.eq_empty_of_size_eq_zero h),λh=>by rw[h];rfl⟩
theorem Xdm {h:Int}:∀(l:List Int)(s:X8)(dn:List Int),s.ar.Inv->s.ar.has h->(s.ar.get h).Xc=dn++l->(s.first≠0->s.first∈dn/\(s.ar.get s.first).Xa=5)->(s.first=0->s.data=ByteArray.empty)->(l.foldl X8.step s).flush.ar.Xk+(if s.first≠0 then(s.ar.get s.first).data.size else 0)<=s.ar.Xk+s.data.size+gainL s.ar (decide (s.first≠0)) l
 | [],s,dn,hI,hh,hk,hf,h0=>by{show s.flush.ar.Xk+_<=_;unfold X8.flush;dsimp only;by_cases q:s.first=0;{rw[if_neg (λe=>e q),if_neg (λe=>e q)];omega};·rw[if_pos q,if_pos q];have:=Xfe s.data (XF hI hh (by rw[hk];simp[(hf q).1])).1 (hf q).2;omega}
 |k::l,s,dn,hI,hh,hk,hf,h0=>by{have hnd:=hI.wf.nodup h hh;rw[hk]at hnd;obtain⟨n1,n2,n3⟩:=List.nodup_append.1 hnd;obtain⟨n4,n5⟩:=List.nodup_cons.1 n2;have hkd:k∉dn:=λq=>n3 k q k (by simp) rfl;obtain⟨hk1,hk2,hk3⟩:=XF hI hh (k:=k) (by rw[hk];simp);have hf':s.first≠0->s.ar.has s.first/\(s.ar.get s.first).Xa=5:=λq=>⟨(XF hI hh (by rw[hk];simp[(hf q).1])).1,(hf q).2⟩;have hfl:s.first≠0->s.first≠k/\s.first∉l:=λq=>⟨λe=>hkd (e▸(hf q).1),λe=>n3 _ (hf q).1 _ (by simp[e]) rfl⟩;have hlh:∀x∈l,s.ar.has x:=λx hx=>(XF hI hh (by rw[hk];simp[hx])).1;rw[List.foldl_cons];by_cases q5:(s.ar.get k).Xa=5;{by_cases q0:s.first=0/\(s.ar.get k).data≠ByteArray.empty;{have e:s.step k=⟨s.ar,k,(s.ar.get k).data⟩:=by{unfold X8.step;rw[if_neg (λe=>e q5),if_pos q0]};rw[e];have hk0:k≠0:=by{have:=hk1.1;omega};have hsz:(s.ar.get k).data.size≠0:=λz=>q0.2 (Xfh.1 z);have ih:=Xdm (h:=h) l ⟨s.ar,k,(s.ar.get k).data⟩ (dn++ [k]) hI hh (by rw[hk];simp) (λ_=>⟨by simp,q5⟩) (λz=>absurd z hk0);dsimp only at ih;rw[if_pos hk0,decide_eq_true hk0]at ih;rw[if_neg (λz=>z q0.1),h0 q0.1];have eg:gainL s.ar (decide (s.first≠0)) (k::l)=gainL s.ar true l:=by{rw[decide_eq_false (λz=>z q0.1)];(conv=>lhs;unfold gainL);rw[if_neg (λe=>e q5),if_neg (by simp),decide_eq_true hsz]};rw[eg];have:ByteArray.empty.size=0:=rfl;omega};·have e:s.step k=⟨s.ar.cut k,s.first,s.data++(s.ar.get k).data⟩:=by{unfold X8.step;rw[if_neg (λe=>e q5),if_neg q0]};rw[e];have hcg:∀x,s.ar.has x->(s.ar.cut k).get x=(s.ar.get x).re (if x=h then XQ (s.ar.get x).Xc k else(s.ar.get x).Xc) (if x=k then 0 else(s.ar.get x).Xd):=λx hx=>by{rw[Ar.Zc hI hk1 hx,hk3]};have hkc:∀x,s.ar.has x->((s.ar.cut k).get x).Xa=(s.ar.get x).Xa/\((s.ar.cut k).get x).data=(s.ar.get x).data:=λx hx=>by{rw[hcg x hx];exact⟨rfl,rfl⟩};have hkids:((s.ar.cut k).get h).Xc=dn++l:=by{rw[hcg h hh,if_pos rfl];show XQ (s.ar.get h).Xc k=_;rw[hk];unfold XQ;rw[List.filter_append,List.filter_cons];simp only[ne_eq,not_true_eq_false,decide_false,Bool.false_eq_true,if_false];rw[List.filter_eq_self.2 (λy hy=>by simp;rintro rfl;exact hkd hy),List.filter_eq_self.2 (λy hy=>by simp;rintro rfl;exact n4 hy)]};have hd0:s.first=0->s.data++(s.ar.get k).data=ByteArray.empty:=λz=>by{have:(s.ar.get k).data=ByteArray.empty:=Classical.byContradiction λy=>q0 ⟨z,y⟩;rw[h0 z,this];rfl};have ih:=Xdm (h:=h) l ⟨s.ar.cut k,s.first,s.data++(s.ar.get k).data⟩ dn (Ar.XC.cut hI hk1) ((Ar.X5 _ _ _).2 hh) hkids (λz=>⟨(hf z).1,by rw[(hkc _ (hf' z).1).1];exact(hf' z).2⟩) hd0;dsimp only at ih;have hm:=J9 s.ar k;rw[Xa1 _ (λy hy=>hkc y (hlh y hy)),ByteArray.size_append]at ih;by_cases z:s.first=0;{have hz:(s.ar.get k).data=ByteArray.empty:=Classical.byContradiction λy=>q0 ⟨z,y⟩;have hz2:(s.ar.get k).data.size=0:=Xfh.2 hz;rw[if_neg (λe=>e z),decide_eq_false (λe=>e z)]at ih;rw[if_neg (λe=>e z),decide_eq_false (λe=>e z)];have eg:gainL s.ar false (k::l)=gainL s.ar false l:=by{(conv=>lhs;unfold gainL);rw[if_neg (λe=>e q5),if_neg (by simp),decide_eq_false (λe=>e hz2)]};rw[eg];omega};·rw[if_pos z,decide_eq_true z,(hkc _ (hf' z).1).2]at ih;rw[if_pos z,decide_eq_true z];have eg:gainL s.ar true (k::l)=(s.ar.get k).data.size+gainL s.ar true l:=by{(conv=>lhs;unfold gainL);rw[if_neg (λe=>e q5),if_pos rfl]};rw[eg];omega};·have e:s.step k=s.flush:=by{unfold X8.step;rw[if_pos q5]};rw[e];have hkc:∀x,s.ar.has x->(s.flush.ar.get x).Xa=(s.ar.get x).Xa/\(s.flush.ar.get x).Xc=(s.ar.get x).Xc/\(s.flush.ar.get x).Xd=(s.ar.get x).Xd:=λx hx=>by{rw[Xau hf' hx];exact⟨rfl,rfl,rfl⟩};have hfh:∀x,s.flush.ar.has x↔s.ar.has x:=λx=>by{unfold Ar.has;rw[(XaX s).1]};have hnl:∀x∈l,((if s.first≠0 then [(s.first,s.data)]else []).lookup x)=none:=λx hx=>by{refine Jy (λp hp=>?_);by_cases z:s.first=0;{simp[z]at hp};·simp[z]at hp;subst hp;exact λe=>(hfl z).2 (by have e':s.first=x:=e;rw[e'];exact hx)};have hkd2:∀x∈l,(s.flush.ar.get x).data=(s.ar.get x).data:=λx hx=>by{rw[Xau hf' (hlh x hx),hnl x hx];rfl};have ih:=Xdm (h:=h) l s.flush (dn++ [k]) (Xc9 hI) ((hfh h).2 hh) (by rw[(hkc h hh).2.1,hk];simp) (λz=>absurd rfl z) (λ_=>rfl);have e0:s.flush.first=0:=rfl;have e1:s.flush.data=ByteArray.empty:=rfl;rw[e0,e1,if_neg (λz=>z rfl),decide_eq_false (λz=>z rfl),Xa1 false (λy hy=>⟨(hkc y (hlh y hy)).1,hkd2 y hy⟩)]at ih;have eg:gainL s.ar (decide (s.first≠0)) (k::l)=gainL s.ar false l:=by{(conv=>lhs;unfold gainL);rw[if_pos q5]};rw[eg];have em:s.flush.ar.Xk+(if s.first≠0 then(s.ar.get s.first).data.size else 0)=s.ar.Xk+s.data.size:=by{unfold X8.flush;dsimp only;by_cases q:s.first=0;{rw[if_neg (λe=>e q),if_neg (λe=>e q),h0 q];rfl};·rw[if_pos q,if_pos q];exact Xfe s.data (hf' q).1 (hf' q).2};have:ByteArray.empty.size=0:=rfl;omega}
/-- No text directly follows a text. -/
def alt (A : Ar) : Bool -> List Int -> Prop
  | _, [] => True
  | b, k :: l => if (A.get k).Xa ≠ 5 then alt A false l else b = false /\ alt A true l
theorem Xdn {A:Ar}:∀(l:List Int)(f:Int)(d:ByteArray),(∀k∈l,k≠0)->alt A (decide (f≠0)) (jk A f d l).1
 | [],f,d,_=>trivial
 |k::l,f,d,h=>by{have h':∀k'∈l,k'≠0:=λk' hk=>h k' (by simp[hk]);unfold jk;by_cases q5:(A.get k).Xa=5;{rw[if_neg (λe=>e q5)];by_cases q0:f=0/\(A.get k).data≠ByteArray.empty;{rw[if_pos q0];unfold alt;rw[if_neg (λe=>e q5)];have:=Xdn (A:=A) l k (A.get k).data h';rw[decide_eq_true (h k (by simp))]at this;exact⟨by rw[q0.1];rfl,this⟩};·rw[if_neg q0];exact Xdn l _ _ h'};·rw[if_pos q5];unfold alt;rw[if_pos q5];exact Xdn l 0 _ h'}
theorem XhH {A:Ar}:∀(l:List Int),(alt A true l->∀b,gainL A b l=0)/\(alt A false l->gainL A false l=0)
 | []=>⟨λ_ _=>rfl,λ_=>rfl⟩
 |k::l=>by{obtain⟨h1,h2⟩:=XhH (A:=A) l;constructor;{intro h b;unfold alt at h;unfold gainL;by_cases q5:(A.get k).Xa=5;{rw[if_neg (λe=>e q5)]at h;exact absurd h.1 (by simp)};·rw[if_pos q5]at h⊢;exact h2 h};·intro h;unfold alt at h;unfold gainL;by_cases q5:(A.get k).Xa=5;{rw[if_neg (λe=>e q5)]at h⊢;rw[if_neg (by simp)];exact h1 h.2 _};·rw[if_pos q5]at h⊢;exact h2 h}
theorem Xfi {A B:Ar}:∀{l:List Int}(b:Bool),(∀k∈l,(B.get k).Xa=(A.get k).Xa)->alt A b l->alt B b l
 | [],_,_,_=>trivial
 |k::l,b,h,ha=>by{have h':∀k'∈l,(B.get k').Xa=(A.get k').Xa:=λk' hk=>h k' (by simp[hk]);unfold alt at ha⊢;rw[h k (by simp)];split;{rename_i q;rw[if_pos q]at ha;exact Xfi _ h' ha};·rename_i q;rw[if_neg q]at ha;exact⟨ha.1,Xfi _ h' ha.2⟩}
theorem XhI (hI:A.Inv)(hh:A.has h):(A.join h).Xk+(A.join h).X9<=A.Xk+A.X9:=by
 obtain⟨r1,r2,r3,r4⟩:=Xav hI hh
 have hm:=Xdm (h:=h) (A.get h).Xc ⟨A,0,ByteArray.empty⟩ [] hI hh rfl (λz=>absurd rfl z) (λ_=>rfl)
 have hm:(A.join h).Xk<=A.Xk+gainL A false (A.get h).Xc:=by have e:ByteArray.empty.size=0:=rfl;simpa[Ar.join,e]using hm
 have hk0:∀k∈(A.get h).Xc,k≠0:=λk hk=>by have:=(XF hI hh hk).1.1;omega
 have hks:=JF (B:=A) (A.get h).Xc 0 ByteArray.empty
 have hkeys:=JG (B:=A) (A.get h).Xc 0 ByteArray.empty
 have halt:=Xdn (A:=A) (A.get h).Xc 0 ByteArray.empty hk0
 generalize jk A 0 ByteArray.empty (A.get h).Xc=J at*
 have hhs:(A.join h).hs=A.hs:=by unfold Ar.hs;rw[r2]
 have hh':h∈A.hs:=ZW.2 hh
 have hkk:∀x,A.has x->((A.join h).get x).Xa=(A.get x).Xa:=λx hx=>by rw[r4 x hx];rfl
 have hs:=Xl6 (f:=λx=>gainL A false (A.get x).Xc) (g:=λx=>gainL (A.join h) false ((A.join h).get x).Xc) hh' (Xdf A) (λx hx hne=>by have hx':=ZW.1 hx;have ek:((A.join h).get x).Xc=(A.get x).Xc:=by{rw[r4 x hx'];show(if x=h then _ else _)=_;rw[if_neg hne]};show gainL (A.join h) false ((A.join h).get x).Xc=gainL A false (A.get x).Xc;rw[ek];refine Xa1 false (λy hy=>?_);obtain⟨y1,y2,y3⟩:=XF hI hx' hy;refine⟨hkk y y1,?_⟩;rw[r4 y y1];show(J.2.lookup y).getD (A.get y).data=_;have:J.2.lookup y=none:=Jy (λp hp=>by rcases hkeys p hp with⟨_,z⟩|⟨z,_⟩;{exact absurd rfl z};·exact λe=>hne (by rw[<-y3,<-e];exact(XF hI hh z).2.2));rw[this];rfl)
 have hz:gainL (A.join h) false ((A.join h).get h).Xc=0:=by have ek:((A.join h).get h).Xc=J.1:=by{rw[r4 h hh];show(if h=h then _ else _)=_;rw[if_pos rfl]};rw[ek];exact(XhH _).2 (Xfi false (λk hk=>hkk k (XF hI hh (hks k hk)).1) halt)
 have e1:(A.join h).X9=(A.hs.map (λx=>gainL (A.join h) false ((A.join h).get x).Xc)).sum:=by unfold Ar.X9;rw[hhs]
 have e2:A.X9=(A.hs.map (λx=>gainL A false (A.get x).Xc)).sum:=rfl
 rw[hz]at hs
 rw[e1,e2]
 omega
theorem Xfj (hI:A.Inv)(h:Int):(A.normalize h).2.Inv/\(A.normalize h).2.ns.length=A.ns.length/\(A.normalize h).2.Xh=A.Xh/\(A.normalize h).2.Xk+(A.normalize h).2.X9<=A.Xk+A.X9:=by
 unfold Ar.normalize
 split
 ·rename_i hh;obtain⟨q1,q2,q3,-⟩:=Xav hI hh;have q4:=XhI hI hh;have hh1:(A.join h).has h:=⟨hh.1,by have:=hh.2;unfold Ar.n at*;omega⟩;dsimp only;refine Ze (P:=λB:Ar=>B.Inv/\B.ns.length=A.ns.length/\B.Xh=A.Xh/\B.Xk+B.X9<=A.Xk+A.X9) ⟨q1,q2,q3,q4⟩ ?_;rintro B x hx⟨p1,p2,p3,p4⟩;have hxB:B.has x:=by{have:=(Zt q1 h hh1 x hx).1;exact⟨this.1,by have:=this.2;unfold Ar.n at*;omega⟩};obtain⟨s1,s2,s3,-⟩:=Xav p1 hxB;have s4:=XhI p1 hxB;exact⟨s1,s2.trans p2,s3.trans p3,Nat.le_trans s4 p4⟩
 ·exact⟨hI,rfl,rfl,Nat.le_refl _⟩
end
section
theorem Xcg {p:Int}(hI:A.Inv)(hp:A.has p):(A.empty p).Inv/\(A.empty p).n=A.n/\(A.empty p).Xh=A.Xh/\∀x,A.has x->((A.empty p).get x).Xa=(A.get x).Xa/\((A.empty p).get x).doc=(A.get x).doc:=by
 refine Ze (P:=λB:Ar=>B.Inv/\B.n=A.n/\B.Xh=A.Xh/\∀x,A.has x->(B.get x).Xa=(A.get x).Xa/\(B.get x).doc=(A.get x).doc) ⟨hI,rfl,rfl,λ_ _=>⟨rfl,rfl⟩⟩ ?_
 rintro B x hx⟨q1,q2,q3,q4⟩
 have hx':=(XF hI hp hx).1
 have hhas:∀y,B.has y↔A.has y:=λy=>by unfold Ar.has;rw[q2]
 refine⟨Ar.XC.cut q1 ((hhas x).2 hx'),(Ar.XaG B x).trans q2,(Ar.Z2 B x).trans q3,λy hy=>?_⟩
 rw[Ar.Zc q1 ((hhas x).2 hx') ((hhas y).2 hy)]
 exact q4 y hy
theorem Xbw (h:A.n=B.n):A.ns.length=B.ns.length:=by
 unfold Ar.n at h
 omega
theorem XhJ (A:Ar)(p x c:Int):(A.put p x c).2.ns.length=A.ns.length:=(JO A p x c).2
theorem Xfk (hI:A.Inv)(hT:A.XB 900)(x:OpD)(hx:x.Xb.length<=20):(A.Xo x).2.Inv/\(A.Xo x).2.ns.length<=(if x.Xa=31\/x.Xa=32 then 2*A.ns.length+1 else A.ns.length+3):=by
 have ins:∀p n c:Int,(A.XX p n c).2.Inv/\(A.XX p n c).2.ns.length<=A.ns.length+3:=by intro p n c;unfold Ar.XX;by_cases hv:A.Y4 p n c=0;{rw[if_neg (λe=>e hv)];unfold Ar.Y4 at hv;by_cases hh:A.has p/\A.has n/\(c≠0->A.has c);{obtain⟨q1,q2⟩:=Xet (c:=if c=n then A.next n else c) hI hh.1 hh.2.1;exact⟨q1,by dsimp only;omega⟩};·rw[if_neg hh]at hv;exact absurd hv (by decide)};·rw[if_pos hv];exact⟨hI,by dsimp only;omega⟩
 have triv:A.Inv/\A.ns.length<=A.ns.length+3:=⟨hI,by omega⟩
 refine XcX (P:=λr=>r.2.Inv/\r.2.ns.length<=(if x.Xa=31\/x.Xa=32 then 2*A.ns.length+1 else A.ns.length+3)) ?_ ?_ ?_ ?_ ?_ ?_ ?_ ?_ ?_ ?_ ?_ ?_ ?_ ?_ ?_ ?_<;>intro e
 ·rw[if_neg (by omega)];exact ins _ _ _
 ·rw[if_neg (by omega)];exact ins _ _ _
 ·rw[if_neg (by omega)];dsimp only;unfold Ar.YU;split;{rename_i hh;split;{exact triv};·obtain⟨q1,q2⟩:=Xet (p:=x.a) (n:=x.b) (c:=if A.next x.c=x.b then A.next x.b else A.next x.c) (Ar.XC.cut hI hh.2.2) ((Ar.X5 _ _ _).2 hh.1) ((Ar.X5 _ _ _).2 hh.2.1);exact⟨q1,by rw[Ar.YY]at q2;dsimp only;omega⟩};·exact triv
 ·rw[if_neg (by omega)];dsimp only;unfold Ar.Zo;split;{rename_i hh;split;{exact triv};·exact⟨Ar.XC.cut hI hh.2,by dsimp only;rw[Ar.YY];omega⟩};·exact triv
 ·rw[if_neg (by omega)];dsimp only;unfold Ar.XR;split;{rename_i hh;exact⟨Ar.XC.cut hI hh,by dsimp only;rw[Ar.YY];omega⟩};·exact triv
 ·rw[if_neg (by omega)];dsimp only;unfold Ar.Yq;split;{rename_i hh;split;{exact triv};·split;{exact triv};·obtain⟨q1,q2,q3,q4⟩:=Xcg hI hh.1;have hl:=Xbw q2;dsimp only;split;{rename_i hn;have hhas:∀y,(A.empty x.a).has y↔A.has y:=λy=>by{unfold Ar.has;rw[q2]};obtain⟨r1,r2⟩:=Xet (p:=x.a) (n:=x.b) (c:=0) q1 ((hhas _).2 hh.1) ((hhas _).2 (hh.2 hn));exact⟨r1,by omega⟩};·exact⟨q1,by omega⟩};·exact triv
 ·rw[if_neg (by omega)];dsimp only;unfold Ar.YV;split;{rename_i hh;split;{exact triv};·rename_i hk;obtain⟨q1,q2,q3⟩:=Xbk hI hh.1 hh.2 (Classical.not_not.1 (λz=>hk (.inl z)));refine⟨q1,?_⟩;have g1:=Ar.Yv (A.YM x.a x.b) x.b;have g2:=Ar.Jk A x.b;dsimp only;omega};·exact triv
 ·rw[if_neg (by omega)];unfold Ar.Y0;split;{exact triv};·split;{exact triv};·exact⟨hI.element _ _ _ _ (by simp),Xkp _ _ _ _ _⟩
 ·rw[if_neg (by omega)];dsimp only;unfold Ar.YO;split;{exact triv};·split;{exact triv};·refine⟨hI.X0 _ _ (Nat.le_trans (XgL hT _ _ _ _) (by omega)),?_⟩;unfold Ar.X0;(repeat' split);all_goals first|(exact Nat.le_add_right _ _)|(dsimp only;rw[Xaj];omega)
 ·rw[if_neg (by omega)];dsimp only;unfold Ar.Yy;split;{exact triv};·split;{exact triv};·refine⟨hI.X0 _ _ (Nat.le_trans (List.length_eraseIdx_le _ _) (Nat.le_trans (Xc2 hT _) (by omega))),?_⟩;dsimp only;unfold Ar.X0;(repeat' split);all_goals first|(exact Nat.le_add_right _ _)|(dsimp only;rw[Xaj];omega)
 ·rw[if_pos (.inl e)];unfold Ar.Zx;split;{rename_i hh;obtain⟨d1,d2⟩:=hI.ZV x.a hh;obtain⟨q1,q2⟩:=Xhh (deep:=x.Xe) hI hI d1 d2 hh (Z3 hI x.a);have:=Z3 hI x.a;exact⟨q1,by dsimp only;omega⟩};·exact⟨hI,by dsimp only;omega⟩
 ·rw[if_pos (.inr e)];unfold Ar.Zp;split;{rename_i hh;split;{exact⟨hI,by dsimp only;omega⟩};·rename_i hk;obtain⟨q1,q2⟩:=Xhh (deep:=true) hI hI hh.1 (Classical.not_not.1 (λz=>hk (.inl z))) hh.2 (Z3 hI x.b);have:=Z3 hI x.b;exact⟨q1,by dsimp only;omega⟩};·exact⟨hI,by dsimp only;omega⟩
 ·rw[if_neg (by omega)];dsimp only;unfold Ar.YE;split;{exact triv};·rename_i hh;have hh:=Classical.not_not.1 hh;split;{exact⟨hI.XG _ _,by rw[(J7 _ _ _).2.1];omega⟩};·split;{obtain⟨q1,q2,q3,q4⟩:=Xcg hI hh;have hl:=Xbw q2;split;{exact⟨q1,by dsimp only;omega⟩};·dsimp only;refine⟨Ar.Inv.put (q1.make rfl rfl rfl rfl (JX _) (by simp[Xs]) (by simp[Xs])) _ _ _,?_⟩;rw[XhJ];have:=JM (A.empty x.a) ((A.empty x.a).get x.a).doc (Xs x.s);omega};·exact triv
 ·rw[if_neg (by omega)];obtain⟨q1,q2,-,-⟩:=Xfj hI x.a;exact⟨q1,by dsimp only;omega⟩
 ·rw[if_neg (by omega)];unfold Ar.split;split;{exact triv};·split;{exact triv};·split;{exact triv};·dsimp only;have m1:(A.make (A.get x.a).doc (Xs ⟨((A.get x.a).data.toList.drop x.b.toNat).toArray⟩)).2.Inv:=hI.make rfl rfl rfl rfl (JX _) (by simp[Xs]) (by simp[Xs]);have m2:=JM A (A.get x.a).doc (Xs ⟨((A.get x.a).data.toList.drop x.b.toNat).toArray⟩);split;{exact⟨Ar.Inv.put (m1.XG _ _) _ _ _,by rw[XhJ,(J7 _ _ _).2.1];exact m2⟩};·exact⟨m1.XG _ _,by rw[(J7 _ _ _).2.1];exact m2⟩
 ·rw[if_neg (by omega)];exact⟨hI.step x hx,XgA A x⟩
end
section
/-- While nodes of C are copied: the nodes of A0 are as they were. -/
structure Yr (A0 B : Ar) (d : Int) (X : Nat) : Prop where
  inv : B.Inv
  has : B.has d
  Xa : (B.get d).Xa = 1
  old : ∀ x, A0.has x -> B.has x /\ B.get x = A0.get x
  cap : B.cap d <= X
theorem Yr.step (hC:C.Inv){m:Nat}(hI:Yr A0 B d X){k:Int}(hk:C.has k/\(C.get k).Xa≠1/\(C.get k).Xa≠2)(hw:(C.Xi k).length<=m)(hc:¬A0.has c)(hcB:B.has c)(hck:(B.get c).Xa=1\/(B.get c).Xa=2\/(B.get c).Xa=4):Yr A0 (XP (λB k=>dupF C true m B d k) c B k) d (X+(C.Xi k).length)/\(XP (λB k=>dupF C true m B d k) c B k).has c/\((XP (λB k=>dupF C true m B d k) c B k).get c).Xa=(B.get c).Xa/\(∀x,B.Xu x≠0->(XP (λB k=>dupF C true m B d k) c B k).Xu x≠0):=by
 obtain⟨K2,S⟩:=Xbv hC (rec:=λB k=>dupF C true m B d k) (d:=d) (c:=c) [k] (B:=B) (λB' k' hk' hB hd hkd=>by simp at hk';subst hk';exact Xaw hC m hB hd hkd hk.1 hk.2.1 hw) (λk' hk'=>by simp at hk';subst hk';exact hk.2) hI.inv hI.has hI.Xa hcB (λ_=>hck)
 obtain⟨f1,f2⟩:=Xat (C:=C) (rec:=λB k=>dupF C true m B d k) (d:=d) (c:=c) [k] (A:=B) (λB' k' hk' hB hd hkd=>by simp at hk';subst hk';exact Jf hC m true hB hd hkd hk.1 hk.2.1 hw) hI.inv hI.has hI.Xa
 have e: [k].foldl (XP (λB k=>dupF C true m B d k) c) B=XP (λB k=>dupF C true m B d k) c B k:=rfl
 rw[e]at S f1 f2
 refine⟨⟨f1.inv,f1.has d hI.has,(f1.Xa d hI.has).trans hI.Xa,λx hx=>?_,?_⟩,f1.has c hcB,f1.Xa c hcB,f1.Xh⟩
 ·obtain⟨h1,h2⟩:=hI.old x hx;obtain⟨s1,s2⟩:=S.old x h1;have hne:x≠c:=λe=>hc (by rw[<-e];exact hx);rw[if_neg hne]at s2;exact⟨s1,s2.trans h2⟩
 ·have:=hI.cap;simp at f2;omega
theorem Yr.fold (hC:C.Inv){m:Nat}(hI:Yr A0 B d X)(hc:¬A0.has c)(hcB:B.has c)(ks:List Int)(hck:ks≠ []->(B.get c).Xa=1\/(B.get c).Xa=2\/(B.get c).Xa=4)(hk:∀k∈ks,C.has k/\(C.get k).Xa≠1/\(C.get k).Xa≠2/\(C.Xi k).length<=m):∀i,i<=ks.length->Yr A0 ((ks.take i).foldl (XP (λB k=>dupF C true m B d k) c) B) d (X+((ks.take i).flatMap C.Xi).length)/\((ks.take i).foldl (XP (λB k=>dupF C true m B d k) c) B).has c/\(((ks.take i).foldl (XP (λB k=>dupF C true m B d k) c) B).get c).Xa=(B.get c).Xa/\(∀x,B.Xu x≠0->((ks.take i).foldl (XP (λB k=>dupF C true m B d k) c) B).Xu x≠0)
 |0,_=>⟨by simpa using hI,hcB,rfl,λ_ h=>h⟩
 |i+1,hi=>by{obtain⟨k,hx⟩:∃k,ks[i]?=some k:=⟨_,List.getElem?_eq_getElem (by omega)⟩;have hkm:=List.mem_of_getElem? hx;have hne:ks≠ []:=λe=>by{rw[e]at hkm;simp at hkm};obtain⟨p1,p2,p3,p4⟩:=Yr.fold hC hI hc hcB ks hck hk i (by omega);obtain⟨q1,q2,q3,q4⟩:=hk k hkm;obtain⟨r1,r2,r3,r4⟩:=p1.step hC ⟨q1,q2,q3⟩ q4 hc p2 (by rw[p3];exact hck hne);rw[List.take_add_one,hx];simp only[Option.toList_some,List.foldl_append,List.foldl_cons,List.foldl_nil,List.flatMap_append,List.flatMap_cons,List.flatMap_nil,List.append_nil,List.length_append];refine⟨?_,r2,r3.trans p3,λx hx=>r4 x (p4 x hx)⟩;rw[<-Nat.add_assoc];exact r1}
theorem Xch {ks:List Int}{i:Nat}{k:Int}(hx:ks[i]?=some k):((ks.take i).flatMap C.Xi).length+(C.Xi k).length<=(ks.flatMap C.Xi).length:=by
 have:ks.take (i+1)=ks.take i++ [k]:=by rw[List.take_add_one,hx];rfl
 conv=>rhs;rw[<-List.take_append_drop (i+1) ks,List.flatMap_append,this,List.flatMap_append]
 simp<;>omega
theorem ZO (hC:C.Inv)(hh:C.has h):((C.get h).Xc.flatMap C.Xi).length+1<=(C.Xi h).length:=by
 rw[Ym hC hh]
 simp<;>omega
theorem ZF (hC:C.Inv){m:Nat}(hh:C.has h)(hw:(C.Xi h).length<=m+1):∀k∈(C.get h).Xc,C.has k/\(C.get k).Xa≠1/\(C.get k).Xa≠2/\(C.Xi k).length<=m:=λk hk=>by{obtain⟨q1,q2,q3⟩:=XF hC hh hk;have h1:=hC.par k q1 (by rw[q3];have:=hh.1;omega);obtain⟨i,hi⟩:=List.getElem?_of_mem hk;have h2:=Xch (C:=C) hi;have h3:=ZO hC hh;exact⟨q1,h1.1,h1.2,by omega⟩}
theorem Yr.Xj (hA:A.Inv)(hC:C.Inv)(hd:A.has d)(hk:(A.get d).Xa=1)(hh:C.has h)(h1:(C.get h).Xa≠1):Yr A (A.Xj d (C.get h)).2 d (A.cap d+(if(C.get h).Xg≠0 then 2 else 1))/\(A.Xj d (C.get h)).1=A.n+1/\(A.Xj d (C.get h)).2.has (A.n+1)/\((A.Xj d (C.get h)).2.get (A.n+1)).Xa=(C.get h).Xa:=by
 obtain⟨a1,a2,a3⟩:=Xbs hA hC hd hk hh h1
 obtain⟨n1,n2,n3⟩:=Xbu hA hC hd hk hh h1
 refine⟨⟨a1.inv,a1.has d hd,(a1.Xa d hd).trans hk,n2.old,?_⟩,n1,n2.has,n2.Xcc.1.symm⟩
 have:XN (C.get h)↔(C.get h).Xg≠0:=⟨λq=>by have:=(hC.cont h hh (by have:=hh.1;omega) q).1.1;omega,λq=>Classical.byContradiction λt=>q (hC.YG h hh (.inr t))⟩
 by_cases q:(C.get h).Xg=0
 ·rw[if_neg (λe=>e q)];rw[if_neg (λe=>this.1 e q)]at a2;exact a2
 ·rw[if_pos q];rw[if_pos (this.2 q)]at a2;exact a2
theorem Yr.Xn (hA:A.Inv)(q:Bool):Yr A (A.Xn q) (A.n+1) (A.ns.length+2)/\(A.Xn q).has (A.n+1)/\((A.Xn q).get (A.n+1)).Xa=1:=by
 have hnew:(A.Xn q).has (A.n+1):=(Ar.XO _ _ _).2 (.inr rfl)
 have hk:((A.Xn q).get (A.n+1)).Xa=1:=by unfold Ar.Xn;rw[Ar.YS]
 refine⟨⟨Ar.XC.Xn hA q,hnew,hk,λx hx=>⟨(Ar.XO _ _ _).2 (.inl hx),Ar.Zb _ hx⟩,?_⟩,hnew,hk⟩
 have:=Ar.Jk (A.Xn q) (A.n+1)
 have h2:(A.Xn q).ns.length=A.ns.length+1:=by simp[Ar.Xn,Ar.add]
 omega
theorem JH :¬A.has (A.n+1):=Ar.Xba A
end
section
/-- The Xh documents that A knows stay. -/
def Ar.KI (A B : Ar) : Prop := ∀ x, A.Xu x ≠ 0 -> B.Xu x = A.Xu x
theorem Ar.KI.refl (A:Ar):A.KI A:=λ_ _=>rfl
theorem Ar.KI.trans (h:A.KI B)(k:B.KI C):A.KI C:=λx hx=>(k x (by rw[h x hx];exact hx)).trans (h x hx)
theorem XhK (h:B.Xh=A.Xh):A.KI B:=λx _=>by{unfold Ar.Xu;rw[h]}
theorem Xl7 (A:Ar)(p x c:Int):A.KI (A.put p x c).2:=XhK (JO A p x c).1
theorem Xci (hl:A.Xh.length=A.ns.length+1)(n:Nd):A.KI (A.add n):=λx _=>Ar.JA hl n x
theorem Xl8 (A:Ar)(x:Int)(f:Nd->Nd):A.KI (A.mod x f):=XhK (Xkr A x f)
theorem Xl9 (hl:A.Xh.length=A.ns.length+1)(hd:A.has d):A.KI (A.Xq d).2:=λy hy=>by{unfold Ar.Xq;split;{rfl};·rename_i q;have q:=Classical.not_not.1 q;have hlen:(A.Xn false).Xh.length=A.ns.length+2:=by{simp[Ar.Xn,Ar.add,hl]};have hd1:=hd.1;have hd2:=hd.2;unfold Ar.n at hd2;have e:({A.Xn false with Xh:=((A.Xn false).Xh.set d.toNat (A.n+1)).set (A.n+1).toNat (A.n+1)}:Ar).Xu y=if y.toNat=(A.n+1).toNat then A.n+1 else if y.toNat=d.toNat then A.n+1 else(A.Xn false).Xu y:=Xcv (by omega) (by unfold Ar.n;omega);show({A.Xn false with Xh:=((A.Xn false).Xh.set d.toNat (A.n+1)).set (A.n+1).toNat (A.n+1)}:Ar).Xu y=_;rw[e];have h1:y.toNat≠(A.n+1).toNat:=λz=>by{apply hy;unfold Ar.Xu;rw[z,List.getElem?_eq_none (by unfold Ar.n;omega)];rfl};have h2:y.toNat≠d.toNat:=λz=>by{apply hy;unfold Ar.Xu at q⊢;rw[z];exact q};rw[if_neg h1,if_neg h2,Ar.Xn,Ar.JA hl]}
theorem Xma (hA:A.Inv)(q:Bool):A.KI (A.Xn q):=Xci hA.wf.Xh _
theorem Xdo (hA:A.Inv)(d:Int)(n:Nd):A.KI (A.make d n).2:=by
 unfold Ar.make
 split
 ·exact Ar.KI.refl A
 ·exact Xci hA.wf.Xh _
theorem Xmb (hA:A.Inv){s:Int}{name:ByteArray}{l:List Xm}(hl:l.length<=1000):A.KI (A.element d s name l).2:=by
 unfold Ar.element
 split
 ·exact Ar.KI.refl A
 ·rename_i he;split;{exact Ar.KI.refl A};·rename_i hs;have hd:A.has d/\(A.get d).Xa=1:=by{unfold Ar.XA at he;by_cases q:A.has d;{rw[if_neg (λz=>z q)]at he;by_cases q2:(A.get d).Xa=1;{exact⟨q,q2⟩};·rw[if_pos q2]at he;exact absurd (by decide) he};·rw[if_pos q]at he;exact absurd (by decide) he};have hs:=Classical.not_not.1 hs;dsimp only;split;{rename_i ht;have hI1:(A.add (XJ d s name l)).XC (A.n+1):=Ar.XC.added hA rfl rfl rfl rfl (XbL hs.1 hs.2 hl) (.inl ⟨hd.1,hd.2,by simp[XJ]⟩) (.inr ⟨rfl,rfl⟩);have hd1:(A.add (XJ d s name l)).has d:=(Ar.XO _ _ _).2 (.inl hd.1);have k1:A.KI (A.add (XJ d s name l)):=Xci hA.wf.Xh _;have k2:=Xl9 (d:=d) hI1.wf.Xh hd1;have k3:=Xci (hI1.Xq hd1).wf.Xh (Y7 (A.n+1) ((A.add (XJ d s name l)).Xq d).1);exact((k1.trans k2).trans k3).trans (Xl8 _ _ _)};·exact Xci hA.wf.Xh _
theorem Xmc (hA:A.Inv)(hC:C.Inv)(hh:C.has h):A.KI (A.Xj d (C.get h)).2:=by
 have h3:=(hC.loc h hh).at3
 unfold Ar.Xj
 split
 ·exact Xma hA _
 ·split;{exact Xdo hA _ _};·split;{exact Xdo hA _ _};·split;{exact Xmb hA h3};·split;{exact Xdo hA _ _};·split;{exact Xdo hA _ _};·exact Ar.KI.refl A
theorem Xdp {rec:Ar->Int->Int×Ar}{d c:Int}:∀(l:List Int){A:Ar},(∀(B:Ar)k,k∈l->B.Inv->B.has d->(B.get d).Xa=1->B.YF (rec B k).2/\B.KI (rec B k).2)->A.Inv->A.has d->(A.get d).Xa=1->A.KI (l.foldl (XP rec c) A)
 | [],A,_,_,_,_=>Ar.KI.refl A
 |k::l,A,hrec,hA,hd,hk=>by{obtain⟨m1,c1⟩:=hrec A k (by simp) hA hd hk;have m3:A.YF (XP rec c A k):=m1.trans (XeH m1.inv c (rec A k).1 0);have c3:A.KI (XP rec c A k):=c1.trans (Xl7 _ _ _ _);exact c3.trans (Xdp l (A:=XP rec c A k) (λB k' hk'=>hrec B k' (by simp[hk'])) m3.inv (m3.has d hd) ((m3.Xa d hd).trans hk))}
theorem Xfl {C:Ar}(hC:C.Inv):∀(m:Nat)(deep:Bool){A:Ar}{d h:Int},A.Inv->A.has d->(A.get d).Xa=1->C.has h->(C.get h).Xa≠1->(C.Xi h).length<=m->A.KI (dupF C deep m A d h).2
 |0,deep,A,d,h,hA,hd,hk,hh,h1,hw=>by{have:=YL hC hh;omega}
 |m+1,deep,A,d,h,hA,hd,hk,hh,h1,hw=>by{rw[Y8,if_neg h1];obtain⟨a1,a2,a3⟩:=Xbs hA hC hd hk hh h1;have ka:=Xmc (d:=d) hA hC hh;have hkk:=ZF hC hh hw;generalize A.Xj d (C.get h)=r at a1 a2 a3 ka⊢;have hdr:=a1.has d hd;have hkr:=(a1.Xa d hd).trans hk;have hmid:r.2.YF (XH C deep m r d h)/\r.2.KI (XH C deep m r d h):=by{by_cases hc:(C.get h).Xa=4/\deep=true/\(C.get h).Xg≠0;{have ht:XN (C.get h):=Classical.byContradiction λq=>hc.2.2 (hC.YG h hh (.inr q));obtain⟨c1,c2,c3⟩:=hC.cont h hh (by have:=hh.1;omega) ht;have hia:=a3 ht;have hic:=Xb8 (J6 hdr hkr) hia;have e:XH C deep m r d h=(C.get (C.get h).Xg).Xc.foldl (XP (λB k=>dupF C true m B (r.2.Xu d) k) (r.2.get r.1).Xg) r.2:=by{unfold XH;rw[if_pos hc,hic]};obtain⟨i1,i2,i3,i4⟩:=a1.inv.Xh d hia;have hwc:=XcR hC hh hc.2.2;have hkc:=ZF (m:=m) hC c1 (by omega);rw[e];exact⟨(Xat (C:=C) (d:=r.2.Xu d) _ (λB k hkk hB hBd hBk=>Jf hC m true hB hBd hBk (hkc k hkk).1 (hkc k hkk).2.1 (hkc k hkk).2.2.2) a1.inv i2 i3).1,Xdp (d:=r.2.Xu d) _ (λB k hkk hB hBd hBk=>⟨(Jf hC m true hB hBd hBk (hkc k hkk).1 (hkc k hkk).2.1 (hkc k hkk).2.2.2).1,Xfl hC m true hB hBd hBk (hkc k hkk).1 (hkc k hkk).2.1 (hkc k hkk).2.2.2⟩) a1.inv i2 i3⟩};·have e:XH C deep m r d h=r.2:=by{unfold XH;rw[if_neg hc]};rw[e];exact⟨Ar.YF.refl a1.inv,Ar.KI.refl _⟩};obtain⟨m1,m2⟩:=hmid;by_cases hdp:deep=true;{rw[if_pos hdp];exact(ka.trans m2).trans (Xdp (d:=d) _ (λB k hkk' hB hBd hBk=>⟨(Jf hC m true hB hBd hBk (hkk k hkk').1 (hkk k hkk').2.1 (hkk k hkk').2.2.2).1,Xfl hC m true hB hBd hBk (hkk k hkk').1 (hkk k hkk').2.1 (hkk k hkk').2.2.2⟩) m1.inv (m1.has d hdr) ((m1.Xa d hdr).trans hkr))};·rw[if_neg hdp];exact ka.trans m2}
theorem Xmd (hC:C.Inv){m:Nat}(hB:B.Inv)(hd:B.has d)(hk:(B.get d).Xa=1)(ks:List Int)(hks:∀k∈ks,C.has k/\(C.get k).Xa≠1/\(C.get k).Xa≠2/\(C.Xi k).length<=m)(i:Nat):B.KI ((ks.take i).foldl (XP (λB k=>dupF C true m B d k) c) B):=Xdp (d:=d) _ (λB k hk' hB hBd hBk=>(let h:=hks k (List.mem_of_mem_take hk');⟨(Jf hC m true hB hBd hBk h.1 h.2.1 h.2.2.2).1,Xfl hC m true hB hBd hBk h.1 h.2.1 h.2.2.2⟩)) hB hd hk
end
end Go.Proofs.YtpicinjcmjaogaaGreat
