import Derived.Test.YtpicinjcmjaogaaGreatDoorW10
set_option maxRecDepth 100000
set_option maxHeartbeats 4000000
set_option linter.unusedVariables false
namespace Go.Proofs.YtpicinjcmjaogaaGreatDoor
section
/-- The bytes of a text. -/
def tx (n : Nd) : Nat := if n.Xa = 5 then n.data.size else 0
def Ar.Xk (A : Ar) : Nat := (A.ns.map tx).sum
/-- What joining would add: all texts of a row but the first that is not empty. -/
def gainL (A : Ar) : Bool → List Int → Nat
  | _, [] => 0
  | b, k :: l => if (A.get k).Xa ≠ 5 then gainL A false l else if b = true then (A.get k).data.size + gainL A true l else gainL A (decide ((A.get k).data.size ≠ 0)) l
def Ar.hs (A : Ar) : List Int := (List.range A.ns.length).map (fun i : Nat => (i : Int) + 1)
def Ar.X9 (A : Ar) : Nat := (A.hs.map (fun x => gainL A false (A.get x).Xc)).sum
theorem ZW {A:Ar}{x:Int}:x∈A.hs↔A.has x:=by
 unfold Ar.hs Ar.has Ar.n
 rw[List.mem_map]
 constructor
 ·rintro⟨i,hi,rfl⟩;have:=List.mem_range.1 hi;omega
 ·rintro⟨h1,h2⟩;exact⟨x.toNat-1,List.mem_range.2 (by omega),by omega⟩
theorem Xdf (A:Ar):A.hs.Nodup:=by
 unfold Ar.hs
 rw[List.nodup_iff_pairwise_ne,List.pairwise_map]
 refine List.Pairwise.imp ?_ List.nodup_range
 intro a b hab e
 omega
theorem Xl5 {α:Type}(A:Ar)(f:Nd→α):A.ns.map f=A.hs.map (fun x=>f (A.get x)):=by
 unfold Ar.hs
 apply List.ext_getElem?
 intro i
 simp only[List.getElem?_map]
 by_cases hi:i<A.ns.length
 ·rw[List.getElem?_range hi];have e:A.get ((i:Int)+1)=A.ns[i]:=by{unfold Ar.get;have:((i:Int)+1).toNat-1=i:=by{omega};rw[this,List.getElem?_eq_getElem hi];rfl};simp only[Option.map_some,e,List.getElem?_eq_getElem hi]
 ·rw[List.getElem?_eq_none (by omega),List.getElem?_eq_none (by simp;omega)];rfl
theorem Xce (A:Ar):A.Xk=(A.hs.map (fun x=>tx (A.get x))).sum:=by
 unfold Ar.Xk
 rw[Xl5]
theorem Xax {f:Int→Nat}:∀{l H:List Int},l.Nodup→(∀x∈l,x∈H)→(l.map f).sum≤(H.map f).sum
 | [],H,_,_=>by{simp}
 |x::l,H,hn,hs=>by{obtain⟨h1,h2⟩:=List.nodup_cons.1 hn;have hp:=(List.perm_cons_erase (hs x (by simp))).map f;have e:=hp.sum_nat;have:=Xax (f:=f) (l:=l) (H:=H.erase x) h2 (fun y hy=>(List.mem_erase_of_ne (by rintro rfl;exact h1 hy)).2 (hs y (by simp[hy])));rw[e];simp only[List.map_cons,List.sum_cons];omega}
theorem Xfa {f g:Int→Nat}:∀{l:List Int},(∀x∈l,f x≤g x)→(l.map f).sum≤(l.map g).sum
 | [],_=>by{simp}
 |x::l,h=>by{have h1:=h x (by simp);have h2:=Xfa (f:=f) (g:=g) (l:=l) (fun y hy=>h y (by simp[hy]));simp only[List.map_cons,List.sum_cons];omega}
theorem Xdg {f:Int→Nat}{g:Int→List Int}:∀{l:List Int},((l.flatMap g).map f).sum=(l.map (fun x=>((g x).map f).sum)).sum
 | []=>rfl
 |x::l=>by{simp only[List.flatMap_cons,List.map_append,List.sum_append,List.map_cons,List.sum_cons,Xdg (f:=f) (g:=g) (l:=l)]}
theorem Xl6 {f g:Int→Nat}{H:List Int}{h:Int}(hh:h∈H)(hn:H.Nodup)(he:∀x∈H,x≠h→g x=f x):(H.map g).sum+f h=(H.map f).sum+g h:=by
 have hp:=List.perm_cons_erase hh
 have e1:=(hp.map f).sum_nat
 have e2:=(hp.map g).sum_nat
 have e3:(H.erase h).map g=(H.erase h).map f:=List.map_congr_left (fun x hx=>by obtain⟨q1,q2⟩:=(List.Nodup.mem_erase_iff hn).1 hx;exact he x q2 q1)
 rw[e1,e2]
 simp only[List.map_cons,List.sum_cons,e3]
 omega
theorem Xa1 {A B:Ar}:∀{l:List Int}(b:Bool),(∀k∈l,(B.get k).Xa=(A.get k).Xa∧(B.get k).data=(A.get k).data)→gainL B b l=gainL A b l
 | [],_,_=>rfl
 |k::l,b,h=>by{obtain⟨h1,h2⟩:=h k (by simp);have h':∀k'∈l,(B.get k').Xa=(A.get k').Xa∧(B.get k').data=(A.get k').data:=fun k' hk=>h k' (by simp[hk]);unfold gainL;rw[h1,h2,Xa1 false h',Xa1 true h',Xa1 _ h']}
theorem Xdh (A:Ar):∀(l:List Int)(b:Bool),gainL A b l≤(l.map (fun k=>tx (A.get k))).sum
 | [],_=>by{simp[gainL]}
 |k::l,b=>by{have h1:=Xdh A l false;have h2:=Xdh A l true;have h3:=Xdh A l (decide ((A.get k).data.size≠0));unfold gainL;simp only[List.map_cons,List.sum_cons];split;·{omega};·rename_i q;have q:=Classical.not_not.1 q;have e:tx (A.get k)=(A.get k).data.size:=by{unfold tx;rw[if_pos q]};split<;>omega}
theorem Xhz {A:Ar}(hI:A.Inv):(A.hs.flatMap (fun x=>(A.get x).Xc)).Nodup:=by
 refine XgF (Xdf A) (fun x hx=>hI.wf.nodup x (ZW.1 hx)) ?_
 intro j hj k hk x h1 h2
 rw[←(XF hI (ZW.1 hj) h1).2.2,(XF hI (ZW.1 hk) h2).2.2]
theorem XhA {A:Ar}(hI:A.Inv):A.X9≤A.Xk:=by
 rw[Xce]
 refine Nat.le_trans (Xfa (fun x hx=>Xdh A (A.get x).Xc false)) ?_
 rw[←Xdg (f:=fun k=>tx (A.get k)) (g:=fun x=>(A.get x).Xc)]
 refine Xax (Xhz hI) (fun x hx=>?_)
 obtain⟨y,hy,hx⟩:=List.mem_flatMap.1 hx
 exact ZW.2 (XF hI (ZW.1 hy) hx).1
theorem Xdi (A:Ar)(n:Nd):(A.add n).Xk=A.Xk+tx n:=by
 simp[Ar.Xk,Ar.add]
theorem XhB {f:Nd→Nd}{c:Nat}(hf:∀n,tx (f n)≤tx n+c):∀(l:List Nd)(i:Nat),((l.modify i f).map tx).sum≤(l.map tx).sum+c
 | [],i=>by{simp}
 |n::l,0=>by{have:=hf n;simp;omega}
 |n::l,i+1=>by{have:=XhB hf l i;simp;omega}
theorem XhC (A:Ar)(x:Int){f:Nd→Nd}(c:Nat)(hf:∀n,tx (f n)≤tx n+c):(A.mod x f).Xk≤A.Xk+c:=XhB hf _ _
theorem Xay (A:Ar)(x:Int){f:Nd→Nd}(hf:∀n,tx (f n)=tx n):(A.mod x f).Xk≤A.Xk:=XhC A x 0 (fun n=>Nat.le_of_eq (hf n))
theorem J9 (A:Ar)(x:Int):(A.cut x).Xk≤A.Xk:=by
 unfold Ar.cut
 split
 ·exact Nat.le_refl _
 ·exact Nat.le_trans (Xay _ _ (fun _=>rfl)) (Xay _ _ (fun _=>rfl))
theorem Xcf (A:Ar)(p x c:Int):(A.put p x c).2.Xk≤A.Xk:=by
 unfold Ar.put
 split
 ·exact Nat.le_refl _
 ·exact Nat.le_trans (Xay _ _ (fun _=>rfl)) (Nat.le_trans (Xay _ _ (fun _=>rfl)) (J9 A x))
theorem Xfb (A:Ar)(q:Bool):(A.Xn q).Xk≤A.Xk:=by
 rw[Ar.Xn,Xdi]
 exact Nat.le_refl _
theorem Xfc (A:Ar)(d:Int):(A.Xq d).2.Xk≤A.Xk:=by
 unfold Ar.Xq
 split
 ·exact Nat.le_refl _
 ·exact Xfb A false
theorem XhD (A:Ar)(d:Int):(A.YA d).2.Xk≤A.Xk:=by
 unfold Ar.YA
 split
 ·exact Nat.le_refl _
 ·exact Xfc A d
theorem Xaa (A:Ar)(d:Int)(n:Nd):(A.make d n).2.Xk≤A.Xk+tx n:=by
 unfold Ar.make
 split
 ·exact Nat.le_add_right _ _
 ·rw[Xdi];exact Nat.le_refl _
theorem Xfd (A:Ar)(d s:Int)(name:ByteArray)(l:List Xm):(A.element d s name l).2.Xk≤A.Xk:=by
 have h1:(A.add (XJ d s name l)).Xk≤A.Xk:=by rw[Xdi];exact Nat.le_refl _
 by_cases he:A.XA d=0
 ·by_cases hs:XS s∧Ys l;·{by_cases ht:XN (XJ d s name l);·{rw[XaN he hs ht];refine Nat.le_trans (Xay _ _ (fun _=>rfl)) ?_;rw[Xdi];exact Nat.le_trans (Xfc _ d) h1};·rw[XaM he hs ht];exact h1};·rw[XaL he hs];exact Nat.le_refl _
 ·have:A.element d s name l=((0,A.XA d),A):=by{simp[Ar.element,he]};rw[this];exact Nat.le_refl _
theorem XhE (A:Ar)(x:Int)(s:ByteArray):(A.XG x s).2.Xk≤A.Xk+s.size:=by
 unfold Ar.XG
 split
 ·exact Nat.le_add_right _ _
 ·split;·{exact Nat.le_add_right _ _};·refine XhC A x s.size (fun n=>?_);unfold tx;dsimp only;split<;>omega
theorem XhF {f:Nd→Nd}:∀(l:List Nd)(i:Nat)(n:Nd),l[i]?=some n→((l.modify i f).map tx).sum+tx n=(l.map tx).sum+tx (f n)
 | [],i,n,h=>by{simp at h}
 |m::l,0,n,h=>by{simp at h;subst h;simp;omega}
 |m::l,i+1,n,h=>by{have:=XhF (f:=f) l i n (by simpa using h);simp;omega}
theorem Xfe {A:Ar}{x:Int}(s:ByteArray)(hx:A.has x)(hk:(A.get x).Xa=5):(A.XG x s).2.Xk+(A.get x).data.size=A.Xk+s.size:=by
 unfold Ar.XG
 rw[if_neg (fun e=>e hx),if_neg (fun e=>e (.inl hk))]
 have h1:A.ns[x.toNat-1]?=some (A.get x):=by obtain⟨hi,e⟩:=Ar.Xcq hx;rw[e];exact List.getElem?_eq_getElem hi
 have:=XhF (f:=fun n=>{n with data:=s}) A.ns (x.toNat-1) _ h1
 have e1:tx (A.get x)=(A.get x).data.size:=by unfold tx;rw[if_pos hk]
 have e2:tx {(A.get x)with data:=s}=s.size:=by unfold tx;rw[if_pos hk]
 rw[e1,e2]at this
 exact this
theorem XhG (A:Ar)(x:Int)(q:Bool):(A.YQ x q).2.Xk≤A.Xk:=by
 unfold Ar.YQ
 repeat' split
 all_goals first|(exact Nat.le_refl _)|exact Xay _ _ (fun _=>rfl)
theorem Xdj (A:Ar)(x d:Int):(A.Xt x d).2.Xk≤A.Xk:=by
 unfold Ar.Xt
 repeat' split
 all_goals first|(exact Nat.le_refl _)|exact Xay _ _ (fun _=>rfl)
theorem Xdk (A:Ar)(x:Int)(l:List Xm):(A.X0 x l).2.Xk≤A.Xk:=by
 unfold Ar.X0
 repeat' split
 all_goals first|(exact Nat.le_refl _)|exact Xay _ _ (fun _=>rfl)
theorem Xff :∀(n:Nat)(A:Ar)(h d:Int),(adoptF n A h d).Xk≤A.Xk
 |0,A,h,d=>J9 A h
 |n+1,A,h,d=>by{unfold adoptF;split;·{exact J9 A h};·refine Ze (P:=fun B:Ar=>B.Xk≤A.Xk) (J9 A h) ?_;intro B x hx hB;unfold Yf;split;·{exact Nat.le_trans (Xdj B x d) hB};·exact Nat.le_trans (Xff n _ _ _) (Nat.le_trans (Xfc _ d) (Nat.le_trans (Xdj B x d) hB))}
theorem Xfg (A:Ar)(p n c:Int):(A.YD p n c).Xk≤A.Xk:=Ze (P:=fun B:Ar=>B.Xk≤A.Xk) (Nat.le_refl _) (fun B x hx hB=>Nat.le_trans (Xcf _ _ _ _) (Nat.le_trans (Xff _ B _ _) hB))
theorem Xdl (A:Ar)(p:Int):(A.empty p).Xk≤A.Xk:=Ze (P:=fun B:Ar=>B.Xk≤A.Xk) (Nat.le_refl _) (fun B x hx hB=>Nat.le_trans (J9 B x) hB)
theorem Xfh {s:ByteArray}:s.size=0↔s=ByteArray.empty:=⟨fun h=>ByteArray.ext (Array.eq_empty_of_size_eq_zero h),fun h=>by rw[h];rfl⟩
theorem Xdm {h:Int}:∀(l:List Int)(s:X8)(dn:List Int),s.ar.Inv→s.ar.has h→(s.ar.get h).Xc=dn++l→(s.first≠0→s.first∈dn∧(s.ar.get s.first).Xa=5)→(s.first=0→s.data=ByteArray.empty)→(l.foldl X8.step s).flush.ar.Xk+(if s.first≠0 then(s.ar.get s.first).data.size else 0)≤s.ar.Xk+s.data.size+gainL s.ar (decide (s.first≠0)) l
 | [],s,dn,hI,hh,hk,hf,h0=>by{show s.flush.ar.Xk+_≤_;unfold X8.flush;dsimp only;by_cases q:s.first=0;·{rw[if_neg (fun e=>e q),if_neg (fun e=>e q)];omega};·rw[if_pos q,if_pos q];have:=Xfe s.data (XF hI hh (by rw[hk];simp[(hf q).1])).1 (hf q).2;omega}
 |k::l,s,dn,hI,hh,hk,hf,h0=>by{have hnd:=hI.wf.nodup h hh;rw[hk]at hnd;obtain⟨n1,n2,n3⟩:=List.nodup_append.1 hnd;obtain⟨n4,n5⟩:=List.nodup_cons.1 n2;have hkd:k∉dn:=fun q=>n3 k q k (by simp) rfl;obtain⟨hk1,hk2,hk3⟩:=XF hI hh (k:=k) (by rw[hk];simp);have hf':s.first≠0→s.ar.has s.first∧(s.ar.get s.first).Xa=5:=fun q=>⟨(XF hI hh (by rw[hk];simp[(hf q).1])).1,(hf q).2⟩;have hfl:s.first≠0→s.first≠k∧s.first∉l:=fun q=>⟨fun e=>hkd (e▸(hf q).1),fun e=>n3 _ (hf q).1 _ (by simp[e]) rfl⟩;have hlh:∀x∈l,s.ar.has x:=fun x hx=>(XF hI hh (by rw[hk];simp[hx])).1;rw[List.foldl_cons];by_cases q5:(s.ar.get k).Xa=5;·{by_cases q0:s.first=0∧(s.ar.get k).data≠ByteArray.empty;·{have e:s.step k=⟨s.ar,k,(s.ar.get k).data⟩:=by{unfold X8.step;rw[if_neg (fun e=>e q5),if_pos q0]};rw[e];have hk0:k≠0:=by{have:=hk1.1;omega};have hsz:(s.ar.get k).data.size≠0:=fun z=>q0.2 (Xfh.1 z);have ih:=Xdm (h:=h) l ⟨s.ar,k,(s.ar.get k).data⟩ (dn++ [k]) hI hh (by rw[hk];simp) (fun _=>⟨by simp,q5⟩) (fun z=>absurd z hk0);dsimp only at ih;rw[if_pos hk0,decide_eq_true hk0]at ih;rw[if_neg (fun z=>z q0.1),h0 q0.1];have eg:gainL s.ar (decide (s.first≠0)) (k::l)=gainL s.ar true l:=by{rw[decide_eq_false (fun z=>z q0.1)];(conv=>lhs;unfold gainL);rw[if_neg (fun e=>e q5),if_neg (by simp),decide_eq_true hsz]};rw[eg];have:ByteArray.empty.size=0:=rfl;omega};·have e:s.step k=⟨s.ar.cut k,s.first,s.data++(s.ar.get k).data⟩:=by{unfold X8.step;rw[if_neg (fun e=>e q5),if_neg q0]};rw[e];have hcg:∀x,s.ar.has x→(s.ar.cut k).get x=(s.ar.get x).re (if x=h then XQ (s.ar.get x).Xc k else(s.ar.get x).Xc) (if x=k then 0 else(s.ar.get x).Xd):=fun x hx=>by{rw[Ar.Zc hI hk1 hx,hk3]};have hkc:∀x,s.ar.has x→((s.ar.cut k).get x).Xa=(s.ar.get x).Xa∧((s.ar.cut k).get x).data=(s.ar.get x).data:=fun x hx=>by{rw[hcg x hx];exact⟨rfl,rfl⟩};have hkids:((s.ar.cut k).get h).Xc=dn++l:=by{rw[hcg h hh,if_pos rfl];show XQ (s.ar.get h).Xc k=_;rw[hk];unfold XQ;rw[List.filter_append,List.filter_cons];simp only[ne_eq,not_true_eq_false,decide_false,Bool.false_eq_true,if_false];rw[List.filter_eq_self.2 (fun y hy=>by simp;rintro rfl;exact hkd hy),List.filter_eq_self.2 (fun y hy=>by simp;rintro rfl;exact n4 hy)]};have hd0:s.first=0→s.data++(s.ar.get k).data=ByteArray.empty:=fun z=>by{have:(s.ar.get k).data=ByteArray.empty:=Classical.byContradiction fun y=>q0 ⟨z,y⟩;rw[h0 z,this];rfl};have ih:=Xdm (h:=h) l ⟨s.ar.cut k,s.first,s.data++(s.ar.get k).data⟩ dn (Ar.XC.cut hI hk1) ((Ar.X5 _ _ _).2 hh) hkids (fun z=>⟨(hf z).1,by rw[(hkc _ (hf' z).1).1];exact(hf' z).2⟩) hd0;dsimp only at ih;have hm:=J9 s.ar k;rw[Xa1 _ (fun y hy=>hkc y (hlh y hy)),ByteArray.size_append]at ih;by_cases z:s.first=0;·{have hz:(s.ar.get k).data=ByteArray.empty:=Classical.byContradiction fun y=>q0 ⟨z,y⟩;have hz2:(s.ar.get k).data.size=0:=Xfh.2 hz;rw[if_neg (fun e=>e z),decide_eq_false (fun e=>e z)]at ih;rw[if_neg (fun e=>e z),decide_eq_false (fun e=>e z)];have eg:gainL s.ar false (k::l)=gainL s.ar false l:=by{(conv=>lhs;unfold gainL);rw[if_neg (fun e=>e q5),if_neg (by simp),decide_eq_false (fun e=>e hz2)]};rw[eg];omega};·rw[if_pos z,decide_eq_true z,(hkc _ (hf' z).1).2]at ih;rw[if_pos z,decide_eq_true z];have eg:gainL s.ar true (k::l)=(s.ar.get k).data.size+gainL s.ar true l:=by{(conv=>lhs;unfold gainL);rw[if_neg (fun e=>e q5),if_pos rfl]};rw[eg];omega};·have e:s.step k=s.flush:=by{unfold X8.step;rw[if_pos q5]};rw[e];have hkc:∀x,s.ar.has x→(s.flush.ar.get x).Xa=(s.ar.get x).Xa∧(s.flush.ar.get x).Xc=(s.ar.get x).Xc∧(s.flush.ar.get x).Xd=(s.ar.get x).Xd:=fun x hx=>by{rw[Xau hf' hx];exact⟨rfl,rfl,rfl⟩};have hfh:∀x,s.flush.ar.has x↔s.ar.has x:=fun x=>by{unfold Ar.has;rw[(XaX s).1]};have hnl:∀x∈l,((if s.first≠0 then [(s.first,s.data)]else []).lookup x)=none:=fun x hx=>by{refine Jy (fun p hp=>?_);by_cases z:s.first=0;·{simp[z]at hp};·simp[z]at hp;subst hp;exact fun e=>(hfl z).2 (by have e':s.first=x:=e;rw[e'];exact hx)};have hkd2:∀x∈l,(s.flush.ar.get x).data=(s.ar.get x).data:=fun x hx=>by{rw[Xau hf' (hlh x hx),hnl x hx];rfl};have ih:=Xdm (h:=h) l s.flush (dn++ [k]) (Xc9 hI) ((hfh h).2 hh) (by rw[(hkc h hh).2.1,hk];simp) (fun z=>absurd rfl z) (fun _=>rfl);have e0:s.flush.first=0:=rfl;have e1:s.flush.data=ByteArray.empty:=rfl;rw[e0,e1,if_neg (fun z=>z rfl),decide_eq_false (fun z=>z rfl),Xa1 false (fun y hy=>⟨(hkc y (hlh y hy)).1,hkd2 y hy⟩)]at ih;have eg:gainL s.ar (decide (s.first≠0)) (k::l)=gainL s.ar false l:=by{(conv=>lhs;unfold gainL);rw[if_pos q5]};rw[eg];have em:s.flush.ar.Xk+(if s.first≠0 then(s.ar.get s.first).data.size else 0)=s.ar.Xk+s.data.size:=by{unfold X8.flush;dsimp only;by_cases q:s.first=0;·{rw[if_neg (fun e=>e q),if_neg (fun e=>e q),h0 q];rfl};·rw[if_pos q,if_pos q];exact Xfe s.data (hf' q).1 (hf' q).2};have:ByteArray.empty.size=0:=rfl;omega}
/-- No text directly follows a text. -/
def alt (A : Ar) : Bool → List Int → Prop
  | _, [] => True
  | b, k :: l => if (A.get k).Xa ≠ 5 then alt A false l else b = false ∧ alt A true l
theorem Xdn {A:Ar}:∀(l:List Int)(f:Int)(d:ByteArray),(∀k∈l,k≠0)→alt A (decide (f≠0)) (jk A f d l).1
 | [],f,d,_=>trivial
 |k::l,f,d,h=>by{have h':∀k'∈l,k'≠0:=fun k' hk=>h k' (by simp[hk]);unfold jk;by_cases q5:(A.get k).Xa=5;·{rw[if_neg (fun e=>e q5)];by_cases q0:f=0∧(A.get k).data≠ByteArray.empty;·{rw[if_pos q0];unfold alt;rw[if_neg (fun e=>e q5)];have:=Xdn (A:=A) l k (A.get k).data h';rw[decide_eq_true (h k (by simp))]at this;exact⟨by rw[q0.1];rfl,this⟩};·rw[if_neg q0];exact Xdn l _ _ h'};·rw[if_pos q5];unfold alt;rw[if_pos q5];exact Xdn l 0 _ h'}
theorem XhH {A:Ar}:∀(l:List Int),(alt A true l→∀b,gainL A b l=0)∧(alt A false l→gainL A false l=0)
 | []=>⟨fun _ _=>rfl,fun _=>rfl⟩
 |k::l=>by{obtain⟨h1,h2⟩:=XhH (A:=A) l;constructor;·{intro h b;unfold alt at h;unfold gainL;by_cases q5:(A.get k).Xa=5;·{rw[if_neg (fun e=>e q5)]at h;exact absurd h.1 (by simp)};·rw[if_pos q5]at h⊢;exact h2 h};·intro h;unfold alt at h;unfold gainL;by_cases q5:(A.get k).Xa=5;·{rw[if_neg (fun e=>e q5)]at h⊢;rw[if_neg (by simp)];exact h1 h.2 _};·rw[if_pos q5]at h⊢;exact h2 h}
theorem Xfi {A B:Ar}:∀{l:List Int}(b:Bool),(∀k∈l,(B.get k).Xa=(A.get k).Xa)→alt A b l→alt B b l
 | [],_,_,_=>trivial
 |k::l,b,h,ha=>by{have h':∀k'∈l,(B.get k').Xa=(A.get k').Xa:=fun k' hk=>h k' (by simp[hk]);unfold alt at ha⊢;rw[h k (by simp)];split;·{rename_i q;rw[if_pos q]at ha;exact Xfi _ h' ha};·rename_i q;rw[if_neg q]at ha;exact⟨ha.1,Xfi _ h' ha.2⟩}
theorem XhI {A:Ar}{h:Int}(hI:A.Inv)(hh:A.has h):(A.join h).Xk+(A.join h).X9≤A.Xk+A.X9:=by
 obtain⟨r1,r2,r3,r4⟩:=Xav hI hh
 have hm:=Xdm (h:=h) (A.get h).Xc ⟨A,0,ByteArray.empty⟩ [] hI hh rfl (fun z=>absurd rfl z) (fun _=>rfl)
 have hm:(A.join h).Xk≤A.Xk+gainL A false (A.get h).Xc:=by have e:ByteArray.empty.size=0:=rfl;simpa[Ar.join,e]using hm
 have hk0:∀k∈(A.get h).Xc,k≠0:=fun k hk=>by have:=(XF hI hh hk).1.1;omega
 have hks:=JF (B:=A) (A.get h).Xc 0 ByteArray.empty
 have hkeys:=JG (B:=A) (A.get h).Xc 0 ByteArray.empty
 have halt:=Xdn (A:=A) (A.get h).Xc 0 ByteArray.empty hk0
 generalize jk A 0 ByteArray.empty (A.get h).Xc=J at*
 have hhs:(A.join h).hs=A.hs:=by unfold Ar.hs;rw[r2]
 have hh':h∈A.hs:=ZW.2 hh
 have hkk:∀x,A.has x→((A.join h).get x).Xa=(A.get x).Xa:=fun x hx=>by rw[r4 x hx];rfl
 have hs:=Xl6 (f:=fun x=>gainL A false (A.get x).Xc) (g:=fun x=>gainL (A.join h) false ((A.join h).get x).Xc) hh' (Xdf A) (fun x hx hne=>by have hx':=ZW.1 hx;have ek:((A.join h).get x).Xc=(A.get x).Xc:=by{rw[r4 x hx'];show(if x=h then _ else _)=_;rw[if_neg hne]};show gainL (A.join h) false ((A.join h).get x).Xc=gainL A false (A.get x).Xc;rw[ek];refine Xa1 false (fun y hy=>?_);obtain⟨y1,y2,y3⟩:=XF hI hx' hy;refine⟨hkk y y1,?_⟩;rw[r4 y y1];show(J.2.lookup y).getD (A.get y).data=_;have:J.2.lookup y=none:=Jy (fun p hp=>by rcases hkeys p hp with⟨_,z⟩|⟨z,_⟩;·{exact absurd rfl z};·exact fun e=>hne (by rw[←y3,←e];exact(XF hI hh z).2.2));rw[this];rfl)
 have hz:gainL (A.join h) false ((A.join h).get h).Xc=0:=by have ek:((A.join h).get h).Xc=J.1:=by{rw[r4 h hh];show(if h=h then _ else _)=_;rw[if_pos rfl]};rw[ek];exact(XhH _).2 (Xfi false (fun k hk=>hkk k (XF hI hh (hks k hk)).1) halt)
 have e1:(A.join h).X9=(A.hs.map (fun x=>gainL (A.join h) false ((A.join h).get x).Xc)).sum:=by unfold Ar.X9;rw[hhs]
 have e2:A.X9=(A.hs.map (fun x=>gainL A false (A.get x).Xc)).sum:=rfl
 rw[hz]at hs
 rw[e1,e2]
 omega
theorem Xfj {A:Ar}(hI:A.Inv)(h:Int):(A.normalize h).2.Inv∧(A.normalize h).2.ns.length=A.ns.length∧(A.normalize h).2.Xh=A.Xh∧(A.normalize h).2.Xk+(A.normalize h).2.X9≤A.Xk+A.X9:=by
 unfold Ar.normalize
 split
 ·rename_i hh;obtain⟨q1,q2,q3,-⟩:=Xav hI hh;have q4:=XhI hI hh;have hh1:(A.join h).has h:=⟨hh.1,by have:=hh.2;unfold Ar.n at*;omega⟩;dsimp only;refine Ze (P:=fun B:Ar=>B.Inv∧B.ns.length=A.ns.length∧B.Xh=A.Xh∧B.Xk+B.X9≤A.Xk+A.X9) ⟨q1,q2,q3,q4⟩ ?_;rintro B x hx⟨p1,p2,p3,p4⟩;have hxB:B.has x:=by{have:=(Zt q1 h hh1 x hx).1;exact⟨this.1,by have:=this.2;unfold Ar.n at*;omega⟩};obtain⟨s1,s2,s3,-⟩:=Xav p1 hxB;have s4:=XhI p1 hxB;exact⟨s1,s2.trans p2,s3.trans p3,Nat.le_trans s4 p4⟩
 ·exact⟨hI,rfl,rfl,Nat.le_refl _⟩
end
section
/-- Labels are the same along the Xcw. -/
def Lab (ρ : Int → Int) (A : Ar) : Prop := ∀ (i : Nat) (n : Nd), A.ns[i]? = some n → (n.Xd ≠ 0 → ρ n.Xd = ρ ((i : Int) + 1)) ∧ (n.host ≠ 0 → ρ n.host = ρ ((i : Int) + 1))
/-- Texts as they were, but for one; new nodes XQ texts, but for one. -/
structure Kp (ρ : Int → Int) (z : Int) (A A' : Ar) : Prop where
  lab : Lab ρ A'
  old : ∀ (i : Nat) (n : Nd), A.ns[i]? = some n → ∃ n', A'.ns[i]? = some n' ∧ (tx n' ≤ tx n ∨ ((i : Int) + 1 = z ∧ tx n' ≤ 400))
  new : ∀ (i : Nat) (n' : Nd), A'.ns[i]? = some n' → A.ns.length ≤ i → tx n' = 0 ∨ ((i : Int) + 1 = z ∧ tx n' ≤ 400)
theorem Kp.refl {ρ:Int→Int}(z:Int){A:Ar}(h:Lab ρ A):Kp ρ z A A:=⟨h,fun i n hi=>⟨n,hi,.inl (Nat.le_refl _)⟩,fun i n hi hl=>by have:=(List.getElem?_eq_some_iff.1 hi).1;omega⟩
theorem Kp.trans {ρ:Int→Int}{z:Int}{A B C:Ar}(h1:Kp ρ z A B)(h2:Kp ρ z B C):Kp ρ z A C:=by
 refine⟨h2.lab,fun i n hi=>?_,fun i n hi hl=>?_⟩
 ·obtain⟨n1,e1,q1⟩:=h1.old i n hi;obtain⟨n2,e2,q2⟩:=h2.old i n1 e1;refine⟨n2,e2,?_⟩;rcases q2 with q2|q2;·{rcases q1 with q1|q1;·{exact .inl (by omega)};·exact .inr ⟨q1.1,by omega⟩};·exact .inr q2
 ·by_cases hb:i<B.ns.length;·{obtain⟨n2,e2,q2⟩:=h2.old i _ (List.getElem?_eq_getElem hb);obtain rfl:n=n2:=by{rw[hi]at e2;exact Option.some.inj e2};rcases q2 with q2|q2;·{rcases h1.new i _ (List.getElem?_eq_getElem hb) hl with q1|q1;·{exact .inl (by omega)};·exact .inr ⟨q1.1,by omega⟩};·exact .inr q2};·exact h2.new i n hi (by omega)
theorem kp_mod {ρ:Int→Int}{z:Int}{A:Ar}(h:Lab ρ A)(x:Int){f:Nd→Nd}(h1:∀n,(f n).host=n.host)(h2:∀n,(f n).Xd=n.Xd∨(f n).Xd=0∨ρ (f n).Xd=ρ (((x.toNat-1:Nat):Int)+1))(h3:∀n,tx (f n)≤tx n∨(((x.toNat-1:Nat):Int)+1=z∧tx (f n)≤400)):Kp ρ z A (A.mod x f):=by
 have hg:∀i,(A.mod x f).ns[i]?=if x.toNat-1=i then A.ns[i]?.map f else A.ns[i]?:=fun i=>by show(A.ns.modify (x.toNat-1) f)[i]?=_;rw[List.getElem?_modify];split<;>simp_all
 refine⟨fun i n hi=>?_,fun i n hi=>?_,fun i n hi hl=>?_⟩
 ·rw[hg]at hi;split at hi;·{rename_i e;cases hq:A.ns[i]? with|none=>{rw[hq]at hi;simp at hi}|some m=>rw[hq]at hi;obtain rfl:f m=n:=by{simpa using hi};have:=h i m hq;refine⟨fun hz=>?_,fun hz=>by rw[h1]at hz⊢;exact this.2 hz⟩;rcases h2 m with q|q|q;·{rw[q]at hz⊢;exact this.1 hz};·{exact absurd q hz};·rw[q,e]};·exact h i n hi
 ·rw[hg];split;·{rename_i e;rw[hi];refine⟨f n,rfl,?_⟩;rcases h3 n with q|q;·{exact .inl q};·exact .inr ⟨by rw[←e];exact q.1,q.2⟩};·exact⟨n,hi,.inl (Nat.le_refl _)⟩
 ·have:i<(A.mod x f).ns.length:=(List.getElem?_eq_some_iff.1 hi).1;have h5:(A.mod x f).ns.length=A.ns.length:=by{simp[Ar.mod]};omega
theorem kp_keep {ρ:Int→Int}{z:Int}{A:Ar}(h:Lab ρ A)(x:Int){f:Nd→Nd}(h1:∀n,(f n).host=n.host)(h2:∀n,(f n).Xd=n.Xd)(h3:∀n,tx (f n)=tx n):Kp ρ z A (A.mod x f):=kp_mod h x h1 (fun n=> .inl (h2 n)) (fun n=> .inl (Nat.le_of_eq (h3 n)))
theorem kp_add {ρ:Int→Int}{z:Int}{A:Ar}(h:Lab ρ A){n:Nd}(h1:n.Xd=0)(h2:n.host≠0→ρ n.host=ρ (A.n+1))(h3:tx n=0∨(A.n+1=z∧tx n≤400)):Kp ρ z A (A.add n):=by
 have hg:∀i,(A.add n).ns[i]?=if i<A.ns.length then A.ns[i]? else if i=A.ns.length then some n else none:=fun i=>by show(A.ns++ [n])[i]?=_;by_cases e:i<A.ns.length;·{rw[if_pos e,List.getElem?_append_left e]};·rw[if_neg e,List.getElem?_append_right (by omega)];by_cases e2:i=A.ns.length;·{rw[if_pos e2,e2];simp};·rw[if_neg e2,List.getElem?_eq_none (by simp;omega)]
 refine⟨fun i m hi=>?_,fun i m hi=>?_,fun i m hi hl=>?_⟩
 ·rw[hg]at hi;split at hi;·{exact h i m hi};·split at hi;·{rename_i e;obtain rfl:n=m:=by{simpa using hi};refine⟨fun hz=>absurd h1 hz,fun hz=>?_⟩;rw[h2 hz,e];rfl};·cases hi
 ·have hl:=(List.getElem?_eq_some_iff.1 hi).1;exact⟨m,by rw[hg,if_pos hl];exact hi,.inl (Nat.le_refl _)⟩
 ·rw[hg,if_neg (by omega)]at hi;split at hi;·{rename_i e;obtain rfl:n=m:=by{simpa using hi};rcases h3 with q|q;·{exact .inl q};·exact .inr ⟨by rw[←q.1,e];rfl,q.2⟩};·cases hi
theorem kp_cut {ρ:Int→Int}{z:Int}{A:Ar}(h:Lab ρ A)(x:Int):Kp ρ z A (A.cut x):=by
 unfold Ar.cut
 split
 ·exact Kp.refl z h
 ·have k1:Kp ρ z A (A.mod (A.get x).Xd (fun m=>{m with Xc:=XQ m.Xc x})):=kp_keep h _ (fun _=>rfl) (fun _=>rfl) (fun _=>rfl);exact k1.trans (kp_mod k1.lab x (fun _=>rfl) (fun _=> .inr (.inl rfl)) (fun _=> .inl (Nat.le_refl _)))
theorem at_has {x:Int}(h:1≤x):((x.toNat-1:Nat):Int)+1=x:=by
 omega
theorem kp_put {ρ:Int→Int}{z:Int}{A:Ar}(h:Lab ρ A){p x:Int}(c:Int)(he:A.has x→ρ x=ρ p):Kp ρ z A (A.put p x c).2:=by
 unfold Ar.put
 split
 ·exact Kp.refl z h
 ·rename_i hq;have hx:=(Xem (Classical.not_not.1 hq)).2.1;have k1:=kp_cut (z:=z) h x;have k2:Kp ρ z (A.cut x) ((A.cut x).mod p (fun m=>{m with Xc:=YK m.Xc x c})):=kp_keep k1.lab _ (fun _=>rfl) (fun _=>rfl) (fun _=>rfl);exact k1.trans (k2.trans (kp_mod k2.lab x (fun _=>rfl) (fun _=> .inr (.inr (by rw[at_has hx.1,he hx]))) (fun _=> .inl (Nat.le_refl _))))
theorem kp_document {ρ:Int→Int}{z:Int}{A:Ar}(h:Lab ρ A)(q:Bool):Kp ρ z A (A.Xn q):=kp_add h rfl (fun e=>absurd rfl e) (.inl rfl)
theorem kp_inertOf {ρ:Int→Int}{z:Int}{A:Ar}(h:Lab ρ A)(d:Int):Kp ρ z A (A.Xq d).2:=by
 unfold Ar.Xq
 split
 ·exact Kp.refl z h
 ·have k:=kp_document (z:=z) h false;exact⟨k.lab,k.old,k.new⟩
theorem kp_inertCall {ρ:Int→Int}{z:Int}{A:Ar}(h:Lab ρ A)(d:Int):Kp ρ z A (A.YA d).2:=by
 unfold Ar.YA
 split
 ·exact Kp.refl z h
 ·exact kp_inertOf h d
theorem kp_make {ρ:Int→Int}{z:Int}{A:Ar}(h:Lab ρ A)(d:Int){n:Nd}(h1:n.Xd=0)(h2:n.host=0)(h3:tx n=0∨(A.n+1=z∧tx n≤400)):Kp ρ z A (A.make d n).2:=by
 unfold Ar.make
 split
 ·exact Kp.refl z h
 ·exact kp_add h h1 (fun e=>absurd h2 e) h3
/-- The labels of new nodes are the same. -/
def NewL (ρ : Int → Int) (k : Nat) : Prop := ∀ i j : Nat, k ≤ i → k ≤ j → ρ ((i : Int) + 1) = ρ ((j : Int) + 1)
theorem kp_element {ρ:Int→Int}{z:Int}{A:Ar}(h:Lab ρ A){k:Nat}(hν:NewL ρ k)(hk:k≤A.ns.length)(d s:Int)(name:ByteArray)(l:List Xm):Kp ρ z A (A.element d s name l).2:=by
 have h1:Kp ρ z A (A.add (XJ d s name l)):=kp_add h rfl (fun e=>absurd rfl e) (.inl rfl)
 by_cases he:A.XA d=0
 ·by_cases hs:XS s∧Ys l;·{by_cases ht:XN (XJ d s name l);·{rw[XaN he hs ht];have k2:=kp_inertOf (z:=z) h1.lab d;have hn:A.ns.length≤((A.add (XJ d s name l)).Xq d).2.ns.length:=by{have:(A.add (XJ d s name l)).ns.length=A.ns.length+1:=by{simp[Ar.add]};unfold Ar.Xq;split;·{dsimp only;omega};·simp[Ar.Xn,Ar.add]};have k3:Kp ρ z ((A.add (XJ d s name l)).Xq d).2 (((A.add (XJ d s name l)).Xq d).2.add (Y7 (A.n+1) ((A.add (XJ d s name l)).Xq d).1)):=kp_add k2.lab rfl (fun _=>hν A.ns.length ((A.add (XJ d s name l)).Xq d).2.ns.length hk (by omega)) (.inl rfl);have k4:=kp_keep (z:=z) k3.lab (A.n+1) (f:=fun x=>{x with Xg:=((A.add (XJ d s name l)).Xq d).2.n+1}) (fun _=>rfl) (fun _=>rfl) (fun _=>rfl);exact h1.trans (k2.trans (k3.trans k4))};·rw[XaM he hs ht];exact h1};·rw[XaL he hs];exact Kp.refl z h
 ·have:A.element d s name l=((0,A.XA d),A):=by{simp[Ar.element,he]};rw[this];exact Kp.refl z h
theorem tx_data (n:Nd)(s:ByteArray):tx {n with data:=s}≤s.size:=by
 unfold tx
 dsimp only
 split<;>omega
theorem kp_setData {ρ:Int→Int}{A:Ar}(h:Lab ρ A)(x:Int){s:ByteArray}(hs:s.size≤400):Kp ρ x A (A.XG x s).2:=by
 unfold Ar.XG
 split
 ·exact Kp.refl x h
 ·rename_i hx;split;·{exact Kp.refl x h};·exact kp_mod h x (fun _=>rfl) (fun _=> .inl rfl) (fun n=> .inr ⟨at_has (Classical.not_not.1 hx).1,Nat.le_trans (tx_data n s) hs⟩)
theorem kp_setQuirks {ρ:Int→Int}{z:Int}{A:Ar}(h:Lab ρ A)(x:Int)(q:Bool):Kp ρ z A (A.YQ x q).2:=by
 unfold Ar.YQ
 repeat' split
 all_goals first|(exact Kp.refl z h)|exact kp_keep h x (fun _=>rfl) (fun _=>rfl) (fun _=>rfl)
theorem kp_setDoc {ρ:Int→Int}{z:Int}{A:Ar}(h:Lab ρ A)(x d:Int):Kp ρ z A (A.Xt x d).2:=by
 unfold Ar.Xt
 repeat' split
 all_goals first|(exact Kp.refl z h)|exact kp_keep h x (fun _=>rfl) (fun _=>rfl) (fun _=>rfl)
theorem kp_setAttrs {ρ:Int→Int}{z:Int}{A:Ar}(h:Lab ρ A)(x:Int)(l:List Xm):Kp ρ z A (A.X0 x l).2:=by
 unfold Ar.X0
 repeat' split
 all_goals first|(exact Kp.refl z h)|exact kp_keep h x (fun _=>rfl) (fun _=>rfl) (fun _=>rfl)
theorem kp_adoptF {ρ:Int→Int}{z:Int}:∀(n:Nat){A:Ar}(h:Lab ρ A)(x d:Int),Kp ρ z A (adoptF n A x d)
 |0,A,h,x,d=>kp_cut h x
 |n+1,A,h,x,d=>by{unfold adoptF;split;·{exact kp_cut h x};·refine Ze (P:=fun B:Ar=>Kp ρ z A B) (kp_cut h x) ?_;intro B y hy hB;unfold Yf;split;·{exact hB.trans (kp_setDoc hB.lab y d)};·have k1:=hB.trans (kp_setDoc hB.lab y d);have k2:=k1.trans (kp_inertOf k1.lab d);exact k2.trans (kp_adoptF n k2.lab _ _)}
theorem kp_empty {ρ:Int→Int}{z:Int}{A:Ar}(h:Lab ρ A)(p:Int):Kp ρ z A (A.empty p):=Ze (P:=fun B:Ar=>Kp ρ z A B) (Kp.refl z h) (fun B x hx hB=>hB.trans (kp_cut hB.lab x))
theorem lab_parent {ρ:Int→Int}{A:Ar}(h:Lab ρ A){x:Int}(hx:A.has x)(hp:(A.get x).Xd≠0):ρ (A.get x).Xd=ρ x:=by
 have:=(h (x.toNat-1) (A.get x) (Ar.get_some hx)).1 hp
 rwa[at_has hx.1]at this
theorem nodes_lab {ρ:Int→Int}{A:Ar}(hI:A.Inv)(h:Lab ρ A){n:Int}(hn:A.has n):∀x∈A.X7 n,ρ x=ρ n:=by
 intro x hx
 unfold Ar.X7 at hx
 split at hx
 ·obtain⟨h1,h2⟩:=hI.wf.Xc n hn x hx;have:=lab_parent h h1 (by rw[h2];intro e;rw[e]at hn;exact Za A hn);rw[h2]at this;exact this.symm
 ·rw[List.mem_singleton.1 hx]
theorem kp_insertAt {ρ:Int→Int}{z:Int}{A:Ar}(h:Lab ρ A)(p n c:Int)(he:∀x∈A.X7 n,ρ x=ρ p):Kp ρ z A (A.YD p n c):=Ze (P:=fun B:Ar=>Kp ρ z A B) (Kp.refl z h) (fun B x hx hB=>by have k1:=hB.trans (kp_adoptF B.ns.length hB.lab x (A.get p).doc);exact k1.trans (kp_put k1.lab c (fun _=>he x hx)))
end
end Go.Proofs.YtpicinjcmjaogaaGreatDoor
