import Derived.Test.YtpicinjcmjaogaaGreatDoorW11
import Derived.Test.YtpicinjcmjaogaaGreatDoorW12
set_option maxRecDepth 100000
set_option maxHeartbeats 4000000
set_option linter.unusedVariables false
namespace Go.Proofs.YtpicinjcmjaogaaGreatDoor
section
def Ar.YJ (A : Ar) (h : Int) : Nat := ((A.get h).Xc.map (fun y => tx (A.get y))).sum
theorem Xmg {A:Ar}(hI:A.Inv){h:Int}(hh:A.has h):A.YJ h≤A.Xk:=by
 rw[Xce]
 exact Xax (hI.wf.nodup h hh) (fun x hx=>ZW.2 (XF hI hh hx).1)
/-- Joining, up to a child. -/
structure Xab (A : Ar) (K : List Int) (k : Nat) (s : X8) : Prop where
  inv : s.ar.Inv
  n : s.ar.n = A.n
  Xa : ∀ y, A.has y → (s.ar.get y).Xa = (A.get y).Xa
  data : ∀ y ∈ K.drop k, (s.ar.get y).data = (A.get y).data
  size : s.data.size ≤ ((K.take k).map (fun y => tx (A.get y))).sum
  first : s.first ≠ 0 → s.first ∈ K.take k ∧ (A.get s.first).Xa = 5
theorem Xab.has {A:Ar}{K:List Int}{k:Nat}{s:X8}(h:Xab A K k s){x:Int}(hx:A.has x):s.ar.has x:=by
 unfold Ar.has
 rw[h.n]
 exact hx
theorem Xab.flush {A:Ar}{K:List Int}{k:Nat}{s:X8}(h:Xab A K k s)(hK:∀x∈K,A.has x)(hn:K.Nodup):Xab A K k s.flush:=by
 have hf:s.first≠0→s.ar.has s.first∧(s.ar.get s.first).Xa=5:=fun q=>by have:=hK _ (List.mem_of_mem_take (h.first q).1);exact⟨h.has this,(h.Xa _ this).trans (h.first q).2⟩
 refine⟨Xc9 h.inv,(XaX s).1.trans h.n,fun y hy=>?_,fun y hy=>?_,?_,fun q=>absurd rfl q⟩
 ·rw[Xau hf (h.has hy)];exact h.Xa y hy
 ·have hyK:=List.mem_of_mem_drop hy;rw[Xau hf (h.has (hK y hyK))];show(List.lookup y _).getD (s.ar.get y).data=_;have:(if s.first≠0 then [(s.first,s.data)]else []).lookup y=none:=Jy (fun p hp=>by by_cases z:s.first=0;·{rw[if_neg (fun q=>q z)]at hp;simp at hp};·rw[if_pos z]at hp;simp at hp;subst hp;intro e;have e':s.first=y:=e;have h1:=(h.first z).1;rw[←List.take_append_drop k K]at hn;exact(List.nodup_append.1 hn).2.2 _ h1 _ hy e');rw[this];exact h.data y hy
 ·exact Nat.zero_le _
theorem Xfm {K:List Int}{k:Nat}{x:Int}{f:Int→Nat}(hx:K[k]?=some x):((K.take (k+1)).map f).sum=((K.take k).map f).sum+f x:=by
 rw[List.take_add_one,hx]
 simp
theorem Xab.step {A:Ar}{K:List Int}{k:Nat}{s:X8}{x:Int}(h:Xab A K k s)(hK:∀x∈K,A.has x)(hn:K.Nodup)(hx:K[k]?=some x):Xab A K (k+1) (s.step x):=by
 have hk:=(List.getElem?_eq_some_iff.1 hx).1
 have hxK:=List.mem_of_getElem? hx
 have hxh:=hK x hxK
 have hdrop:K.drop k=x::K.drop (k+1):=by rw[List.drop_eq_getElem_cons hk,(List.getElem?_eq_some_iff.1 hx).2]
 have hxd:(s.ar.get x).data=(A.get x).data:=h.data x (by rw[hdrop];simp)
 have hxk:=h.Xa x hxh
 have mono:∀y,y∈K.drop (k+1)→y∈K.drop k:=fun y hy=>by rw[hdrop];simp[hy]
 have memt:∀y,y∈K.take k→y∈K.take (k+1):=fun y hy=>by rw[List.take_add_one];simp[hy]
 unfold X8.step
 by_cases h5:(s.ar.get x).Xa=5
 ·rw[if_neg (fun q=>q h5)];have htx:tx (A.get x)=(A.get x).data.size:=by{unfold tx;rw[if_pos (hxk.symm.trans h5)]};by_cases h0:s.first=0∧(s.ar.get x).data≠ByteArray.empty;·{rw[if_pos h0];refine⟨h.inv,h.n,h.Xa,fun y hy=>h.data y (mono y hy),?_,fun _=>⟨?_,hxk.symm.trans h5⟩⟩;·{dsimp only;rw[Xfm hx,hxd,htx];omega};·dsimp only;rw[List.take_add_one,hx];simp};·rw[if_neg h0];have hxs:=h.has hxh;have hg:∀y,A.has y→((s.ar.cut x).get y).Xa=(s.ar.get y).Xa∧((s.ar.cut x).get y).data=(s.ar.get y).data:=fun y hy=>by{rw[Ar.Zc h.inv hxs (h.has hy)];exact⟨rfl,rfl⟩};refine⟨Ar.XC.cut h.inv hxs,(Ar.XaG _ _).trans h.n,fun y hy=>(hg y hy).1.trans (h.Xa y hy),fun y hy=>?_,?_,fun q=>⟨memt _ (h.first q).1,(h.first q).2⟩⟩;·{exact(hg y (hK y (List.mem_of_mem_drop hy))).2.trans (h.data y (mono y hy))};·dsimp only;rw[Xfm hx,hxd,htx,ByteArray.size_append];have:=h.size;omega
 ·rw[if_pos h5];have hf:=h.flush hK hn;refine⟨hf.inv,hf.n,hf.Xa,fun y hy=>hf.data y (mono y hy),?_,fun q=>absurd rfl q⟩;show ByteArray.empty.size≤_;exact Nat.zero_le _
theorem XhM {A:Ar}{h:Int}(hI:A.Inv)(hh:A.has h):∀k,k≤(A.get h).Xc.length→Xab A (A.get h).Xc k (((A.get h).Xc.take k).foldl X8.step ⟨A,0,ByteArray.empty⟩)
 |0,_=>⟨hI,rfl,fun _ _=>rfl,fun _ _=>rfl,Nat.zero_le _,fun q=>absurd rfl q⟩
 |k+1,hk=>by{obtain⟨x,hx⟩:∃x,(A.get h).Xc[k]?=some x:=⟨_,List.getElem?_eq_getElem (by omega)⟩;have:=(XhM hI hh k (by omega)).step (fun x hx=>(XF hI hh hx).1) (hI.wf.nodup h hh) hx;rw[List.take_add_one,hx,List.foldl_append];exact this}
end
section
theorem XhN {α β:Type}{f g:α→List β}:∀{l:List α},(∀x∈l,(f x).Sublist (g x))→(l.flatMap f).Sublist (l.flatMap g)
 | [],_=>by{simp}
 |a::l,h=>by{rw[List.flatMap_cons,List.flatMap_cons];exact(h a (by simp)).append (XhN (fun x hx=>h x (by simp[hx])))}
theorem Xmh {A:Ar}(hI:A.Inv):∀h,A.has h→(h::A.below h).Sublist (A.Xi h):=by
 refine Jc hI (fun h hh _ hk=>?_)
 rw[ZD hI hh,Ym hI hh]
 exact((XhN hk).trans (List.sublist_append_right _ _)).cons_cons _
theorem Xfn {A:Ar}(hI:A.Inv){h:Int}(hh:A.has h):(h::A.below h).Nodup:=(Xmh hI h hh).nodup (Xeq hI h hh)
/-- Joining, at some of the nodes. -/
structure ZA (A : Ar) (dn : List Int) (B : Ar) : Prop where
  inv : B.Inv
  len : B.ns.length = A.ns.length
  Xc : ∀ y, A.has y → y ∉ dn → (B.get y).Xc = (A.get y).Xc ∧ ∀ k ∈ (A.get y).Xc, tx (B.get k) = tx (A.get k)
theorem ZA.has {A B:Ar}{dn:List Int}(h:ZA A dn B){x:Int}(hx:A.has x):B.has x:=by
 have:=h.len
 unfold Ar.has Ar.n at*
 omega
theorem ZA.XhO {A B:Ar}{dn:List Int}(h:ZA A dn B){x:Int}(hx:B.has x):A.has x:=by
 have:=h.len
 unfold Ar.has Ar.n at*
 omega
theorem ZA.start {A:Ar}(hI:A.Inv):ZA A [] A:=⟨hI,rfl,fun _ _ _=>⟨rfl,fun _ _=>rfl⟩⟩
theorem ZA.tx {A B:Ar}{dn:List Int}(h:ZA A dn B)(hI:A.Inv){x:Int}(hx:A.has x)(hn:x∉dn):B.YJ x=A.YJ x:=by
 obtain⟨h1,h2⟩:=h.Xc x hx hn
 unfold Ar.YJ
 rw[h1]
 exact congrArg List.sum (List.map_congr_left h2)
theorem ZA.step {A B:Ar}{dn:List Int}(h:ZA A dn B)(hI:A.Inv){x:Int}(hx:A.has x):ZA A (dn++ [x]) (B.join x):=by
 have hxB:=h.has hx
 obtain⟨r1,r2,r3,r4⟩:=Xav h.inv hxB
 have hkeys:=JG (B:=B) (B.get x).Xc 0 ByteArray.empty
 generalize jk B 0 ByteArray.empty (B.get x).Xc=J at*
 refine⟨r1,r2.trans h.len,fun y hy hn=>?_⟩
 rw[List.mem_append,not_or]at hn
 obtain⟨h1,h2⟩:=h.Xc y hy hn.1
 have hyx:y≠x:=fun e=>hn.2 (by simp[e])
 have hyB:=h.has hy
 refine⟨?_,fun k hk=>?_⟩
 ·rw[r4 y hyB];show(if y=x then _ else _)=_;rw[if_neg hyx];exact h1
 ·obtain⟨k1,k2,k3⟩:=XF hI hy hk;have hkB:k∈(B.get y).Xc:=by{rw[h1];exact hk};obtain⟨b1,b2,b3⟩:=XF h.inv hyB hkB;rw[←h2 k hk,r4 k b1];have:J.2.lookup k=none:=Jy (fun p hp=>by rcases hkeys p hp with⟨_,z⟩|⟨z,_⟩;·{exact absurd rfl z};·intro e;have:=(XF h.inv hxB z).2.2;rw[show p.1=k from e,b3]at this;exact hyx this);unfold Go.Proofs.YtpicinjcmjaogaaGreatDoor.tx;show(if(B.get k).Xa=5 then((J.2.lookup k).getD (B.get k).data).size else 0)=_;rw[this];rfl
theorem XhP {A:Ar}{h:Int}(hI:A.Inv)(hh:A.has h):∀k,k≤((A.join h).below h).length→ZA A (h::((A.join h).below h).take k) ((((A.join h).below h).take k).foldl Ar.join (A.join h))
 |0,_=>(ZA.start hI).step hI hh
 |k+1,hk=>by{obtain⟨x,hx⟩:∃x,((A.join h).below h)[k]?=some x:=⟨_,List.getElem?_eq_getElem (by omega)⟩;have h0:ZA A [h] (A.join h):=(ZA.start hI).step hI hh;have hxA:=h0.XhO (Zt h0.inv h (h0.has hh) x (List.mem_of_getElem? hx)).1;have:=(XhP hI hh k (by omega)).step hI hxA;rw[List.take_add_one,hx,List.foldl_append];exact this}
theorem Xmi {A:Ar}{h:Int}(hI:A.Inv)(hh:A.has h){k:Nat}{x:Int}(hx:((A.join h).below h)[k]?=some x):A.has x∧x∉h::((A.join h).below h).take k:=by
 have h0:ZA A [h] (A.join h):=(ZA.start hI).step hI hh
 refine⟨h0.XhO (Zt h0.inv h (h0.has hh) x (List.mem_of_getElem? hx)).1,fun hm=>?_⟩
 have hn:=Xfn h0.inv (h0.has hh)
 rw[List.nodup_cons]at hn
 rcases List.mem_cons.1 hm with rfl|hm
 ·exact hn.1 (List.mem_of_getElem? hx)
 ·have hk:=(List.getElem?_eq_some_iff.1 hx).1;have h2:=hn.2;rw[←List.take_append_drop k ((A.join h).below h),List.nodup_append]at h2;refine h2.2.2 x hm x ?_ rfl;rw[List.drop_eq_getElem_cons hk,(List.getElem?_eq_some_iff.1 hx).2];simp
end
section
/-- Which texts go into which, behind a first text f (or 0). -/
def jt (B : Ar) : Int → List Int → List (Int × Int)
  | _, [] => []
  | f, k :: l =>
    if (B.get k).Xa ≠ 5 then jt B 0 l
    else if f = 0 ∧ (B.get k).data ≠ ByteArray.empty then jt B k l
    else (if f ≠ 0 then [(k, f)] else []) ++ jt B f l
theorem jt_facts {B:Ar}:∀(l:List Int)(f:Int)(d:ByteArray),l.Nodup→f∉l→(0:Int)∉l→(∀p∈jt B f l,p.1∈l∧(B.get p.1).Xa=5∧p.1∉(jk B f d l).1∧((p.2=f∧f≠0)∨(p.2∈(jk B f d l).1∧p.2∈l)))∧(∀p∈(jk B f d l).2,(p.1=f∧f≠0)∨p.1∈(jk B f d l).1)∧((jt B f l).map (fun p=>p.1)).Nodup
 | [],f,d,_,_,_=>by{refine⟨fun p hp=>by simp[jt]at hp,fun p hp=>?_,by simp[jt]⟩;unfold jk at hp;dsimp only at hp;split at hp;·{rename_i hf;rw[List.mem_singleton.1 hp];exact .inl ⟨rfl,hf⟩};·cases hp}
 |k::l,f,d,hn,hf,h0=>by{have hn1:=List.nodup_cons.1 hn;have hfl:f∉l:=fun q=>hf (by simp[q]);have h0l:(0:Int)∉l:=fun q=>h0 (by simp[q]);have hk0:k≠0:=fun q=>h0 (by simp[q]);unfold jt jk;split;·{obtain⟨i1,i2,i3⟩:=jt_facts l 0 ByteArray.empty hn1.2 h0l h0l;refine⟨fun p hp=>?_,fun p hp=>?_,i3⟩;·{obtain⟨q1,q2,q3,q4⟩:=i1 p hp;refine⟨by simp[q1],q2,fun q=>?_,.inr ?_⟩;·{rcases List.mem_cons.1 q with e|e;·{exact hn1.1 (e▸q1)};·exact q3 e};·rcases q4 with q4|q4;·{exact absurd rfl q4.2};·exact⟨by simp[q4.1],by simp[q4.2]⟩};·rcases List.mem_append.1 hp with q|q;·{split at q;·{rename_i hf0;rw[List.mem_singleton.1 q];exact .inl ⟨rfl,hf0⟩};·cases q};·rcases i2 p q with e|e;·{exact absurd rfl e.2};·exact .inr (by simp[e])};·split;·{obtain⟨i1,i2,i3⟩:=jt_facts l k (B.get k).data hn1.2 hn1.1 h0l;refine⟨fun p hp=>?_,fun p hp=>?_,i3⟩;·{obtain⟨q1,q2,q3,q4⟩:=i1 p hp;refine⟨by simp[q1],q2,fun q=>?_,.inr ?_⟩;·{rcases List.mem_cons.1 q with e|e;·{exact hn1.1 (e▸q1)};·exact q3 e};·rcases q4 with q4|q4;·{exact⟨by simp[q4.1],by simp[q4.1]⟩};·exact⟨by simp[q4.1],by simp[q4.2]⟩};·rcases i2 p hp with e|e;·{exact .inr (by simp[e.1])};·exact .inr (by simp[e])};·rename_i hk5 _;have hk5:=Classical.not_not.1 hk5;obtain⟨i1,i2,i3⟩:=jt_facts l f (d++(B.get k).data) hn1.2 hfl h0l;have hkJ:k∉(jk B f (d++(B.get k).data) l).1:=fun q=>hn1.1 (JF l _ _ k q);refine⟨fun p hp=>?_,i2,?_⟩;·{rcases List.mem_append.1 hp with q|q;·{split at q;·{rename_i hf0;rw[List.mem_singleton.1 q];exact⟨by simp,hk5,hkJ,.inl ⟨rfl,hf0⟩⟩};·cases q};·obtain⟨q1,q2,q3,q4⟩:=i1 p q;exact⟨by simp[q1],q2,q3,q4.imp id (fun r=>⟨r.1,by simp[r.2]⟩)⟩};·split;·{rw[List.map_append];refine nodup_app (by simp) i3 (fun y hy hy2=>?_);obtain⟨p,hp,e⟩:=List.mem_map.1 hy2;have:=(i1 p hp).1;have hy3:y=k:=by{simpa using hy};exact hn1.1 (by rw[←hy3,←e];exact this)};·exact i3}
/-- The bytes of the texts that go into x. -/
def sJ (B : Ar) (J : List (Int × Int)) (x : Int) : Nat := ((J.filter (fun p => decide (p.2 = x))).map (fun p => tx (B.get p.1))).sum
theorem sJ_zero {B:Ar}{J:List (Int×Int)}{x:Int}(h:∀p∈J,p.2≠x):sJ B J x=0:=by
 unfold sJ
 rw[show J.filter (fun p=>decide (p.2=x))= []from List.filter_eq_nil_iff.2 (fun p hp=>by simpa using h p hp)]
 rfl
theorem tx5 {n:Nd}(h:n.Xa=5):tx n=n.data.size:=if_pos h
theorem lookup_head (f:Int)(d e:ByteArray)(J:List (Int×ByteArray)):(((f,d)::J).lookup f).getD e=d:=by
 simp[List.lookup]
theorem lookup_skip {f x:Int}(h:x≠f)(d:ByteArray)(J:List (Int×ByteArray)):((if f≠0 then [(f,d)]else [])++J).lookup x=J.lookup x:=by
 split
 ·have:(x==f)=false:=by{simpa using h};simp[List.lookup,this]
 ·rfl
theorem jk_size {B:Ar}:∀(l:List Int)(f:Int)(d:ByteArray),l.Nodup→f∉l→(0:Int)∉l→(f≠0→∀e,(((jk B f d l).2.lookup f).getD e).size=d.size+sJ B (jt B f l) f)∧(∀x∈(jk B f d l).1,(B.get x).Xa=5→(((jk B f d l).2.lookup x).getD (B.get x).data).size=tx (B.get x)+sJ B (jt B f l) x)
 | [],f,d,_,_,_=>by{refine⟨fun hf e=>?_,fun x hx=>by simp[jk]at hx⟩;unfold jk jt;dsimp only;rw[if_pos hf,lookup_head];rfl}
 |k::l,f,d,hn,hf,h0=>by{have hn1:=List.nodup_cons.1 hn;have hfl:f∉l:=fun q=>hf (by simp[q]);have hfk:k≠f:=fun q=>hf (by simp[q]);have h0l:(0:Int)∉l:=fun q=>h0 (by simp[q]);unfold jt jk;split;·{rename_i hk5;obtain⟨i1,i2⟩:=jk_size (B:=B) l 0 ByteArray.empty hn1.2 h0l h0l;obtain⟨j1,j2,j3⟩:=jt_facts (B:=B) l 0 ByteArray.empty hn1.2 h0l h0l;refine⟨fun hf0 e=>?_,fun x hx hx5=>?_⟩;·{rw[if_pos hf0];show(((f,d)::(jk B 0 ByteArray.empty l).2).lookup f|>.getD e).size=_;rw[lookup_head,sJ_zero (fun p hp q=>?_)];rfl;rcases(j1 p hp).2.2.2 with r|r;·{exact r.2 rfl};·exact hfl (q▸r.2)};·rcases List.mem_cons.1 hx with e|e;·{exact absurd (e▸hx5) hk5};·rw[lookup_skip (fun q=>hfl (by rw[←q];exact JF l _ _ x e))];exact i2 x e hx5};·rename_i hk5;have hk5:=Classical.not_not.1 hk5;split;·{obtain⟨i1,i2⟩:=jk_size (B:=B) l k (B.get k).data hn1.2 hn1.1 h0l;rename_i hq;refine⟨fun hf0=>absurd hq.1 hf0,fun x hx hx5=>?_⟩;rcases List.mem_cons.1 hx with e|e;·{subst e;rw[i1 (fun q=>h0 (by simp[q])) _,tx5 hk5]};·exact i2 x e hx5};·obtain⟨i1,i2⟩:=jk_size (B:=B) l f (d++(B.get k).data) hn1.2 hfl h0l;refine⟨fun hf0 e=>?_,fun x hx hx5=>?_⟩;·{rw[i1 hf0 e,ByteArray.size_append,if_pos hf0];unfold sJ;rw[List.singleton_append,List.filter_cons_of_pos (by simp),List.map_cons,List.sum_cons,tx5 hk5];omega};·rw[i2 x hx hx5];have hxf:f≠x:=fun q=>hfl (q▸JF l _ _ x hx);unfold sJ;rw[List.filter_append];have:(if f≠0 then [(k,f)]else []).filter (fun p=>decide (p.2=x))= []:=by{split;·{simp[hxf]};·rfl};rw[this,List.nil_append]}
end
section
/-- Joining at some of the nodes, text by text. -/
structure NormT (A : Ar) (dn : List Int) (B : Ar) : Prop where
  base : ZA A dn B
  Xa : ∀ y, A.has y → (B.get y).Xa = (A.get y).Xa ∧ (B.get y).host = (A.get y).host ∧ ((B.get y).Xd = (A.get y).Xd ∨ (B.get y).Xd = 0)
  tgt : ∃ g : Int → Int, (∀ y, g y ≠ y → A.has y ∧ (A.get y).Xd ∈ dn ∧ (A.get y).Xd ≠ 0 ∧ (A.get y).Xa = 5 ∧ A.has (g y) ∧ (A.get (g y)).Xd = (A.get y).Xd ∧ g (g y) = g y ∧ (B.get y).Xd = 0) ∧
    (∀ x, A.has x → g x = x → ∃ G : List Int, G.Nodup ∧ (∀ y ∈ G, A.has y ∧ g y = x) ∧ Go.Proofs.YtpicinjcmjaogaaGreatDoor.tx (B.get x) ≤ sumM (fun y => Go.Proofs.YtpicinjcmjaogaaGreatDoor.tx (A.get y)) G) ∧
    (∀ x, A.has x → g x ≠ x → Go.Proofs.YtpicinjcmjaogaaGreatDoor.tx (B.get x) ≤ Go.Proofs.YtpicinjcmjaogaaGreatDoor.tx (A.get x))
theorem NormT.start {A:Ar}(hI:A.Inv):NormT A [] A:=⟨.start hI,fun y _=>⟨rfl,rfl,.inl rfl⟩,fun x=>x,fun y h=>absurd rfl h,fun x hx _=>⟨[x],by simp,fun y hy=>by rw[List.mem_singleton.1 hy];exact⟨hx,rfl⟩,by simp[sumM]⟩,fun x _ h=>absurd rfl h⟩
theorem plk_mem {x y:Int}:∀{J:List (Int×Int)},J.lookup x=some y→(x,y)∈J
 | [],h=>by{simp at h}
 |(a,b)::J,h=>by{by_cases e:x=a;·{subst e;simp[List.lookup]at h;simp[h]};·have:(x==a)=false:=by{simpa using e};simp only[List.lookup,this]at h;simp[plk_mem h]}
theorem lookup_key {x y:Int}:∀{J:List (Int×Int)},(J.map (fun p=>p.1)).Nodup→(x,y)∈J→J.lookup x=some y
 |(a,b)::J,hn,h=>by{have h1:=List.nodup_cons.1 (show((a::J.map (fun p=>p.1))).Nodup from hn);rcases List.mem_cons.1 h with e|e;·{cases e;simp[List.lookup]};·have hne:x≠a:=fun q=>h1.1 (List.mem_map.2 ⟨(x,y),e,q⟩);have:(x==a)=false:=by{simpa using hne};simp only[List.lookup,this];exact lookup_key h1.2 e}
theorem lookup_nokey {x:Int}:∀{J:List (Int×Int)},(∀p∈J,p.1≠x)→J.lookup x=none
 | [],_=>rfl
 |(a,b)::J,h=>by{have:(x==a)=false:=by{simpa using fun e:x=a=>h (a,b) (by simp) e.symm};simp only[List.lookup,this];exact lookup_nokey (fun p hp=>h p (by simp[hp]))}
theorem NormT.step {A B:Ar}{dn:List Int}(h:NormT A dn B)(hI:A.Inv){x:Int}(hx:A.has x)(hxd:x∉dn):NormT A (dn++ [x]) (B.join x):=by
 have hbase:=h.base.step hI hx
 obtain⟨hB,hkind,g,g1,g2,g3⟩:=h
 have hxB:=hB.has hx
 obtain⟨r1,r2,r3,r4⟩:=Xav hB.inv hxB
 obtain⟨hkx,htx⟩:=hB.Xc x hx hxd
 have x0:x≠0:=fun e=>by rw[e]at hx;exact Za _ hx
 rw[hkx]at r4
 obtain⟨K,hK⟩:∃K,K=(A.get x).Xc:=⟨_,rfl⟩
 rw[←hK]at r4 htx
 have hKn:K.Nodup:=by rw[hK];exact hI.wf.nodup x hx
 have hKm:∀k∈K,A.has k∧(A.get k).Xd=x:=fun k hk=>hI.wf.Xc x hx k (by rw[←hK];exact hk)
 have hK0:(0:Int)∉K:=fun q=>Za _ (hKm 0 q).1
 obtain⟨f1,f2,f3⟩:=jt_facts (B:=B) K 0 ByteArray.empty hKn hK0 hK0
 obtain⟨-,s2⟩:=jk_size (B:=B) K 0 ByteArray.empty hKn hK0 hK0
 have hsub:=JF (B:=B) K 0 ByteArray.empty
 obtain⟨T,hT⟩:∃T,T=jt B 0 K:=⟨_,rfl⟩
 obtain⟨J,hJ⟩:∃J,J=jk B 0 ByteArray.empty K:=⟨_,rfl⟩
 rw[←hT,←hJ]at f1 s2
 rw[←hJ]at f2 r4 hsub
 rw[←hT]at f3
 have f1':∀p∈T,p.1∈K∧(B.get p.1).Xa=5∧p.1∉J.1∧p.2∈J.1∧p.2∈K:=fun p hp=>by obtain⟨q1,q2,q3,q4⟩:=f1 p hp;rcases q4 with q4|q4;·{exact absurd rfl q4.2};·exact⟨q1,q2,q3,q4.1,q4.2⟩
 have hJno:∀y,y∉J.1→J.2.lookup y=none:=fun y hy=>Jy (fun p hp e=>by rcases f2 p hp with q|q;·{exact absurd rfl q.2};·exact hy (e▸q))
 have hgK:∀k∈K,g k=k:=fun k hk=>Classical.byContradiction (fun q=>by have:=(g1 k q).2.1;rw[(hKm k hk).2]at this;exact hxd this)
 have hgK2:∀y,g y≠y→y∉K∧g y∉K:=fun y hy=>by obtain⟨a1,a2,a3,a4,a5,a6,-⟩:=g1 y hy;refine⟨fun q=>hy (hgK y q),fun q=>?_⟩;rw[←a6,(hKm _ q).2]at a2;exact hxd a2
 have hkC:∀y,A.has y→((B.join x).get y).Xa=(B.get y).Xa∧((B.join x).get y).host=(B.get y).host:=fun y hy=>by rw[r4 y (hB.has hy)];exact⟨rfl,rfl⟩
 have hpC:∀y,A.has y→((B.join x).get y).Xd=if y∈K∧(B.get y).Xa=5∧y∉J.1 then 0 else(B.get y).Xd:=fun y hy=>by rw[r4 y (hB.has hy)];rfl
 have htC:∀y,A.has y→tx ((B.join x).get y)=if(B.get y).Xa=5 then((J.2.lookup y).getD (B.get y).data).size else 0:=fun y hy=>by rw[r4 y (hB.has hy)];rfl
 have htC2:∀y,A.has y→y∉J.1→tx ((B.join x).get y)=tx (B.get y):=fun y hy hn=>by rw[htC y hy,hJno y hn];rfl
 refine⟨hbase,fun y hy=>?_,fun y=>if y∈K then(T.lookup y).getD y else g y,fun y hy=>?_,fun y hy hgy=>?_,fun y hy hgy=>?_⟩
 ·obtain⟨k1,k2,k3⟩:=hkind y hy;refine⟨(hkC y hy).1.trans k1,(hkC y hy).2.trans k2,?_⟩;rw[hpC y hy];split;·{exact .inr rfl};·exact k3
 ·dsimp only at hy⊢;by_cases hyK:y∈K;·{rw[if_pos hyK]at hy⊢;cases hl:T.lookup y with|none=>{rw[hl]at hy;exact absurd rfl hy}|some f=>obtain⟨q1,q2,q3,q4,q5⟩:=f1' _ (plk_mem hl);dsimp only at q1 q2 q3 q4 q5;obtain⟨b1,b2⟩:=hKm y hyK;obtain⟨c1,c2⟩:=hKm f q5;rw[Option.getD_some,if_pos q5,lookup_nokey (fun p hp e=>(f1' p hp).2.2.1 (by rw[e];exact q4))];refine⟨b1,by rw[b2];simp,by rw[b2];exact x0,by rw[←(hkind y b1).1];exact q2,c1,c2.trans b2.symm,rfl,?_⟩;rw[hpC y b1,if_pos ⟨hyK,q2,q3⟩]};·rw[if_neg hyK]at hy⊢;obtain⟨a1,a2,a3,a4,a5,a6,a7,a8⟩:=g1 y hy;have hgn:=(hgK2 y hy).2;rw[if_neg hgn];refine⟨a1,by simp[a2],a3,a4,a5,a6,a7,?_⟩;rw[hpC y a1];split;·{rfl};·exact a8
 ·dsimp only at hgy⊢;by_cases hyK:y∈K;·{rw[if_pos hyK]at hgy;by_cases hyJ:y∈J.1∧(B.get y).Xa=5;·{have hs:=s2 y hyJ.1 hyJ.2;have e1:tx ((B.join x).get y)=tx (B.get y)+sJ B T y:=by{rw[htC y hy,if_pos hyJ.2,hs]};refine⟨y::(T.filter (fun p=>decide (p.2=y))).map (fun p=>p.1),?_,fun z hz=>?_,?_⟩;·{refine List.nodup_cons.2 ⟨fun q=>?_,?_⟩;·{obtain⟨p,hp,e⟩:=List.mem_map.1 q;exact(f1' p (List.mem_filter.1 hp).1).2.2.1 (by rw[e];exact hyJ.1)};·exact(List.filter_sublist.map _).nodup f3};·{rcases List.mem_cons.1 hz with e|e;·{rw[e];exact⟨hy,by rw[if_pos hyK];exact hgy⟩};·obtain⟨p,hp,rfl⟩:=List.mem_map.1 e;obtain⟨hp1,hp2⟩:=List.mem_filter.1 hp;have hp2:p.2=y:=by{simpa using hp2};obtain⟨q1,-⟩:=f1' p hp1;refine⟨(hKm _ q1).1,?_⟩;rw[if_pos q1,lookup_key f3 (show(p.1,y)∈T by rw[←hp2];exact hp1)];rfl};·rw[e1,sumM_cons,htx y hyK];refine Nat.add_le_add_left ?_ _;unfold sJ sumM;rw[List.map_map];refine Nat.le_of_eq (congrArg List.sum (List.map_congr_left (fun p hp=>?_)));exact htx _ (f1' p (List.mem_filter.1 hp).1).1};·refine⟨[y],by simp,fun z hz=>by rw[List.mem_singleton.1 hz];exact⟨hy,by rw[if_pos hyK];exact hgy⟩,?_⟩;rw[sumM_cons,sumM_nil,Nat.add_zero];by_cases hk5:(B.get y).Xa=5;·{rw[htC2 y hy (fun q=>hyJ ⟨q,hk5⟩),htx y hyK];exact Nat.le_refl _};·rw[htC y hy,if_neg hk5];exact Nat.zero_le _};·rw[if_neg hyK]at hgy;obtain⟨G,e1,e2,e3⟩:=g2 y hy hgy;refine⟨G,e1,fun z hz=>?_,by rw[htC2 y hy (fun q=>hyK (hsub y q))];exact e3⟩;obtain⟨z1,z2⟩:=e2 z hz;refine⟨z1,?_⟩;rw[if_neg (fun q=>?_)];exact z2;by_cases e:z=y;·{exact hyK (e▸q)};·exact(hgK2 z (fun r=>e (r.symm.trans z2))).1 q
 ·dsimp only at hgy;by_cases hyK:y∈K;·{rw[if_pos hyK]at hgy;cases hl:T.lookup y with|none=>{rw[hl]at hgy;exact absurd rfl hgy}|some f=>rw[htC2 y hy (f1' _ (plk_mem hl)).2.2.1,htx y hyK];exact Nat.le_refl _};·rw[if_neg hyK]at hgy;rw[htC2 y hy (fun q=>hyK (hsub y q))];exact g3 y hy hgy
theorem normT_at {A:Ar}{h:Int}(hI:A.Inv)(hh:A.has h):∀k,k≤((A.join h).below h).length→NormT A (h::((A.join h).below h).take k) ((((A.join h).below h).take k).foldl Ar.join (A.join h))
 |0,_=>(NormT.start hI).step hI hh (by simp)
 |k+1,hk=>by{obtain⟨x,hx⟩:∃x,((A.join h).below h)[k]?=some x:=⟨_,List.getElem?_eq_getElem (by omega)⟩;obtain⟨n1,n2⟩:=Xmi hI hh hx;have:=(normT_at hI hh k (by omega)).step hI n1 n2;rw[List.take_add_one,hx,List.foldl_append];exact this}
theorem normT_call {A:Ar}(hI:A.Inv)(h:Int):∃dn,NormT A dn (A.normalize h).2:=by
 unfold Ar.normalize
 split
 ·rename_i hh;have:=normT_at hI hh ((A.join h).below h).length (Nat.le_refl _);rw[List.take_length]at this;exact⟨_,this⟩
 ·exact⟨[],.start hI⟩
end
end Go.Proofs.YtpicinjcmjaogaaGreatDoor
