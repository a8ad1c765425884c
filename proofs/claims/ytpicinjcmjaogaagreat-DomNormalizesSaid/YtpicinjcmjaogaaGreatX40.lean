import Derived.Test.YtpicinjcmjaogaaGreatX37
import Derived.Test.YtpicinjcmjaogaaGreatX39
set_option maxRecDepth 100000
set_option maxHeartbeats 4000000
set_option linter.unusedVariables false
namespace Go.Proofs.YtpicinjcmjaogaaGreat
section
theorem step_st {A:Ar}(hI:A.Inv)(hT:A.XB 900){x:OpD}(hx:ZC x){n c u:Nat}(hW:Wst A n c u):∃n' u',Wst (A.Xo x).2 n' (c+(if Ji x=true then 1 else 0)) u'∧n'+(c+(if Ji x=true then 1 else 0))+u'≤n+c+u+1:=by
 have hB:=(Xfk hI hT x hx.2.2.2.1).1
 by_cases h31:x.Xa=31
 ·have hc:Ji x=true:=decide_eq_true (.inl h31);have e:(A.Xo x).2=(A.Zx x.a x.Xe).2:=by{simp[Ar.Xo,h31]};rw[if_pos hc];rw[e]at hB⊢;exact⟨n,u,clone_st hI _ _ hB hW,by omega⟩
 by_cases h32:x.Xa=32
 ·have hc:Ji x=true:=decide_eq_true (.inr h32);have e:(A.Xo x).2=(A.Zp A x.a x.b).2:=by{simp[Ar.Xo,h32]};rw[if_pos hc];rw[e]at hB⊢;exact⟨n,u,import_st hI _ _ hB hW,by omega⟩
 have hc:¬Ji x=true:=by unfold Ji;simp[h31,h32]
 rw[if_neg hc,Nat.add_zero]
 by_cases h34:x.Xa=34
 ·have e:(A.Xo x).2=(A.normalize x.a).2:=by{simp[Ar.Xo,h34]};rw[e];obtain⟨dn,hN⟩:=normT_call hI x.a;exact⟨n+1,u,norm_st hI hW hN,by omega⟩
 by_cases h35:x.Xa=35
 ·have e:(A.Xo x).2=(A.split x.a x.b).2:=by{simp[Ar.Xo,h35]};rw[e];exact⟨n+1,u,split_st hI _ _ hW,by omega⟩
 rcases quiet_st hI hW (q_step5 hI hx h31 h32 h34 h35)with q|q
 ·exact⟨n+1,u,q,by omega⟩
 ·exact⟨n,u+1,q,by omega⟩
theorem fold_st :∀(l:List OpD){A:Ar}{t n c u:Nat},A.Inv→A.XB t→20≤t→t+l.length≤900→(∀x∈l,ZC x)→Wst A n c u→∃n' u',Wst (l.foldl (fun A x=>(A.Xo x).2) A) n' (c+cpN l) u'∧n'+(c+cpN l)+u'≤n+c+u+l.length
 | [],A,t,n,c,u,_,_,_,_,_,hW=>⟨n,u,hW,Nat.le_refl _⟩
 |x::l,A,t,n,c,u,hI,hT,ht,hl,hx,hW=>by{have hxs:=hx x (by simp);simp only[List.length_cons]at hl;obtain⟨n1,u1,w1,b1⟩:=step_st hI (hT.mono (by omega)) hxs hW;have f1:=(Xfk hI (hT.mono (by omega)) x hxs.2.2.2.1).1;have f3:=XeG hT x (Nat.le_trans hxs.2.2.2.1 ht);obtain⟨n2,u2,w2,b2⟩:=fold_st l f1 f3 (by omega) (by omega) (fun y hy=>hx y (by simp[hy])) w1;rw[List.foldl_cons,Xfz,List.length_cons];refine⟨n2,u2,?_,by omega⟩;rw[show c+(cpN l+if Ji x=true then 1 else 0)=c+(if Ji x=true then 1 else 0)+cpN l by(omega)];exact w2}
theorem new_st :Wst Ar.new 0 0 0:=by
 refine⟨Nat.le_refl _,fun _=>0,fun _=>0,[0],lab_const _,fun _ _ _ _ _=>rfl,by simp,by simp,fun x hx=>by simp,fun ω _=>⟨[],Bd.nil _ _,⟨fun t h=>(by cases h),fun t h=>(by cases h),fun x hx _=>absurd hx (Xa3 x)⟩⟩⟩
theorem wst_raise {A:Ar}{n c u:Nat}(h:Wst A n c u):∀d,Wst A (n+d) c u
 |0=>h
 |d+1=>wst_up (wst_raise h d)
theorem U_bound :∀u:Nat,u<9→1273*(2^u*U (100-2*u))≤140737488355328*1000^(101-2*u):=by
 decide+kernel
theorem tree_bound {A:Ar}(hI:A.Inv){n c u:Nat}(hW:Wst A n c u){h:Int}(hh:A.has h){Z:List Int}(hZ:Z.Nodup)(hZh:∀x∈Z,x∈A.Xi h):sumM (fun x=>tx (A.get x)) Z*1000^(n+1)≤1273*(2^u*U n):=by
 obtain⟨huc,ρ,σ,Ω,hL,hsub,hne,hlen,hall,hcov⟩:=hW
 obtain⟨T,hB,hC⟩:=hcov (σ h) (hall h hh)
 have hρ:∀x∈Z,ρ x=ρ h:=fun x hx=>lab_walk hI hL h hh x (hZh x hx)
 have hhas:∀x∈Z,A.has x:=fun x hx=>((Jr hI h hh x).1 (hZh x hx)).1
 have h1:sumM (fun x=>tx (A.get x)) Z≤sumM (mT T) Z:=sumM_le (fun x hx=>hC.cov x (hhas x hx) (hsub _ _ (hhas x hx) hh (hρ x hx)))
 rw[mT_sum]at h1
 have h2:∀t∈T,sumM t.m Z*1000^(n+1)≤1273*vT n t:=fun t ht=>by have e1:=(hC.ok t ht).tree (ρ h) hZ hρ;have e2:=hB.1 t ht;unfold vT;have e3:1000^(n+1)=1000^(t.q+t.e+1)*1000^(n-(t.q+t.e)):=by{rw[←Nat.pow_add];congr 1;omega};rw[e3,←Nat.mul_assoc];calc _≤400*1273^(t.q+t.e+1)*1000^(n-(t.q+t.e)):=Nat.mul_le_mul_right _ e1
  _=1273*(400*1273^(t.q+t.e)*1000^(n-(t.q+t.e))):=by{rw[Nat.pow_succ];simp only[Nat.mul_comm,Nat.mul_left_comm]}
 have h3:∀T:List Ty,(∀t∈T,sumM t.m Z*1000^(n+1)≤1273*vT n t)→(T.map (fun t=>sumM t.m Z)).sum*1000^(n+1)≤1273*(T.map (vT n)).sum:=by intro T;induction T with|nil=>{intro _;simp}|cons t T ih=>intro h;rw[List.map_cons,List.map_cons,List.sum_cons,List.sum_cons,Nat.add_mul,Nat.mul_add];exact Nat.add_le_add (h t (by simp)) (ih (fun s hs=>h s (by simp[hs])))
 calc _≤(T.map (fun t=>sumM t.m Z)).sum*1000^(n+1):=Nat.mul_le_mul_right _ h1
  _≤1273*(T.map (vT n)).sum:=h3 T h2
  _≤1273*(2^u*U n):=Nat.mul_le_mul_left _ hB.2
theorem run5_tree {l:List OpD}(hl:l.length≤100)(hx:∀x∈l,ZC x)(hc:cpN l≤8){h:Int}(hh:(Zj l).has h){Z:List Int}(hZ:Z.Nodup)(hZh:∀x∈Z,x∈(Zj l).Xi h):sumM (fun x=>tx ((Zj l).get x)) Z≤140737488355328:=by
 obtain⟨n,u,hW,hb⟩:=fold_st l (A:=Ar.new) (t:=20) Xen (XcY _) (by omega) (by omega) hx new_st
 have hI:=(Xnn hl hx hc).1
 have huc:=hW.1
 have hW2:=wst_raise hW (100-2*u-n)
 rw[show n+(100-2*u-n)=100-2*u by(omega)]at hW2
 have h1:=tree_bound hI hW2 hh hZ hZh
 have h2:=U_bound u (by omega)
 rw[show 100-2*u+1=101-2*u by(omega)]at h1
 exact Nat.le_of_mul_le_mul_right (Nat.le_trans h1 h2) (Nat.pow_pos (by decide))
theorem text_sum (A:Ar):∀l:List Int,(A.Zi l).length=sumM (fun x=>tx (A.get x)) l
 | []=>rfl
 |x::l=>by{have ih:=text_sum A l;unfold Ar.Zi at ih⊢;rw[List.flatMap_cons,List.length_append,ih,sumM_cons];congr 1;unfold tx;split;·{rw[Go.ByteArray.toList_eq];rfl};·rfl}
theorem run5_text {l:List OpD}(hl:l.length≤100)(hx:∀x∈l,ZC x)(hc:cpN l≤8){h:Int}(hh:(Zj l).has h):((Zj l).Zi ((Zj l).below h)).length≤140737488355328:=by
 have hI:=(Xnn hl hx hc).1
 rw[text_sum]
 exact run5_tree hl hx hc hh (List.nodup_cons.1 (Xfn hI hh)).2 (fun x hx=>(Zt hI h hh x hx).2.1)
end
section
/-- No text among the children of p is empty or directly follows a text. -/
def good (B : Ar) (p : Int) : Prop := alt B false (B.get p).Xc ∧ ∀ k ∈ (B.get p).Xc, (B.get k).Xa = 5 → (B.get k).data ≠ ByteArray.empty
theorem jk_full {B:Ar}:∀(l:List Int)(f:Int)(d:ByteArray),∀x∈(jk B f d l).1,(B.get x).Xa=5→(B.get x).data≠ByteArray.empty
 | [],f,d,x,hx,_=>by{simp[jk]at hx}
 |k::l,f,d,x,hx,h5=>by{unfold jk at hx;split at hx;·{rename_i q;rcases List.mem_cons.1 hx with e|e;·{exact absurd (e▸h5) q};·exact jk_full l _ _ x e h5};·split at hx;·{rename_i q;rcases List.mem_cons.1 hx with e|e;·{rw[e];exact q.2};·exact jk_full l _ _ x e h5};·exact jk_full l _ _ x hx h5}
theorem jk_id {B:Ar}:∀(l:List Int)(f:Int)(d:ByteArray),alt B (decide (f≠0)) l→(∀k∈l,k≠0∧((B.get k).Xa=5→(B.get k).data≠ByteArray.empty))→(jk B f d l).1=l∧∀p∈(jk B f d l).2,(p.1=f∧p.2=d)∨p.2=(B.get p.1).data
 | [],f,d,_,_=>by{unfold jk;refine⟨rfl,fun p hp=>?_⟩;split at hp;·{rw[List.mem_singleton.1 hp];exact .inl ⟨rfl,rfl⟩};·cases hp}
 |k::l,f,d,ha,hd=>by{have hd':∀k∈l,k≠0∧((B.get k).Xa=5→(B.get k).data≠ByteArray.empty):=fun x hx=>hd x (by simp[hx]);unfold alt at ha;unfold jk;split;·{rename_i q;rw[if_pos q]at ha;obtain⟨i1,i2⟩:=jk_id l 0 ByteArray.empty (by simpa using ha) hd';refine⟨by rw[i1],fun p hp=>?_⟩;rcases List.mem_append.1 hp with r|r;·{split at r;·{rw[List.mem_singleton.1 r];exact .inl ⟨rfl,rfl⟩};·cases r};·rcases i2 p r with v|v;·{right;rcases JG l 0 ByteArray.empty p r with w|w;·{exact absurd rfl w.2};·exact absurd v.1 (hd' _ w.1).1};·exact .inr v};·rename_i q;rw[if_neg q]at ha;have hf:f=0:=by{simpa using ha.1};have hk:=hd k (by simp);have hq:f=0∧(B.get k).data≠ByteArray.empty:=⟨hf,hk.2 (Classical.not_not.1 q)⟩;rw[if_pos hq];obtain⟨i1,i2⟩:=jk_id l k (B.get k).data (by rw[decide_eq_true hk.1];exact ha.2) hd';refine⟨by rw[i1],fun p hp=>?_⟩;rcases i2 p hp with v|v;·{right;rw[v.1];exact v.2};·exact .inr v}
theorem flat_congr' {α β:Type}{f g:α→List β}:∀{l:List α},(∀x∈l,f x=g x)→l.flatMap f=l.flatMap g
 | [],_=>rfl
 |x::l,h=>by{rw[List.flatMap_cons,List.flatMap_cons,h x (by simp),flat_congr' (fun y hy=>h y (by simp[hy]))]}
theorem bytes_app (a b:ByteArray):(a++b).toList=a.toList++b.toList:=by
 rw[Go.ByteArray.toList_eq,Go.ByteArray.toList_eq,Go.ByteArray.toList_eq,ByteArray.data_append,Array.toList_append]
theorem jk_cat {B:Ar}{T:Int→List UInt8}:∀(l:List Int)(f:Int)(d:ByteArray),l.Nodup→f∉l→(0:Int)∉l→(∀k∈l,(B.get k).Xa=5→T k= [])→∀e:ByteArray,(if f≠0 then(((jk B f d l).2.lookup f).getD e).toList else [])++(jk B f d l).1.flatMap (fun k=>(if(B.get k).Xa=5 then(((jk B f d l).2.lookup k).getD (B.get k).data).toList else [])++T k)=(if f≠0 then d.toList else [])++l.flatMap (fun k=>(if(B.get k).Xa=5 then(B.get k).data.toList else [])++T k)
 | [],f,d,_,_,_,_,e=>by{unfold jk;dsimp only;by_cases hf:f≠0;·{rw[if_pos hf,if_pos hf,if_pos hf,lookup_head];rfl};·simp[hf]}
 |k::l,f,d,hn,hf,h0,hT,e=>by{have hn1:=List.nodup_cons.1 hn;have hfl:f∉l:=fun q=>hf (by simp[q]);have h0l:(0:Int)∉l:=fun q=>h0 (by simp[q]);have hk0:k≠0:=fun q=>h0 (by simp[q]);have hT':∀k∈l,(B.get k).Xa=5→T k= []:=fun x hx=>hT x (by simp[hx]);by_cases q5:(B.get k).Xa≠5;·{have hjk:jk B f d (k::l)=(k::(jk B 0 ByteArray.empty l).1,(if f≠0 then [(f,d)]else [])++(jk B 0 ByteArray.empty l).2):=by{rw[jk,if_pos q5]};rw[hjk];have ih:=jk_cat (B:=B) l 0 ByteArray.empty hn1.2 h0l h0l hT' e;rw[if_neg (fun q=>q rfl),if_neg (fun q=>q rfl),List.nil_append,List.nil_append]at ih;have e1:(if f≠0 then((((if f≠0 then [(f,d)]else [])++(jk B 0 ByteArray.empty l).2).lookup f).getD e).toList else [])=(if f≠0 then d.toList else []):=by{by_cases hf0:f≠0;·{rw[if_pos hf0,if_pos hf0,if_pos hf0,List.singleton_append,lookup_head]};·rw[if_neg hf0,if_neg hf0]};(try dsimp only);rw[e1,List.flatMap_cons,List.flatMap_cons,if_neg q5,if_neg q5,←ih];refine congrArg (fun z=>(if f≠0 then d.toList else [])++([]++T k++z)) (flat_congr' (fun x hx=>?_));rw[lookup_skip (fun q=>hfl (by rw[←q];exact JF l _ _ x hx))]};·have q5':=q5;have q5:=Classical.not_not.1 q5;by_cases q:f=0∧(B.get k).data≠ByteArray.empty;·{have hjk:jk B f d (k::l)=(k::(jk B k (B.get k).data l).1,(jk B k (B.get k).data l).2):=by{rw[jk,if_neg q5',if_pos q]};rw[hjk];have ih:=jk_cat (B:=B) l k (B.get k).data hn1.2 hn1.1 h0l hT' (B.get k).data;rw[if_pos hk0,if_pos hk0]at ih;(try dsimp only);rw[if_neg (fun r=>r q.1),if_neg (fun r=>r q.1),List.flatMap_cons,List.flatMap_cons,if_pos q5,if_pos q5,hT k (by simp) q5,List.append_nil,List.append_nil,List.nil_append,List.nil_append];exact ih};·have hjk:jk B f d (k::l)=jk B f (d++(B.get k).data) l:=by{rw[jk,if_neg q5',if_neg q]};rw[hjk];have ih:=jk_cat (B:=B) l f (d++(B.get k).data) hn1.2 hfl h0l hT' e;rw[ih,List.flatMap_cons,if_pos q5,hT k (by simp) q5,List.append_nil];by_cases hf0:f≠0;·{rw[if_pos hf0,if_pos hf0,bytes_app,List.append_assoc]};·rw[if_neg hf0,if_neg hf0];have:(B.get k).data=ByteArray.empty:=Classical.byContradiction (fun r=>q ⟨Classical.not_not.1 hf0,r⟩);rw[this,show ByteArray.empty.toList= []by(rw[Go.ByteArray.toList_eq];rfl),List.nil_append,List.nil_append]}
end
section
theorem ar_extD {A B:Ar}(h1:A.ns.length=B.ns.length)(h2:A.Xh=B.Xh)(h3:∀x,A.has x→A.get x=B.get x):A=B:=by
 obtain⟨na,ia⟩:=A
 obtain⟨nb,ib⟩:=B
 dsimp only at h1 h2
 subst h2
 congr 1
 refine List.ext_getElem h1 (fun i hi hj=>?_)
 have hx:Ar.has ⟨na,ia⟩ ((i:Int)+1):=⟨by omega,by show(i:Int)+1≤(na.length:Int);omega⟩
 have:=h3 _ hx
 unfold Ar.get at this
 rw[show((i:Int)+1).toNat-1=i by(omega)]at this
 simpa[hi,hj]using this
theorem kids_facts {A:Ar}(hI:A.Inv){x:Int}(hx:A.has x):(A.get x).Xc.Nodup∧(0:Int)∉(A.get x).Xc∧∀k∈(A.get x).Xc,A.has k∧(A.get k).Xd=x:=⟨hI.wf.nodup x hx,fun q=>Za _ (hI.wf.Xc x hx 0 q).1,fun k hk=>hI.wf.Xc x hx k hk⟩
theorem join_good {B:Ar}(hI:B.Inv){x:Int}(hx:B.has x)(hg:good B x):B.join x=B:=by
 obtain⟨r1,r2,r3,r4⟩:=Xav hI hx
 obtain⟨k1,k2,k3⟩:=kids_facts hI hx
 obtain⟨i1,i2⟩:=jk_id (B:=B) (B.get x).Xc 0 ByteArray.empty (by simpa using hg.1) (fun k hk=>⟨fun e=>k2 (e▸hk),hg.2 k hk⟩)
 have i3:∀p∈(jk B 0 ByteArray.empty (B.get x).Xc).2,p.2=(B.get p.1).data:=fun p hp=>by rcases i2 p hp with v|v;·{rcases JG _ 0 ByteArray.empty p hp with w|w;·{exact absurd rfl w.2};·exact absurd (v.1▸w.1) k2};·exact v
 refine ar_extD r2 r3 (fun y hy=>?_)
 have hyB:B.has y:=by unfold Ar.has Ar.n at hy⊢;rw[←r2];exact hy
 rw[r4 y hyB,i1]
 have hl:∀L:List (Int×ByteArray),(∀p∈L,p.2=(B.get p.1).data)→(L.lookup y).getD (B.get y).data=(B.get y).data:=by intro L;induction L with|nil=>{intro _;rfl}|cons p L ih=>intro h;obtain⟨a,b⟩:=p;by_cases e:y=a;·{subst e;rw[lookup_head];exact h (y,b) (by simp)};·have:(y==a)=false:=by{simpa using e};simp only[List.lookup,this];exact ih (fun p hp=>h p (by simp[hp]))
 rw[hl _ i3,show(if y∈(B.get x).Xc∧(B.get y).Xa=5∧y∉(B.get x).Xc then 0 else(B.get y).Xd)=(B.get y).Xd from if_neg (fun q=>q.2.2 q.1)]
 show(B.get y).re3 (if y=x then(B.get x).Xc else(B.get y).Xc) (B.get y).Xd (B.get y).data=_
 split
 ·rename_i e;rw[e];rfl
 ·rfl
structure NL (A : Ar) (R : Int → Prop) (dn : List Int) (B : Ar) : Prop where
  base : ZA A dn B
  Xh : B.Xh = A.Xh
  Xa : ∀ y, A.has y → (B.get y).Xa = (A.get y).Xa ∧ ((A.get y).Xa ≠ 5 → (B.get y).data = (A.get y).data)
  sub : ∀ y, A.has y → ∀ k ∈ (B.get y).Xc, k ∈ (A.get y).Xc
  text : ∀ y, A.has y → B.Zi (B.below y) = A.Zi (A.below y)
  good : ∀ p ∈ dn, A.has p ∧ good B p
  out : ∀ k, A.has k → ¬ R k → B.get k = A.get k
theorem textOf_flat (A:Ar)(K:List Int)(f:Int→List Int):A.Zi (K.flatMap (fun k=>k::f k))=K.flatMap (fun k=>(if(A.get k).Xa=5 then(A.get k).data.toList else [])++A.Zi (f k)):=by
 unfold Ar.Zi
 rw[List.flatMap_assoc]
 exact flat_congr' (fun x hx=>List.flatMap_cons)
theorem below_text {A:Ar}(hI:A.Inv){y:Int}(hy:A.has y):A.Zi (A.below y)=(A.get y).Xc.flatMap (fun k=>(if(A.get k).Xa=5 then(A.get k).data.toList else [])++A.Zi (A.below k)):=by
 rw[ZD hI hy,textOf_flat]
theorem text_nil {A:Ar}(hI:A.Inv){y:Int}(hy:A.has y)(h5:(A.get y).Xa=5):A.Zi (A.below y)= []:=by
 have:(A.get y).Xc= []:=Classical.byContradiction (fun q=>by have:=hI.ZB y hy q;rw[h5]at this;rcases this with e|e|e<;>cases e)
 rw[below_text hI hy,this]
 rfl
theorem NL.start {A:Ar}(hI:A.Inv)(R:Int→Prop):NL A R [] A:=⟨.start hI,rfl,fun y _=>⟨rfl,fun _=>rfl⟩,fun y _ k h=>h,fun y _=>rfl,fun p h=>(by cases h),fun k _ _=>rfl⟩
theorem NL.step {A B:Ar}{R:Int→Prop}{dn:List Int}(h:NL A R dn B)(hI:A.Inv){x:Int}(hx:A.has x)(hxd:x∉dn)(hR:R x∧∀k∈(A.get x).Xc,R k):NL A R (dn++ [x]) (B.join x):=by
 have hbase:=h.base.step hI hx
 have hxB:=h.base.has hx
 have hBI:=h.base.inv
 obtain⟨r1,r2,r3,r4⟩:=Xav hBI hxB
 obtain⟨k1,k2,k3⟩:=kids_facts hBI hxB
 have hkx:=(h.base.Xc x hx hxd).1
 obtain⟨f1,f2,-⟩:=jt_facts (B:=B) (B.get x).Xc 0 ByteArray.empty k1 k2 k2
 obtain⟨-,s2⟩:=jk_size (B:=B) (B.get x).Xc 0 ByteArray.empty k1 k2 k2
 have hsub:=JF (B:=B) (B.get x).Xc 0 ByteArray.empty
 have hfull:=jk_full (B:=B) (B.get x).Xc 0 ByteArray.empty
 have halt:=Xdn (A:=B) (B.get x).Xc 0 ByteArray.empty (fun k hk e=>k2 (e▸hk))
 have hcat:=fun T h=>jk_cat (B:=B) (T:=T) (B.get x).Xc 0 ByteArray.empty k1 k2 k2 h ByteArray.empty
 have hkeys:=JG (B:=B) (B.get x).Xc 0 ByteArray.empty
 obtain⟨J,hJ⟩:∃J,J=jk B 0 ByteArray.empty (B.get x).Xc:=⟨_,rfl⟩
 rw[←hJ]at f2 s2 r4 hsub hfull halt hcat hkeys
 have hC:=fun y(hy:A.has y)=>r4 y (h.base.has hy)
 have hkindC:∀y,A.has y→((B.join x).get y).Xa=(B.get y).Xa:=fun y hy=>by rw[hC y hy];rfl
 have hkidsC:∀y,A.has y→((B.join x).get y).Xc=if y=x then J.1 else(B.get y).Xc:=fun y hy=>by rw[hC y hy];rfl
 have hdataC:∀y,A.has y→((B.join x).get y).data=(J.2.lookup y).getD (B.get y).data:=fun y hy=>by rw[hC y hy];rfl
 have hno:∀y,y∉(B.get x).Xc→J.2.lookup y=none:=fun y hy=>Jy (fun p hp e=>by rcases hkeys p hp with w|w;·{exact absurd rfl w.2};·exact hy (e▸w.1))
 have hdata5:∀y,A.has y→(B.get y).Xa≠5→((B.join x).get y).data=(B.get y).data:=fun y hy h5=>by rw[hdataC y hy,Jy (fun p hp e=>by rcases hkeys p hp with w|w;·{exact absurd rfl w.2};·exact h5 (e▸w.2))];rfl
 have hdataK:∀y,A.has y→y∉(B.get x).Xc→((B.join x).get y).data=(B.get y).data:=fun y hy hn=>by rw[hdataC y hy,hno y hn];rfl
 have hother:∀y,A.has y→y≠x→∀k∈(B.get y).Xc,k∉(B.get x).Xc:=fun y hy hyx k hk hk2=>by have e1:=((kids_facts hBI (h.base.has hy)).2.2 k hk).2;have e2:=(k3 k hk2).2;exact hyx (e1.symm.trans e2)
 have hkidA:∀y,A.has y→∀k∈(B.get y).Xc,A.has k:=fun y hy k hk=>h.base.XhO ((kids_facts hBI (h.base.has hy)).2.2 k hk).1
 have htext:∀y,(B.join x).has y→A.has y→(B.join x).Zi ((B.join x).below y)=B.Zi (B.below y):=by refine Jc r1 (fun y hyC _ ih hy=>?_);have hyB:=h.base.has hy;rw[below_text r1 hyC,below_text hBI hyB];by_cases e:y=x;·{subst e;have hc:=hcat (fun k=>B.Zi (B.below k)) (fun k hk h5=>text_nil hBI (k3 k hk).1 h5);rw[if_neg (fun q=>q rfl),if_neg (fun q=>q rfl),List.nil_append,List.nil_append]at hc;rw[←hc,hkidsC y hy,if_pos rfl];refine flat_congr' (fun k hk=>?_);have hkA:=hkidA y hy k (hsub k hk);rw[hkindC k hkA,hdataC k hkA,ih k (by rw[hkidsC y hy,if_pos rfl];exact hk) hkA]};·have e1:((B.join x).get y).Xc=(B.get y).Xc:=by{rw[hkidsC y hy,if_neg e]};rw[e1];refine flat_congr' (fun k hk=>?_);have hkA:=hkidA y hy k hk;rw[hkindC k hkA,hdataK k hkA (hother y hy e k hk),ih k (by rw[e1];exact hk) hkA]
 have hasC:∀y,A.has y→(B.join x).has y:=fun y hy=>hbase.has hy
 refine⟨hbase,r3.trans h.Xh,fun y hy=>?_,fun y hy k hk=>?_,fun y hy=>(htext y (hasC y hy) hy).trans (h.text y hy),fun p hp=>?_,fun k hk hRk=>?_⟩
 ·obtain⟨a1,a2⟩:=h.Xa y hy;refine⟨(hkindC y hy).trans a1,fun h5=>?_⟩;rw[hdata5 y hy (by rw[a1];exact h5)];exact a2 h5
 ·rw[hkidsC y hy]at hk;split at hk;·{rename_i e;subst e;exact h.sub y hy k (hsub k hk)};·exact h.sub y hy k hk
 ·rcases List.mem_append.1 hp with q|q;·{obtain⟨a1,a2,a3⟩:=h.good p q;have hpx:p≠x:=fun e=>hxd (e▸q);have e1:((B.join x).get p).Xc=(B.get p).Xc:=by{rw[hkidsC p a1,if_neg hpx]};refine⟨a1,?_,fun k hk h5=>?_⟩;·{rw[e1];exact Xfi false (fun k hk=>hkindC k (hkidA p a1 k hk)) a2};·rw[e1]at hk;have hkA:=hkidA p a1 k hk;rw[hkindC k hkA]at h5;rw[hdataK k hkA (hother p a1 hpx k hk)];exact a3 k hk h5};·obtain rfl:p=x:=List.mem_singleton.1 q;have e1:((B.join p).get p).Xc=J.1:=by{rw[hkidsC p hx,if_pos rfl]};refine⟨hx,?_,fun k hk h5=>?_⟩;·{rw[e1];exact Xfi false (fun k hk=>hkindC k (hkidA p hx k (hsub k hk))) (by simpa using halt)};·rw[e1]at hk;have hkA:=hkidA p hx k (hsub k hk);rw[hkindC k hkA]at h5;rw[hdataC k hkA];intro e;have:=s2 k hk h5;rw[e]at this;have h0:=hfull k hk h5;have h1:tx (B.get k)=0:=by{have:(0:Nat)=tx (B.get k)+_:=this;omega};rw[tx5 h5]at h1;exact h0 (Xfh.1 h1)
 ·have hkx2:k≠x:=fun e=>hRk (e▸hR.1);have hkk:k∉(B.get x).Xc:=fun q=>hRk (hR.2 k (h.sub x hx k q));rw[←h.out k hk hRk,hC k hk,if_neg hkx2,if_neg (fun q=>hkk q.1),hno k hkk];rfl
end
end Go.Proofs.YtpicinjcmjaogaaGreat
