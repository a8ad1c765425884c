import Derived.Test.YtpicinjcmjaogaaGreatX36
set_option maxRecDepth 100000
set_option maxHeartbeats 4000000
set_option linter.unusedVariables false
namespace Go.Proofs.YtpicinjcmjaogaaGreat
section
theorem lab_mod {ρ:Int→Int}{A:Ar}(h:Lab ρ A)(x:Int){f:Nd→Nd}(h1:∀n,(f n).host=n.host)(h2:∀n,(f n).Xd=n.Xd):Lab ρ (A.mod x f):=by
 intro i n hi
 have hg:(A.mod x f).ns[i]?=if x.toNat-1=i then A.ns[i]?.map f else A.ns[i]?:=by show(A.ns.modify (x.toNat-1) f)[i]?=_;rw[List.getElem?_modify];split<;>simp_all
 rw[hg]at hi
 split at hi
 ·cases hq:A.ns[i]? with|none=>{rw[hq]at hi;simp at hi}|some m=>rw[hq]at hi;obtain rfl:f m=n:=by{simpa using hi};rw[h1,h2];exact h i m hq
 ·exact h i n hi
theorem lab_add {ρ:Int→Int}{A:Ar}(h:Lab ρ A){n:Nd}(h1:n.Xd=0)(h2:n.host=0):Lab ρ (A.add n):=by
 intro i m hi
 have hi:(A.ns++ [n])[i]?=some m:=hi
 by_cases e:i<A.ns.length
 ·rw[List.getElem?_append_left e]at hi;exact h i m hi
 ·rw[List.getElem?_append_right (by omega)]at hi;have:m=n:=by{rcases Nat.eq_zero_or_pos (i-A.ns.length)with q|q;·{rw[q]at hi;simpa using hi.symm};·rw[List.getElem?_eq_none (by simp;omega)]at hi;cases hi};subst this;exact⟨fun q=>absurd h1 q,fun q=>absurd h2 q⟩
theorem lab_setData {ρ:Int→Int}{A:Ar}(h:Lab ρ A)(x:Int)(s:ByteArray):Lab ρ (A.XG x s).2:=by
 unfold Ar.XG
 repeat' split
 all_goals first|(exact h)|exact lab_mod h x (fun _=>rfl) (fun _=>rfl)
theorem lab_const (A:Ar):Lab (fun _=>0) A:=fun i n _=>⟨fun _=>rfl,fun _=>rfl⟩
/-- A text is split in two. -/
structure SpT (A A' : Ar) (h z : Int) : Prop where
  has : A.has h
  new : ¬ A.has z
  zhas : A'.has z
  all : ∀ x, A'.has x ↔ A.has x ∨ x = z
  lab : ∀ ρ : Int → Int, Lab ρ A → ρ z = ρ h → Lab ρ A'
  keep : ∀ x, A.has x → x ≠ h → tx (A'.get x) ≤ tx (A.get x)
  two : tx (A'.get h) + tx (A'.get z) ≤ tx (A.get h)
theorem split_cases {A:Ar}(hI:A.Inv)(h at':Int):(A.split h at').2=A∨SpT A (A.split h at').2 h (A.n+1):=by
 unfold Ar.split
 split
 ·exact .inl rfl
 ·rename_i hh;have hh:=Classical.not_not.1 hh;split;·{exact .inl rfl};·rename_i hk;have hk:=Classical.not_not.1 hk;split;·{exact .inl rfl};·right;have hd:=hI.ZV h hh;have he:=J6 hd.1 hd.2;rw[Xb7 _ he];dsimp only;obtain⟨s1,hs1⟩:∃s:ByteArray,s=⟨((A.get h).data.toList.take at'.toNat).toArray⟩:=⟨_,rfl⟩;obtain⟨s2,hs2⟩:∃s:ByteArray,s=⟨((A.get h).data.toList.drop at'.toNat).toArray⟩:=⟨_,rfl⟩;have hsz:s1.size+s2.size=(A.get h).data.size:=by{rw[hs1,hs2];exact Xm6 _ _};rw[←hs1,←hs2];obtain⟨nd,hnd⟩:∃nd:Nd,nd={Xs s2 with doc:=(A.get h).doc}:=⟨_,rfl⟩;rw[←hnd];have hnp:nd.Xd=0:=by{rw[hnd];rfl};have hnh:nd.host=0:=by{rw[hnd];rfl};have hnk:nd.Xa=5:=by{rw[hnd];rfl};have hnt:nd.data=s2:=by{rw[hnd];rfl};clear hnd;have hz:=Ar.Xba A;have hne:A.n+1≠h:=fun e=>hz (e▸hh);have a1:(A.add nd).has h:=(Ar.XO _ _ _).2 (.inl hh);have a2:(A.add nd).has (A.n+1):=(Ar.XO _ _ _).2 (.inr rfl);have a3:((A.add nd).get h).Xa=5:=by{rw[Ar.Zb nd hh];exact hk};obtain⟨B,hB⟩:∃B,B=((A.add nd).XG h s1).2:=⟨_,rfl⟩;rw[←hB];have b1:∀x,B.has x↔A.has x∨x=A.n+1:=fun x=>by{rw[hB,Xhi,Ar.XO]};have b2:tx (B.get h)=s1.size:=by{rw[hB,Xe1 a1 a3 a1,tx5 (by exact a3)];show(if h=h then s1 else _).size=_;rw[if_pos rfl]};have b3:tx (B.get (A.n+1))=s2.size:=by{rw[hB,Xe1 a1 a3 a2,Ar.YS,tx5 (by exact hnk)];show(if A.n+1=h then s1 else nd.data).size=_;rw[if_neg hne,hnt]};have b4:∀x,A.has x→x≠h→tx (B.get x)=tx (A.get x):=fun x hx hxh=>by{rw[hB,Xe1 a1 a3 ((Ar.XO _ _ _).2 (.inl hx)),Ar.Zb nd hx,if_neg hxh];rfl};have b5:∀ρ:Int→Int,Lab ρ A→Lab ρ B:=fun ρ hL=>by{rw[hB];exact lab_setData (lab_add hL hnp hnh) _ _};clear hB;have hth:tx (A.get h)=(A.get h).data.size:=tx5 hk;split;·{rename_i hp;obtain⟨P,hP⟩:∃P,P=(B.put (A.get h).Xd (A.n+1) (B.next h)).2:=⟨_,rfl⟩;have k:=kp_put (z:=0) (lab_const B) (p:=(A.get h).Xd) (x:=A.n+1) (B.next h) (fun _=>rfl);rw[←hP]at k⊢;have kk:∀x,B.has x→P.has x∧tx (P.get x)≤tx (B.get x):=fun x hx=>by{obtain⟨q1,q2⟩:=k.has hx;refine⟨q1,q2.resolve_right (fun q=>?_)⟩;rw[q.1]at hx;exact Za _ hx};have hall:∀x,P.has x↔B.has x:=fun x=>by{have e1:=(JO B (A.get h).Xd (A.n+1) (B.next h)).2;rw[←hP]at e1;unfold Ar.has Ar.n;rw[e1]};refine⟨hh,hz,(kk _ ((b1 _).2 (.inr rfl))).1,fun x=>(hall x).trans (b1 x),fun ρ hL e=>?_,fun x hx hxh=>?_,?_⟩;·{rw[hP];exact(kp_put (z:=0) (b5 ρ hL) (B.next h) (fun _=>e.trans (lab_parent hL hh hp).symm)).lab};·{rw[←b4 x hx hxh];exact(kk x ((b1 x).2 (.inl hx))).2};·have e1:=(kk h ((b1 h).2 (.inl hh))).2;have e2:=(kk _ ((b1 (A.n+1)).2 (.inr rfl))).2;omega};·exact⟨hh,hz,(b1 _).2 (.inr rfl),b1,fun ρ hL _=>b5 ρ hL,fun x hx hxh=>Nat.le_of_eq (b4 x hx hxh),by omega⟩
theorem sumM_erase {m:Int→Nat}{z:Int}:∀{X:List Int},z∈X→sumM m X=m z+sumM m (X.erase z)
 | [],h=>by{cases h}
 |x::X,h=>by{by_cases e:x=z;·{subst e;rw[sumM_cons,List.erase_cons_head]};·have hz:z∈X:=(List.mem_cons.1 h).resolve_left (fun q=>e q.symm);rw[sumM_cons,sumM_erase hz,List.erase_cons_tail (by simpa using e),sumM_cons];omega}
theorem sp_types {A:Ar}{ρ ρ':Int→Int}{h z:Int}(hhz:h≠z)(he:∀x,x≠z→ρ' x=ρ x)(hz:ρ' z=ρ h):∀(T:List Ty)(a b:Nat),(∀t∈T,t.OK ρ)→(∀t∈T,z∉t.S)→a+b≤mT T h→∃T',Grew T T'∧(∀t∈T',t.OK ρ')∧(∀t'∈T',∀x∈t'.S,∃t∈T,x∈t.S∨(x=z∧h∈t.S))∧(∀x,x≠h→x≠z→mT T' x=mT T x)∧a≤mT T' h∧b≤mT T' z
 | [],a,b,_,_,hab=>by{have hab:a+b≤0:=hab;exact⟨[],.nil,fun t h=>(by cases h),fun t h=>(by cases h),fun _ _ _=>rfl,by omega,by omega⟩}
 |t::T,a,b,hT,hzS,hab=>by{have hab:a+b≤t.m h+mT T h:=hab;obtain⟨u,hu⟩:∃u,u=min a (t.m h):=⟨_,rfl⟩;obtain⟨v,hv⟩:∃v,v=min b (t.m h-u):=⟨_,rfl⟩;have ht:=hT t (by simp);have hzt:=hzS t (by simp);obtain⟨T',a1,a2,a3,a4,a5,a6⟩:=sp_types (A:=A) hhz he hz T (a-u) (b-v) (fun s hs=>hT s (by simp[hs])) (fun s hs=>hzS s (by simp[hs])) (by omega);have hsame:∀x∈t.S,ρ' x=ρ x:=fun x hx=>he x (fun e=>hzt (e▸hx));refine⟨⟨fun x=>if x=h then u else if x=z then v else t.m x,if h∈t.S then z::t.S else t.S,t.q+1,t.e⟩::T',.cons (by show t.q+1+t.e=_;omega) a1,fun s hs=>?_,fun s hs x hx=>?_,fun x hx1 hx2=>?_,?_,?_⟩;·{rcases List.mem_cons.1 hs with e|e;·{subst e;by_cases hS:h∈t.S;·{rw[if_pos hS];refine⟨List.nodup_cons.2 ⟨hzt,ht.nd⟩,?_,fun x hx=>?_,fun X hX hXS=>?_⟩;·{show(z::t.S).length≤t.q+1+(labs ρ' (z::t.S)).length;have:labs ρ' (z::t.S)=labs ρ' t.S:=by{show(if ρ' z∈t.S.map ρ' then labs ρ' t.S else _)=_;rw[if_pos (List.mem_map.2 ⟨h,hS,by rw[hsame h hS,hz]⟩)]};rw[this,labs_congr hsame,List.length_cons];have:=ht.pend;omega};·{show(if x=h then u else if x=z then v else t.m x)=0;have hx1:x≠z:=fun e=>hx (by rw[e];simp);have hx2:x∉t.S:=fun e=>hx (by simp[e]);rw[if_neg (fun e=>hx2 (by rw[e];exact hS)),if_neg hx1];exact ht.out x hx2};·show sumM (fun x=>if x=h then u else if x=z then v else t.m x) X*1000^(t.e+1)≤cc X.length*400*1273^t.e;have hle:∀Y:List Int,z∉Y→sumM (fun x=>if x=h then u else if x=z then v else t.m x) Y≤sumM t.m Y:=fun Y hY=>sumM_le (fun x hx=>by(try dsimp only);split;·{rename_i e;rw[e];omega};·rw[if_neg (fun e:x=z=>hY (by rw[←e];exact hx))];exact Nat.le_refl _);have hXS2:∀x∈X,x≠z→x∈t.S:=fun x hx e=>(List.mem_cons.1 (hXS x hx)).resolve_left e;by_cases hzX:z∈X;·{obtain⟨Y,hY⟩:∃Y,Y=X.erase z:=⟨_,rfl⟩;have hYn:Y.Nodup:=by{rw[hY];exact hX.erase z};have hYm:∀x,x∈Y↔x≠z∧x∈X:=fun x=>by{rw[hY];exact List.Nodup.mem_erase_iff hX};have hYl:Y.length+1=X.length:=by{rw[hY,List.length_erase_of_mem hzX];have:=List.length_pos_of_mem hzX;omega};have hYz:z∉Y:=fun q=>((hYm z).1 q).1 rfl;have hYS:∀x∈Y,x∈t.S:=fun x hx=>hXS2 x ((hYm x).1 hx).2 ((hYm x).1 hx).1;have e1:sumM (fun x=>if x=h then u else if x=z then v else t.m x) X=v+sumM (fun x=>if x=h then u else if x=z then v else t.m x) Y:=by{rw[sumM_erase hzX,←hY,if_neg (Ne.symm hhz),if_pos rfl]};by_cases hhY:h∈Y;·{have e2:sumM (fun x=>if x=h then u else if x=z then v else t.m x) Y+v≤sumM t.m Y:=by{rw[sumM_erase hhY,sumM_erase (m:=t.m) hhY,if_pos rfl];have:=hle (Y.erase h) (fun q=>hYz (List.mem_of_mem_erase q));omega};have:=ht.sum Y hYn hYS;exact Nat.le_trans (Nat.mul_le_mul_right _ (show _≤sumM t.m Y by omega)) (Nat.le_trans this (Nat.mul_le_mul_right _ (Nat.mul_le_mul_right _ (cc_mono (by omega)))))};·have:=ht.sum (h::Y) (List.nodup_cons.2 ⟨hhY,hYn⟩) (fun x hx=>by rcases List.mem_cons.1 hx with e|e;·{rw[e];exact hS};·exact hYS x e);rw[sumM_cons,List.length_cons,hYl]at this;have e3:=hle Y hYz;exact Nat.le_trans (Nat.mul_le_mul_right _ (show _≤t.m h+sumM t.m Y by omega)) this};·have:=ht.sum X hX (fun x hx=>hXS2 x hx (fun e=>hzX (e▸hx)));exact Nat.le_trans (Nat.mul_le_mul_right _ (hle X hzX)) this};·rw[if_neg hS];have hm0:t.m h=0:=ht.out h hS;have hsm:∀x,x∈t.S→(if x=h then u else if x=z then v else t.m x)=t.m x:=fun x hx=>by{rw[if_neg (fun e:x=h=>hS (by rw[←e];exact hx)),if_neg (fun e:x=z=>hzt (by rw[←e];exact hx))]};refine⟨ht.nd,?_,fun x hx=>?_,fun X hX hXS=>?_⟩;·{show t.S.length≤t.q+1+(labs ρ' t.S).length;rw[labs_congr hsame];have:=ht.pend;omega};·{show(if x=h then u else if x=z then v else t.m x)=0;have:=ht.out x hx;split;·{omega};·split;·{omega};·exact this};·show sumM (fun x=>if x=h then u else if x=z then v else t.m x) X*_≤_;rw[sumM_congr (m':=t.m) (fun x hx=>hsm x (hXS x hx))];exact ht.sum X hX hXS};·exact a2 s e};·{rcases List.mem_cons.1 hs with e|e;·{subst e;refine⟨t,by simp,?_⟩;dsimp only at hx;split at hx;·{rename_i hS;rcases List.mem_cons.1 hx with q|q;·{exact .inr ⟨q,hS⟩};·exact .inl q};·exact .inl hx};·obtain⟨r,hr,q⟩:=a3 s e x hx;exact⟨r,by simp[hr],q⟩};·{show(if x=h then u else if x=z then v else t.m x)+mT T' x=t.m x+mT T x;rw[if_neg hx1,if_neg hx2,a4 x hx1 hx2]};·{show a≤(if h=h then u else if h=z then v else t.m h)+mT T' h;rw[if_pos rfl];omega};·show b≤(if z=h then u else if z=z then v else t.m z)+mT T' z;rw[if_neg (Ne.symm hhz),if_pos rfl];omega}
theorem wst_up {A:Ar}{n c u:Nat}(h:Wst A n c u):Wst A (n+1) c u:=by
 obtain⟨h1,ρ,σ,Ω,h2,h3,h4,h5,h6,h7⟩:=h
 refine⟨h1,ρ,σ,Ω,h2,h3,h4,h5,h6,fun ω hω=>?_⟩
 obtain⟨T,q1,q2⟩:=h7 ω hω
 exact⟨T,q1.up,q2⟩
theorem sp_st {A A':Ar}{h z:Int}{n c u:Nat}(hI:A.Inv)(hW:Wst A n c u)(hS:SpT A A' h z):Wst A' (n+1) c u:=by
 obtain⟨huc,ρ,σ,Ω,hL,hsub,hne,hlen,hall,hcov⟩:=hW
 obtain⟨hh,hz,hz',hx',hlab,hkeep,htwo⟩:=hS
 have hhz:h≠z:=fun e=>hz (e▸hh)
 have hxz:∀x,A.has x→x≠z:=fun x hx e=>hz (e▸hx)
 obtain⟨ρ1,hρ1⟩:∃r:Int→Int,r=fun x=>if x=z then ρ h else ρ x:=⟨_,rfl⟩
 obtain⟨σ1,hσ1⟩:∃r:Int→Int,r=fun x=>if x=z then σ h else σ x:=⟨_,rfl⟩
 have r1:∀x,x≠z→ρ1 x=ρ x:=fun x hx=>by rw[hρ1];exact if_neg hx
 have r2:ρ1 z=ρ h:=by rw[hρ1];exact if_pos rfl
 have s1:∀x,x≠z→σ1 x=σ x:=fun x hx=>by rw[hσ1];exact if_neg hx
 have s2:σ1 z=σ h:=by rw[hσ1];exact if_pos rfl
 refine⟨huc,ρ1,σ1,Ω,hlab ρ1 (lab_link hI hL (fun x y hx hy e=>by rw[r1 x (hxz x hx),r1 y (hxz y hy),e])) (by rw[r2,r1 h hhz]),fun x y hx hy e=>?_,hne,hlen,fun x hx=>?_,fun ω hω=>?_⟩
 ·rcases(hx' x).1 hx with ax|ax;·{rcases(hx' y).1 hy with ay|ay;·{rw[r1 x (hxz x ax),r1 y (hxz y ay)]at e;rw[s1 x (hxz x ax),s1 y (hxz y ay)];exact hsub x y ax ay e};·rw[ay,r2,r1 x (hxz x ax)]at e;rw[ay,s2,s1 x (hxz x ax)];exact hsub x h ax hh e};·rcases(hx' y).1 hy with ay|ay;·{rw[ax,r2,r1 y (hxz y ay)]at e;rw[ax,s2,s1 y (hxz y ay)];exact hsub h y hh ay e};·rw[ax,ay]
 ·rcases(hx' x).1 hx with ax|ax;·{rw[s1 x (hxz x ax)];exact hall x ax};·rw[ax,s2];exact hall h hh
 ·obtain⟨T,hB,hC⟩:=hcov ω hω;have hzS:∀t∈T,z∉t.S:=fun t ht q=>hz (hC.sup t ht z q).1;by_cases e:σ h=ω;·{obtain⟨T',a1,a2,a3,a4,a5,a6⟩:=sp_types (A:=A) (ρ:=ρ) (ρ':=ρ1) hhz r1 r2 T (tx (A'.get h)) (tx (A'.get z)) hC.ok hzS (Nat.le_trans htwo (hC.cov h hh e));refine⟨T',hB.grown a1,⟨a2,fun t' ht' x hx=>?_,fun x hx hx2=>?_⟩⟩;·{obtain⟨t,ht,q⟩:=a3 t' ht' x hx;rcases q with q|⟨q,-⟩;·{obtain⟨v1,v2⟩:=hC.sup t ht x q;exact⟨(hx' x).2 (.inl v1),by rw[s1 x (hxz x v1)];exact v2⟩};·rw[q];exact⟨hz',by rw[s2];exact e⟩};·rcases(hx' x).1 hx with ax|ax;·{by_cases q:x=h;·{rw[q];exact a5};·rw[a4 x q (hxz x ax)];rw[s1 x (hxz x ax)]at hx2;exact Nat.le_trans (hkeep x ax q) (hC.cov x ax hx2)};·rw[ax];exact a6};·refine⟨T,hB.up,⟨fun t ht=>(hC.ok t ht).same (fun x hx=>r1 x (fun q=>hzS t ht (q▸hx))),fun t ht x hx=>?_,fun x hx hx2=>?_⟩⟩;·{obtain⟨v1,v2⟩:=hC.sup t ht x hx;exact⟨(hx' x).2 (.inl v1),by rw[s1 x (hxz x v1)];exact v2⟩};·rcases(hx' x).1 hx with ax|ax;·{rw[s1 x (hxz x ax)]at hx2;by_cases q:x=h;·{rw[q]at hx2;exact absurd hx2 e};·exact Nat.le_trans (hkeep x ax q) (hC.cov x ax hx2)};·rw[ax,s2]at hx2;exact absurd hx2 e
theorem split_st {A:Ar}(hI:A.Inv)(h at':Int){n c u:Nat}(hW:Wst A n c u):Wst (A.split h at').2 (n+1) c u:=by
 rcases split_cases hI h at' with q|q
 ·rw[q];exact wst_up hW
 ·exact sp_st hI hW q
end
end Go.Proofs.YtpicinjcmjaogaaGreat
