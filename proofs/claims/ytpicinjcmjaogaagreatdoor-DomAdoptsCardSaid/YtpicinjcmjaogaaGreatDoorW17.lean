import Derived.Test.YtpicinjcmjaogaaGreatDoorW16
set_option maxRecDepth 100000
set_option maxHeartbeats 4000000
set_option linter.unusedVariables false
namespace Go.Proofs.YtpicinjcmjaogaaGreatDoor
section
theorem Ty.OK.relab {ρ ρ':Int→Int}{t:Ty}(h:t.OK ρ)(he:∀x∈t.S,∀y∈t.S,ρ' x=ρ' y→ρ x=ρ y):t.OK ρ':=by
 refine⟨h.nd,?_,h.out,h.sum⟩
 have:(labs ρ t.S).length≤(labs ρ' t.S).length:=pigeonF (f:=fun z=>match t.S.find? (fun y=>decide (ρ' y=z))with|some y=>ρ y|none=>0) (labs_nodup _) (fun z hz=>by obtain⟨x,hx,e⟩:=List.mem_map.1 (labs_mem.1 hz);refine⟨ρ' x,labs_mem.2 (List.mem_map.2 ⟨x,hx,rfl⟩),?_⟩;cases hf:t.S.find? (fun y=>decide (ρ' y=ρ' x))with|none=>{have:=List.find?_eq_none.1 hf x hx;simp at this}|some y=>have h1:=List.find?_some hf;have h2:=List.mem_of_find?_eq_some hf;dsimp only;rw[←e];exact he y h2 x hx (by simpa using h1))
 have:=h.pend
 omega
/-- The bound of all types of a world, in thousandths of thousandths. -/
def U : Nat → Nat
  | 0 => 0
  | n + 1 => max (1273 * U n) (1000 * U n + 400 * 1000 ^ (n + 1))
def vT (n : Nat) (t : Ty) : Nat := 400 * 1273 ^ (t.q + t.e) * 1000 ^ (n - (t.q + t.e))
def Bd (n k : Nat) (T : List Ty) : Prop := (∀ t ∈ T, t.q + t.e ≤ n) ∧ (T.map (vT n)).sum ≤ k * U n
theorem Bd.nil (n k:Nat):Bd n k []:=⟨fun t h=>(by cases h),Nat.zero_le _⟩
theorem sum_mul {T:List Ty}{f g:Ty→Nat}{c:Nat}(h:∀t∈T,f t=c*g t):(T.map f).sum=c*(T.map g).sum:=by
 induction T with|nil=>{rfl}|cons t T ih=>rw[List.map_cons,List.map_cons,List.sum_cons,List.sum_cons,h t (by simp),ih (fun x hx=>h x (by simp[hx])),Nat.mul_add]
theorem vT_up {n:Nat}{t:Ty}(h:t.q+t.e≤n):vT (n+1) t=1000*vT n t:=by
 unfold vT
 rw[show n+1-(t.q+t.e)=n-(t.q+t.e)+1 by(omega),Nat.pow_succ]
 simp only[Nat.mul_comm,Nat.mul_left_comm,Nat.mul_assoc]
theorem vT_grow {n:Nat}{t t':Ty}(h:t.q+t.e≤n)(e:t'.q+t'.e=t.q+t.e+1):vT (n+1) t'=1273*vT n t:=by
 unfold vT
 rw[e,show n+1-(t.q+t.e+1)=n-(t.q+t.e)by(omega),Nat.pow_succ]
 simp only[Nat.mul_comm,Nat.mul_left_comm]
theorem Bd.up {n k:Nat}{T:List Ty}(h:Bd n k T):Bd (n+1) k T:=by
 refine⟨fun t ht=>Nat.le_succ_of_le (h.1 t ht),?_⟩
 rw[sum_mul (c:=1000) (g:=vT n) (fun t ht=>vT_up (h.1 t ht))]
 have h1:1000*U n≤U (n+1):=Nat.le_trans (Nat.le_add_right _ _) (Nat.le_max_right _ _)
 calc 1000*(T.map (vT n)).sum≤1000*(k*U n):=Nat.mul_le_mul_left _ h.2
  _=k*(1000*U n):=Nat.mul_left_comm _ _ _
  _≤k*U (n+1):=Nat.mul_le_mul_left _ h1
theorem Bd.mono {n k k':Nat}{T:List Ty}(h:Bd n k T)(hk:k≤k'):Bd n k' T:=⟨h.1,Nat.le_trans h.2 (Nat.mul_le_mul_right _ hk)⟩
theorem Bd.app {n k:Nat}{T T':List Ty}(h:Bd n k T)(h':Bd n k T'):Bd n (2*k) (T++T'):=by
 refine⟨fun t ht=>(List.mem_append.1 ht).elim (h.1 t) (h'.1 t),?_⟩
 rw[List.map_append,List.sum_append,Nat.mul_assoc]
 have:=h.2
 have:=h'.2
 omega
theorem Bd.new {n k:Nat}{T:List Ty}(h:Bd n k T)(hk:1≤k){t:Ty}(ht:t.q+t.e=0):Bd (n+1) k (t::T):=by
 refine⟨fun s hs=>?_,?_⟩
 ·rcases List.mem_cons.1 hs with e|e;·{rw[e,ht];exact Nat.zero_le _};·exact Nat.le_succ_of_le (h.1 s e)
 ·rw[List.map_cons,List.sum_cons,sum_mul (c:=1000) (g:=vT n) (fun s hs=>vT_up (h.1 s hs))];have h1:1000*U n+400*1000^(n+1)≤U (n+1):=Nat.le_max_right _ _;have h2:vT (n+1) t=400*1000^(n+1):=by{unfold vT;rw[ht];simp};rw[h2];calc 400*1000^(n+1)+1000*(T.map (vT n)).sum≤k*(400*1000^(n+1))+1000*(k*U n):=Nat.add_le_add (Nat.le_mul_of_pos_left _ hk) (Nat.mul_le_mul_left _ h.2)
  _=k*(1000*U n+400*1000^(n+1)):=by{rw[Nat.mul_add,Nat.add_comm,Nat.mul_left_comm 1000 k]}
  _≤k*U (n+1):=Nat.mul_le_mul_left _ h1
inductive Grew : List Ty → List Ty → Prop
  | nil : Grew [] []
  | cons {t t' : Ty} {T T' : List Ty} : t'.q + t'.e = t.q + t.e + 1 → Grew T T' → Grew (t :: T) (t' :: T')
theorem Bd.grow {n k:Nat}:∀{T T':List Ty},Grew T T'→(∀t∈T,t.q+t.e≤n)→(∀t∈T',t.q+t.e≤n+1)∧(T'.map (vT (n+1))).sum=1273*(T.map (vT n)).sum
 | [],_,h,_=>by{cases h;exact⟨fun t h=>(by cases h),rfl⟩}
 |t::T,_,h,hb=>by{cases h with|cons e h=>obtain⟨g1,g2⟩:=Bd.grow (n:=n) (k:=k) h (fun s hs=>hb s (by simp[hs]));refine⟨fun s hs=>?_,?_⟩;·{rcases List.mem_cons.1 hs with q|q;·{rw[q,e];have:=hb t (by simp);omega};·exact g1 s q};·rw[List.map_cons,List.map_cons,List.sum_cons,List.sum_cons,g2,vT_grow (hb t (by simp)) e,Nat.mul_add]}
theorem Bd.grown {n k:Nat}{T T':List Ty}(h:Bd n k T)(hf:Grew T T'):Bd (n+1) k T':=by
 obtain⟨g1,g2⟩:=Bd.grow (n:=n) (k:=k) hf h.1
 refine⟨g1,?_⟩
 rw[g2]
 have h1:1273*U n≤U (n+1):=Nat.le_max_left _ _
 calc 1273*(T.map (vT n)).sum≤1273*(k*U n):=Nat.mul_le_mul_left _ h.2
  _=k*(1273*U n):=Nat.mul_left_comm _ _ _
  _≤k*U (n+1):=Nat.mul_le_mul_left _ h1
/-- What the types of a world say of a text. -/
def mT (T : List Ty) (x : Int) : Nat := (T.map (fun t => t.m x)).sum
theorem mT_app (T T':List Ty)(x:Int):mT (T++T') x=mT T x+mT T' x:=by
 unfold mT
 simp
structure Cov (A : Ar) (ρ σ : Int → Int) (ω : Int) (T : List Ty) : Prop where
  ok : ∀ t ∈ T, t.OK ρ
  sup : ∀ t ∈ T, ∀ x ∈ t.S, A.has x ∧ σ x = ω
  cov : ∀ x, A.has x → σ x = ω → tx (A.get x) ≤ mT T x
/-- The state behind calls: n that may have let texts grow, c copies, u XfU of worlds. -/
def Wst (A : Ar) (n c u : Nat) : Prop := u ≤ c ∧ ∃ (ρ σ : Int → Int) (Ω : List Int), Lab ρ A ∧ (∀ x y, A.has x → A.has y → ρ x = ρ y → σ x = σ y) ∧ Ω ≠ [] ∧ Ω.length + u ≤ 1 + c ∧ (∀ x, A.has x → σ x ∈ Ω) ∧
  ∀ ω ∈ Ω, ∃ T, Bd n (2 ^ u) T ∧ Cov A ρ σ ω T
theorem hasI {A:Ar}{x:Int}(h:A.has x):∃i:Nat,i<A.ns.length∧x=(i:Int)+1∧A.ns[i]?=some (A.get x):=by
 have h1:=Ar.get_some h
 refine⟨x.toNat-1,(List.getElem?_eq_some_iff.1 h1).1,(at_has h.1).symm,h1⟩
theorem Ihas {A:Ar}{i:Nat}{n:Nd}(h:A.ns[i]?=some n):A.has ((i:Int)+1)∧A.get ((i:Int)+1)=n:=by
 have hl:=(List.getElem?_eq_some_iff.1 h).1
 have hh:A.has ((i:Int)+1):=⟨by omega,by unfold Ar.n;omega⟩
 have:=Ar.get_some hh
 rw[show((i:Int)+1).toNat-1=i by(omega),h]at this
 exact⟨hh,(Option.some.inj this).symm⟩
theorem Kp.has {ρ:Int→Int}{z:Int}{A A':Ar}(h:Kp ρ z A A'){x:Int}(hx:A.has x):A'.has x∧(tx (A'.get x)≤tx (A.get x)∨(x=z∧tx (A'.get x)≤400)):=by
 obtain⟨i,hi,e,hg⟩:=hasI hx
 obtain⟨n',e',q⟩:=h.old i _ hg
 have:=Ihas e'
 rw[←e]at this q
 exact⟨this.1,by rw[this.2];exact q⟩
theorem Kp.fresh {ρ:Int→Int}{z:Int}{A A':Ar}(h:Kp ρ z A A'){x:Int}(hx:A'.has x)(hn:¬A.has x):tx (A'.get x)=0∨(x=z∧tx (A'.get x)≤400):=by
 obtain⟨i,hi,e,hg⟩:=hasI hx
 have:=h.new i _ hg (by apply Classical.byContradiction;intro q;exact hn (by rw[e];exact⟨by omega,by unfold Ar.n;omega⟩))
 rw[←e]at this
 exact this
theorem lab_link {A:Ar}(hI:A.Inv){ρ ρ':Int→Int}(h:Lab ρ A)(he:∀x y,A.has x→A.has y→ρ x=ρ y→ρ' x=ρ' y):Lab ρ' A:=by
 intro i n hi
 obtain⟨h1,h2⟩:=Ihas hi
 have h3:=h i n hi
 refine⟨fun hz=>he _ _ ?_ h1 (h3.1 hz),fun hz=>he _ _ ?_ h1 (h3.2 hz)⟩
 ·rw[←h2]at hz⊢;exact(hI.wf.link _ h1 hz).1
 ·rw[←h2]at hz⊢;exact(hI.host _ h1 hz).2.1
theorem pow_one_le (u:Nat):1≤2^u:=Nat.one_le_two_pow
theorem two_mem {Ω:List Int}{a b:Int}(ha:a∈Ω)(hb:b∈Ω)(hab:a≠b):2≤Ω.length:=by
 have:=pigeon (L:= [a,b]) (M:=Ω) (by simp[hab]) (fun x hx=>by rcases List.mem_cons.1 hx with e|e;·{rw[e];exact ha};·rw[List.mem_singleton.1 e];exact hb)
 simpa using this
theorem map_fst (T:List Ty):Grew T (T.map (fun t=>Ty.mk t.m t.S (t.q+1) t.e)):=by
 induction T with|nil=>{exact .nil}|cons t T ih=>exact .cons (by show t.q+1+t.e=_;omega) ih
theorem mT_map (T:List Ty)(x:Int):mT (T.map (fun t=>Ty.mk t.m t.S (t.q+1) t.e)) x=mT T x:=by
 unfold mT
 rw[List.map_map]
 rfl
end
section
/-- The label behind a call in which the trees of p and d become one. -/
def lj (ρ : Int → Int) (p d : Int) (x : Int) : Int := if ρ x = ρ d then ρ p else ρ x
theorem lj_eq {ρ:Int→Int}{p d x y:Int}(h:lj ρ p d x=lj ρ p d y):ρ x=ρ y∨(ρ x=ρ d∧ρ y=ρ p)∨(ρ x=ρ p∧ρ y=ρ d):=by
 unfold lj at h
 by_cases h1:ρ x=ρ d
 ·rw[if_pos h1]at h;by_cases h2:ρ y=ρ d;·{exact .inl (h1.trans h2.symm)};·rw[if_neg h2]at h;exact .inr (.inl ⟨h1,h.symm⟩)
 ·rw[if_neg h1]at h;by_cases h2:ρ y=ρ d;·{rw[if_pos h2]at h;exact .inr (.inr ⟨h,h2⟩)};·rw[if_neg h2]at h;exact .inl h
theorem lj_p (ρ:Int→Int)(p d:Int):lj ρ p d p=lj ρ p d d:=by
 unfold lj
 rw[if_pos rfl]
 split
 ·rfl
 ·rfl
theorem quiet_lab {A A':Ar}(hI:A.Inv){ρ:Int→Int}(hL:Lab ρ A){p d g z ν:Int}(hg:A.has g∨A.ns.length=0)(hpd:p=d∨A.has p∧A.has d∧z=0)(h:∀ρ:Int→Int,Lab ρ A→ρ p=ρ d→NewL ρ A.ns.length→(∀i:Nat,A.ns.length≤i→ρ ((i:Int)+1)=ρ g)→Kp ρ z A A')(hν:A.has g→ν=lj ρ p d g):Kp (fun x=>if A.has x then lj ρ p d x else ν) z A A':=by
 have hnew:∀i:Nat,A.ns.length≤i→(fun x=>if A.has x then lj ρ p d x else ν) ((i:Int)+1)=ν:=fun i hi=>if_neg (fun q=>by have:=q.2;unfold Ar.n at this;omega)
 refine h _ (lab_link hI hL (fun x y hx hy e=>?_)) ?_ (fun i j hi hj=>(hnew i hi).trans (hnew j hj).symm) (fun i hi=>(hnew i hi).trans ?_)
 ·(try dsimp only);rw[if_pos hx,if_pos hy];unfold lj;rw[e]
 ·rcases hpd with e|⟨h1,h2,-⟩;·{rw[e]};·(try dsimp only);rw[if_pos h1,if_pos h2];exact lj_p ρ p d
 ·(try dsimp only);split;·{rename_i q;exact hν q};·rfl
theorem quiet_st {A A':Ar}(hI:A.Inv){n c u:Nat}(hW:Wst A n c u)(hq:Quiet A A'):Wst A' (n+1) c u∨Wst A' n c (u+1):=by
 obtain⟨huc,ρ,σ,Ω,hL,hsub,hne,hlen,hall,hcov⟩:=hW
 obtain⟨p,d,g,z,hpd,hg,hK⟩:=hq
 obtain⟨ω0,hω0⟩:∃ω,ω∈Ω:=by cases Ω with|nil=>{exact absurd rfl hne}|cons a l=>exact⟨a,by simp⟩
 obtain⟨ν,hν⟩:∃ν,A.has g→ν=lj ρ p d g:=⟨lj ρ p d g,fun _=>rfl⟩
 have hk:=quiet_lab hI hL hg hpd hK hν
 have hnewA:∀y,A.has y→A.has g:=fun y hy=>hg.resolve_right (fun e=>by have:=hy.1;have:=hy.2;unfold Ar.n at this;omega)
 by_cases hw:p=d∨σ p=σ d
 ·left;obtain⟨ων,hων⟩:∃w,w=(if A.has g then σ g else ω0):=⟨_,rfl⟩;have hσe:∀x y,A.has x→A.has y→lj ρ p d x=lj ρ p d y→σ x=σ y:=fun x y hx hy e=>by{rcases lj_eq e with q|⟨q1,q2⟩|⟨q1,q2⟩;·{exact hsub x y hx hy q};·{rcases hpd with e2|⟨h1,h2,-⟩;·{subst e2;exact hsub x y hx hy (q1.trans q2.symm)};·rcases hw with e2|e2;·{subst e2;exact hsub x y hx hy (q1.trans q2.symm)};·rw[hsub x d hx h2 q1,hsub y p hy h1 q2,e2]};·rcases hpd with e2|⟨h1,h2,-⟩;·{subst e2;exact hsub x y hx hy (q1.trans q2.symm)};·rcases hw with e2|e2;·{subst e2;exact hsub x y hx hy (q1.trans q2.symm)};·rw[hsub x p hx h1 q1,hsub y d hy h2 q2,e2]};refine⟨huc,fun x=>if A.has x then lj ρ p d x else ν,fun x=>if A.has x then σ x else ων,Ω,hk.lab,fun x y hx hy e=>?_,hne,hlen,fun x hx=>?_,fun ω hω=>?_⟩;·{(try dsimp only at e⊢);by_cases ax:A.has x;·{rw[if_pos ax]at e⊢;by_cases ay:A.has y;·{rw[if_pos ay]at e⊢;exact hσe x y ax ay e};·rw[if_neg ay]at e⊢;have hgg:=hnewA x ax;rw[hν hgg]at e;rw[hων,if_pos hgg];exact hσe x g ax hgg e};·rw[if_neg ax]at e⊢;by_cases ay:A.has y;·{rw[if_pos ay]at e⊢;have hgg:=hnewA y ay;rw[hν hgg]at e;rw[hων,if_pos hgg];exact hσe g y hgg ay e};·rw[if_neg ay]};·{(try dsimp only);split;·{rename_i ax;exact hall x ax};·rw[hων];split;·{rename_i hgg;exact hall g hgg};·exact hω0};·obtain⟨T,hB,hC⟩:=hcov ω hω;have hbase:∃T1,Bd (n+1) (2^u) T1∧(∀t∈T1,t.OK (fun x=>if A.has x then lj ρ p d x else ν))∧(∀t∈T1,∀x∈t.S,A'.has x∧(if A.has x then σ x else ων)=ω)∧∀x,A'.has x→(if A.has x then σ x else ων)=ω→tx (A'.get x)≤mT T1 x:=by{have hsup:∀t∈T,∀x∈t.S,A'.has x∧(if A.has x then σ x else ων)=ω:=fun t ht x hx=>by{obtain⟨s1,s2⟩:=hC.sup t ht x hx;exact⟨(hk.has s1).1,by rw[if_pos s1];exact s2⟩};by_cases hz:A'.has z∧(if A.has z then σ z else ων)=ω∧p=d;·{obtain⟨z1,z2,rfl⟩:=hz;have hid:∀x,lj ρ p p x=ρ x:=fun x=>by{unfold lj;split<;>simp_all};refine⟨Ty.new z (if tx (A'.get z)≤400 then tx (A'.get z)else 0)::T,hB.new (pow_one_le u) rfl,fun t ht=>?_,fun t ht x hx=>?_,fun x hx hx2=>?_⟩;·{rcases List.mem_cons.1 ht with e|e;·{rw[e];exact Ty.OK.new _ z (by split<;>omega)};·exact(hC.ok t e).same (fun x hx=>by rw[if_pos (hC.sup t e x hx).1,hid])};·{rcases List.mem_cons.1 ht with e|e;·{subst e;obtain rfl:x=z:=by{simpa[Ty.new]using hx};exact⟨z1,z2⟩};·exact hsup t e x hx};·have e1:mT (Ty.new z (if tx (A'.get z)≤400 then tx (A'.get z)else 0)::T) x=(if x=z then(if tx (A'.get z)≤400 then tx (A'.get z)else 0)else 0)+mT T x:=rfl;rw[e1];by_cases ax:A.has x;·{rw[if_pos ax]at hx2;have h1:=hC.cov x ax hx2;rcases(hk.has ax).2 with q|⟨q1,q2⟩;·{omega};·subst q1;rw[if_pos rfl,if_pos q2];omega};·rcases hk.fresh hx ax with q|⟨q1,q2⟩;·{omega};·subst q1;rw[if_pos rfl,if_pos q2];omega};·refine⟨T.map (fun t=>Ty.mk t.m t.S (t.q+1) t.e),hB.grown (map_fst T),fun t ht=>?_,fun t ht x hx=>?_,fun x hx hx2=>?_⟩;·{obtain⟨s,hs,rfl⟩:=List.mem_map.1 ht;exact((hC.ok s hs).merge (ρ p) (ρ d)).same (fun x hx=>by rw[if_pos (hC.sup s hs x hx).1];rfl)};·{obtain⟨s,hs,rfl⟩:=List.mem_map.1 ht;exact hsup s hs x hx};·rw[mT_map];have hnz:x≠z∨¬A'.has z∨z=0:=by{by_cases e:x=z;·{rcases hpd with e2|⟨-,-,e2⟩;·{exact absurd ⟨e▸hx,e▸hx2,e2⟩ hz};·exact .inr (.inr e2)};·exact .inl e};have hxz:x≠z:=by{rcases hnz with q|q|q;·{exact q};·{intro e;exact q (e▸hx)};·intro e;rw[e,q]at hx;exact Za _ hx};by_cases ax:A.has x;·{rw[if_pos ax]at hx2;have h1:=hC.cov x ax hx2;rcases(hk.has ax).2 with q|⟨q1,-⟩;·{omega};·exact absurd q1 hxz};·rcases hk.fresh hx ax with q|⟨q1,-⟩;·{omega};·exact absurd q1 hxz};obtain⟨T1,b1,b2,b3,b4⟩:=hbase;exact⟨T1,b1,b2,b3,b4⟩
 ·right;have hpd2:A.has p∧A.has d∧z=0:=hpd.resolve_left (fun e=>hw (.inl e));obtain⟨hp,hd,hz0⟩:=hpd2;have hσ:σ p≠σ d:=fun e=>hw (.inr e);have hlen2:=two_mem (hall p hp) (hall d hd) hσ;have hgg:=hnewA p hp;obtain⟨s1,hs1⟩:∃s1:Int→Int,s1=fun w=>if w=σ d then σ p else w:=⟨_,rfl⟩;have hsd:s1 (σ d)=σ p:=by{rw[hs1];exact if_pos rfl};have hsn:∀w,w≠σ d→s1 w=w:=fun w q=>by{rw[hs1];exact if_neg q};have hσe:∀x y,A.has x→A.has y→lj ρ p d x=lj ρ p d y→s1 (σ x)=s1 (σ y):=fun x y hx hy e=>by{rcases lj_eq e with q|⟨q1,q2⟩|⟨q1,q2⟩;·{rw[hsub x y hx hy q]};·{rw[hsub x d hx hd q1,hsub y p hy hp q2,hsd,hsn _ hσ]};·rw[hsub x p hx hp q1,hsub y d hy hd q2,hsd,hsn _ hσ]};have hs1Ω:∀x,A.has x→s1 (σ x)∈Ω.erase (σ d):=fun x hx=>by{by_cases e:σ x=σ d;·{rw[e,hsd];exact(List.mem_erase_of_ne hσ).2 (hall p hp)};·rw[hsn _ e];exact(List.mem_erase_of_ne e).2 (hall x hx)};refine⟨by omega,fun x=>if A.has x then lj ρ p d x else ν,fun x=>if A.has x then s1 (σ x)else s1 (σ g),Ω.erase (σ d),hk.lab,fun x y hx hy e=>?_,?_,?_,fun x hx=>?_,fun ω hω=>?_⟩;·{(try dsimp only at e⊢);by_cases ax:A.has x;·{rw[if_pos ax]at e⊢;by_cases ay:A.has y;·{rw[if_pos ay]at e⊢;exact hσe x y ax ay e};·rw[if_neg ay]at e⊢;rw[hν hgg]at e;exact hσe x g ax hgg e};·rw[if_neg ax]at e⊢;by_cases ay:A.has y;·{rw[if_pos ay]at e⊢;rw[hν hgg]at e;exact hσe g y hgg ay e};·rw[if_neg ay]};·{intro e;have:=hs1Ω p hp;rw[e]at this;cases this};·{rw[List.length_erase_of_mem (hall d hd)];omega};·{(try dsimp only);split;·{rename_i ax;exact hs1Ω x ax};·exact hs1Ω g hgg};·have hkeep:∀x,A'.has x→(A.has x∧tx (A'.get x)≤tx (A.get x))∨(¬A.has x∧tx (A'.get x)=0):=fun x hx=>by{have hxz:x≠z:=fun e=>by{rw[e,hz0]at hx;exact Za _ hx};by_cases ax:A.has x;·{exact .inl ⟨ax,(hk.has ax).2.resolve_right (fun q=>hxz q.1)⟩};·exact .inr ⟨ax,(hk.fresh hx ax).resolve_right (fun q=>hxz q.1)⟩};have hωΩ:ω∈Ω:=List.mem_of_mem_erase hω;have hup:2^u≤2^(u+1):=Nat.pow_le_pow_right (by decide) (by omega);by_cases e1:ω=σ d;·{refine⟨[],Bd.nil _ _,⟨fun t h=>(by cases h),fun t h=>(by cases h),fun x hx hx2=>?_⟩⟩;have hne2:∀y,A.has y→s1 (σ y)≠σ d:=fun y hy=>by{by_cases q:σ y=σ d;·{rw[q,hsd];exact hσ};·rw[hsn _ q];exact q};(try dsimp only at hx2);split at hx2;·{rename_i ax;exact absurd (hx2.trans e1) (hne2 x ax)};·exact absurd (hx2.trans e1) (hne2 g hgg)};·obtain⟨T,hB,hC⟩:=hcov ω hωΩ;have hsame:∀t∈T,∀x∈t.S,(fun x=>if A.has x then lj ρ p d x else ν) x=ρ x:=fun t ht x hx=>by{obtain⟨q1,q2⟩:=hC.sup t ht x hx;(try dsimp only);rw[if_pos q1];unfold lj;exact if_neg (fun e=>e1 (by rw[←q2];exact hsub x d q1 hd e))};by_cases e2:ω=σ p;·{obtain⟨T2,hB2,hC2⟩:=hcov (σ d) (hall d hd);refine⟨T++T2,by rw[Nat.pow_succ,Nat.mul_comm];exact hB.app hB2,⟨fun t ht=>?_,fun t ht x hx=>?_,fun x hx hx2=>?_⟩⟩;·{rcases List.mem_append.1 ht with q|q;·{exact(hC.ok t q).same (hsame t q)};·refine(hC2.ok t q).relab (fun x hx y hy e=>?_);obtain⟨q1,q2⟩:=hC2.sup t q x hx;obtain⟨r1,r2⟩:=hC2.sup t q y hy;(try dsimp only at e);rw[if_pos q1,if_pos r1]at e;rcases lj_eq e with v|⟨v1,v2⟩|⟨v1,v2⟩;·{exact v};·{exact absurd ((hsub y p r1 hp v2).symm.trans r2) hσ};·exact absurd ((hsub x p q1 hp v1).symm.trans q2) hσ};·{(try dsimp only);rcases List.mem_append.1 ht with q|q;·{obtain⟨q1,q2⟩:=hC.sup t q x hx;exact⟨(hk.has q1).1,by rw[if_pos q1,q2,hsn _ e1]⟩};·obtain⟨q1,q2⟩:=hC2.sup t q x hx;exact⟨(hk.has q1).1,by rw[if_pos q1,q2,hsd,e2]⟩};·rw[mT_app];rcases hkeep x hx with⟨ax,hx3⟩|⟨ax,hx3⟩;·{(try dsimp only at hx2);rw[if_pos ax]at hx2;by_cases q:σ x=σ d;·{have:=hC2.cov x ax q;omega};·rw[hsn _ q]at hx2;have:=hC.cov x ax hx2;omega};·omega};·refine⟨T,hB.mono hup,⟨fun t ht=>(hC.ok t ht).same (hsame t ht),fun t ht x hx=>?_,fun x hx hx2=>?_⟩⟩;·{obtain⟨q1,q2⟩:=hC.sup t ht x hx;exact⟨(hk.has q1).1,by rw[if_pos q1,q2,hsn _ e1]⟩};·rcases hkeep x hx with⟨ax,hx3⟩|⟨ax,hx3⟩;·{(try dsimp only at hx2);rw[if_pos ax]at hx2;by_cases q:σ x=σ d;·{rw[q,hsd]at hx2;exact absurd hx2.symm e2};·rw[hsn _ q]at hx2;have:=hC.cov x ax hx2;omega};·omega
end
section
theorem lab_host {ρ:Int→Int}{A:Ar}(h:Lab ρ A){x:Int}(hx:A.has x)(hp:(A.get x).host≠0):ρ (A.get x).host=ρ x:=by
 have:=(h (x.toNat-1) (A.get x) (Ar.get_some hx)).2 hp
 rwa[at_has hx.1]at this
theorem above (ρ:Int→Int):∀L:List Int,∃M:Int,∀x∈L,ρ x<M
 | []=>⟨0,fun x h=>(by cases h)⟩
 |a::L=>by{obtain⟨M,h⟩:=above ρ L;refine⟨max M (ρ a+1),fun x hx=>?_⟩;rcases List.mem_cons.1 hx with e|e;·{rw[e];omega};·have:=h x e;omega}
theorem sumM_sub {m:Int→Nat}{G F:List Int}(hG:G.Nodup)(h:∀y∈G,y∈F∨m y=0):sumM m G≤sumM m F:=by
 rw[sumM_split m (fun y=>decide (y∈F)) G]
 have e1:sumM m (G.filter (fun y=> !decide (y∈F)))=0:=sumM_zero (fun y hy=>by obtain⟨h1,h2⟩:=List.mem_filter.1 hy;exact(h y h1).resolve_left (by simpa using h2))
 rw[e1,Nat.add_zero]
 exact Xax (hG.filter _) (fun y hy=>by simpa using(List.mem_filter.1 hy).2)
theorem mT_sum (G:List Int):∀T:List Ty,sumM (mT T) G=(T.map (fun t=>sumM t.m G)).sum
 | []=>by{rw[List.map_nil];exact sumM_zero (fun _ _=>rfl)}
 |t::T=>by{rw[List.map_cons,List.sum_cons,←mT_sum G T];have:∀G:List Int,sumM (mT (t::T)) G=sumM t.m G+sumM (mT T) G:=by{intro G;induction G with|nil=>{rfl}|cons x G ih=>rw[sumM_cons,sumM_cons,sumM_cons,ih];have:mT (t::T) x=t.m x+mT T x:=rfl;omega};exact this G}
theorem sum_le_map {T:List Ty}{f g:Ty→Nat}(h:∀t∈T,f t≤g t):(T.map f).sum≤(T.map g).sum:=by
 induction T with|nil=>{exact Nat.le_refl _}|cons t T ih=>rw[List.map_cons,List.map_cons,List.sum_cons,List.sum_cons];have:=h t (by simp);have:=ih (fun x hx=>h x (by simp[hx]));omega
theorem norm_types {ρ ρ' g:Int→Int}:∀T:List Ty,(∀t∈T,t.OK ρ)→(∀t∈T,∀y∈t.S,ρ (g y)=ρ y)→(∀y,g (g y)=g y)→(∀x,g x=x→ρ' x=ρ x)→(∀t∈T,∀y∈t.S,g y≠y→∀w∈t.S,(ρ' w=ρ' y→w=y)∧(ρ' (g w)=ρ' y→g w=y))→∃T',Grew T T'∧(∀t∈T',t.OK ρ')∧(∀t'∈T',∀x∈t'.S,∃t∈T,∃y∈t.S,x=y∨x=g y)∧(∀x,g x≠x→mT T' x=mT T x)∧(∀x,g x=x→mT T' x=(T.map (fun t=>sumM t.m (t.S.filter (fun y=>decide (g y=x))))).sum)
 | [],_,_,_,_,_=>⟨[],.nil,fun t h=>(by cases h),fun t h=>(by cases h),fun _ _=>rfl,fun _ _=>rfl⟩
 |t::T,h0,h1,h2,h3,h4=>by{obtain⟨T',a1,a2,a3,a4,a5⟩:=norm_types T (fun s hs=>h0 s (by simp[hs])) (fun s hs=>h1 s (by simp[hs])) h2 h3 (fun s hs=>h4 s (by simp[hs]));obtain⟨t',b1,b2,b3,b4,b5⟩:=(h0 t (by simp)).norm g (h1 t (by simp)) h2 h3 (h4 t (by simp));refine⟨t'::T',.cons b2 a1,fun s hs=>?_,fun s hs x hx=>?_,fun x hx=>?_,fun x hx=>?_⟩;·{rcases List.mem_cons.1 hs with e|e;·{rw[e];exact b1};·exact a2 s e};·{rcases List.mem_cons.1 hs with e|e;·{obtain⟨y,hy,q⟩:=b5 x (e▸hx);exact⟨t,by simp,y,hy,q⟩};·obtain⟨r,hr,y,hy,q⟩:=a3 s e x hx;exact⟨r,by simp[hr],y,hy,q⟩};·{show t'.m x+mT T' x=t.m x+mT T x;rw[b3 x hx,a4 x hx]};·show t'.m x+mT T' x=_;rw[b4 x hx,a5 x hx,List.map_cons,List.sum_cons]}
theorem norm_st {A B:Ar}(hI:A.Inv){n c u:Nat}(hW:Wst A n c u){dn:List Int}(hN:NormT A dn B):Wst B (n+1) c u:=by
 obtain⟨huc,ρ,σ,Ω,hL,hsub,hne,hlen,hall,hcov⟩:=hW
 obtain⟨hP,hkind,g,g1,g2,g3⟩:=hN
 obtain⟨M,hM⟩:=above ρ A.hs
 have hM:∀x,A.has x→ρ x<M:=fun x hx=>hM x (ZW.2 hx)
 have hgg:∀y,g (g y)=g y:=fun y=>by by_cases e:g y=y;·{rw[e,e]};·exact(g1 y e).2.2.2.2.2.2.1
 have hρg:∀y,A.has y→A.has (g y)∧ρ (g y)=ρ y:=fun y hy=>by by_cases e:g y=y;·{rw[e];exact⟨hy,rfl⟩};·obtain⟨a1,a2,a3,a4,a5,a6,-⟩:=g1 y e;refine⟨a5,?_⟩;rw[←lab_parent hL a5 (by rw[a6];exact a3),a6,lab_parent hL a1 a3]
 obtain⟨ρ1,hρ1⟩:∃r:Int→Int,r=fun x=>if g x=x then ρ x else M+x:=⟨_,rfl⟩
 have r1:∀x,g x=x→ρ1 x=ρ x:=fun x hx=>by rw[hρ1];exact if_pos hx
 have r2:∀x,g x≠x→ρ1 x=M+x:=fun x hx=>by rw[hρ1];exact if_neg hx
 have huniq:∀w y,A.has w→g y≠y→ρ1 w=ρ1 y→w=y:=fun w y hw hy e=>by rw[r2 y hy]at e;by_cases q:g w=w;·{rw[r1 w q]at e;have:=hM w hw;have:=(g1 y hy).1.1;omega};·rw[r2 w q]at e;omega
 refine⟨huc,ρ1,σ,Ω,?_,fun x y hx hy e=>?_,hne,hlen,fun x hx=>hall x (hP.XhO hx),fun ω hω=>?_⟩
 ·intro i m hi;obtain⟨h1,h2⟩:=Ihas hi;have hA:=hP.XhO h1;obtain⟨k1,k2,k3⟩:=hkind _ hA;have h4:∀z,A.has z→(B.get z).Xa≠5→g z=z:=fun z hz hk=>Classical.byContradiction (fun q=>by have:=(g1 z q).2.2.2.1;exact hk ((hkind z hz).1.trans this));refine⟨fun hz=>?_,fun hz=>?_⟩;·{rw[←h2]at hz⊢;obtain⟨b1,b2,-⟩:=hP.inv.wf.link _ h1 hz;have b3:=hP.inv.ZB _ b1 (fun e=>by rw[e]at b2;cases b2);have e1:=h4 _ (hP.XhO b1) (by intro e;rw[e]at b3;rcases b3 with b3|b3|b3<;>cases b3);have e2:g ((i:Int)+1)=(i:Int)+1:=Classical.byContradiction (fun q=>hz (g1 _ q).2.2.2.2.2.2.2);rw[r1 _ e1,r1 _ e2];have k4:=k3.resolve_right hz;rw[k4];rw[k4]at hz;exact lab_parent hL hA hz};·rw[←h2]at hz⊢;obtain⟨b1,b2,b3,b4⟩:=hP.inv.host _ h1 hz;have e1:=h4 _ (hP.XhO b2) (by have:=b3.1;intro e;rw[e]at this;cases this);have e2:=h4 _ hA (by rw[b1];decide);rw[r1 _ e1,r1 _ e2];rw[k2]at hz⊢;exact lab_host hL hA hz
 ·have ax:=hP.XhO hx;have ay:=hP.XhO hy;by_cases q:g y=y;·{by_cases q2:g x=x;·{rw[r1 x q2,r1 y q]at e;exact hsub x y ax ay e};·rw[huniq y x ay q2 e.symm]};·rw[huniq x y ax q e]
 ·obtain⟨T,hB,hC⟩:=hcov ω hω;obtain⟨T',a1,a2,a3,a4,a5⟩:=norm_types (ρ:=ρ) (ρ':=ρ1) (g:=g) T hC.ok (fun t ht y hy=>(hρg y (hC.sup t ht y hy).1).2) hgg r1 (fun t ht y hy hgy w hw=>by have hw1:=(hC.sup t ht w hw).1;refine⟨fun e=>huniq w y hw1 hgy e,fun e=>huniq _ y (hρg w hw1).1 hgy e⟩);refine⟨T',hB.grown a1,⟨a2,fun t' ht' x hx=>?_,fun x hx hx2=>?_⟩⟩;·{obtain⟨t,ht,y,hy,q⟩:=a3 t' ht' x hx;obtain⟨s1,s2⟩:=hC.sup t ht y hy;rcases q with q|q;·{rw[q];exact⟨hP.has s1,s2⟩};·obtain⟨v1,v2⟩:=hρg y s1;rw[q];exact⟨hP.has v1,(hsub _ _ v1 s1 v2).trans s2⟩};·have ax:=hP.XhO hx;by_cases q:g x=x;·{obtain⟨G,e1,e2,e3⟩:=g2 x ax q;rw[a5 x q];refine Nat.le_trans e3 (Nat.le_trans (sumM_le (m':=mT T) (fun y hy=>?_)) ?_);·{obtain⟨v1,v2⟩:=e2 y hy;obtain⟨w1,w2⟩:=hρg y v1;rw[v2]at w2;exact hC.cov y v1 ((hsub y x v1 ax w2.symm).trans hx2)};·rw[mT_sum];refine sum_le_map (fun t ht=>sumM_sub e1 (fun y hy=>?_));by_cases r:y∈t.S;·{exact .inl (List.mem_filter.2 ⟨r,by simpa using(e2 y hy).2⟩)};·exact .inr ((hC.ok t ht).out y r)};·rw[a4 x q];exact Nat.le_trans (g3 x ax q) (hC.cov x ax hx2)
end
section
theorem Ty.OK.cls {ρ:Int→Int}{t:Ty}(h:t.OK ρ)(l:Int){Y:List Int}(hYn:Y.Nodup)(hYS:∀x∈Y,x∈t.S)(hl:∀x∈Y,ρ x=l):Y.length≤t.q+1:=by
 have g1:(labs ρ t.S).length≤(l::(t.S.filter (fun x=> !decide (x∈Y))).map ρ).length:=by refine pigeon (labs_nodup _) (fun z hz=>?_);obtain⟨x,hx,e⟩:=List.mem_map.1 (labs_mem.1 hz);by_cases hy:x∈Y;·{rw[←e,hl x hy];simp};·exact List.mem_cons_of_mem _ (List.mem_map.2 ⟨x,List.mem_filter.2 ⟨hx,by simpa using hy⟩,e⟩)
 have g2:=len_split (fun x=>decide (x∈Y)) t.S
 have g3:Y.length≤(t.S.filter (fun x=>decide (x∈Y))).length:=pigeon hYn (fun x hx=>List.mem_filter.2 ⟨hYS x hx,by simpa using hx⟩)
 have:=h.pend
 simp only[List.length_cons,List.length_map]at g1
 omega
theorem labs_pos {ρ:Int→Int}{S:List Int}(h:S≠ []):1≤(labs ρ S).length:=by
 cases S with|nil=>{exact absurd rfl h}|cons x S=>exact List.length_pos_of_mem (labs_mem.2 (List.mem_map.2 ⟨x,by simp,rfl⟩))
theorem sumM_map (m:Int→Nat)(f:Int→Int)(X:List Int):sumM m (X.map f)=sumM (fun x=>m (f x)) X:=by
 unfold sumM
 rw[List.map_map]
 rfl
/-- A copy: new nodes W2 have the texts of the nodes W of one tree. -/
structure CpT (A B : Ar) (h : Int) : Prop where
  old : ∀ x, A.has x → B.has x ∧ B.get x = A.get x
  cp : ∃ W : List Int, ∃ bk : Int → Int, (∀ x ∈ W, B.has x ∧ ¬ A.has x ∧ A.has (bk x) ∧ tx (B.get x) ≤ tx (A.get (bk x))) ∧ (∀ x ∈ W, ∀ y ∈ W, bk x = bk y → x = y) ∧ W.Nodup ∧
    (∀ ρ : Int → Int, Lab ρ A → ∀ x ∈ W, ρ (bk x) = ρ h) ∧ ∀ x, B.has x → ¬ A.has x → x ∈ W ∨ tx (B.get x) = 0
theorem cp_types {A:Ar}{ρ ρ':Int→Int}{l l':Int}{W:List Int}{bk:Int→Int}(hW:W.Nodup)(hb:∀x∈W,∀y∈W,bk x=bk y→x=y)(hl:∀x∈W,ρ (bk x)=l)(hl':∀x∈W,ρ' x=l'):∀T:List Ty,(∀t∈T,t.OK ρ)→∃T',(∀t∈T',t.OK ρ')∧(∀t∈T',∀x∈t.S,x∈W)∧(∀x∈W,mT T' x=mT T (bk x))∧T'.map (fun t=>t.q+t.e)=T.map (fun t=>t.q+t.e)
 | [],_=>⟨[],fun t h=>(by cases h),fun t h=>(by cases h),fun x _=>rfl,rfl⟩
 |t::T,h=>by{obtain⟨T',a1,a2,a3,a4⟩:=cp_types (A:=A) hW hb hl hl' T (fun s hs=>h s (by simp[hs]));have ht:=h t (by simp);obtain⟨S2,hS2⟩:∃S2,S2=W.filter (fun x=>decide (bk x∈t.S)):=⟨_,rfl⟩;have mS:∀x,x∈S2↔x∈W∧bk x∈t.S:=fun x=>by{rw[hS2,List.mem_filter];simp};have nS:S2.Nodup:=by{rw[hS2];exact hW.filter _};have inj:∀X:List Int,X.Nodup→(∀x∈X,x∈S2)→(X.map bk).Nodup:=fun X hX hs=>map_nodup hX (fun x hx y hy e=>hb x ((mS x).1 (hs x hx)).1 y ((mS y).1 (hs y hy)).1 e);refine⟨⟨fun x=>if x∈S2 then t.m (bk x)else 0,S2,t.q,t.e⟩::T',fun s hs=>?_,fun s hs x hx=>?_,fun x hx=>?_,by rw[List.map_cons,List.map_cons,a4]⟩;·{rcases List.mem_cons.1 hs with e|e;·{subst e;refine⟨nS,?_,fun x hx=>if_neg hx,fun X hX hXS=>?_⟩;·{show S2.length≤t.q+(labs ρ' S2).length;have:=ht.cls l (inj S2 nS (fun x hx=>hx)) (fun x hx=>by obtain⟨y,hy,e⟩:=List.mem_map.1 hx;rw[←e];exact((mS y).1 hy).2) (fun x hx=>by obtain⟨y,hy,e⟩:=List.mem_map.1 hx;rw[←e];exact hl y ((mS y).1 hy).1);rw[List.length_map]at this;by_cases e:S2= [];·{rw[e];exact Nat.zero_le _};·have:=labs_pos (ρ:=ρ') e;omega};·show sumM (fun x=>if x∈S2 then t.m (bk x)else 0) X*_≤_;have e1:sumM (fun x=>if x∈S2 then t.m (bk x)else 0) X=sumM t.m (X.map bk):=by{rw[sumM_map];exact sumM_congr (fun x hx=>if_pos (hXS x hx))};rw[e1];have:=ht.sum (X.map bk) (inj X hX hXS) (fun x hx=>by obtain⟨y,hy,e⟩:=List.mem_map.1 hx;rw[←e];exact((mS y).1 (hXS y hy)).2);rwa[List.length_map]at this};·exact a1 s e};·{rcases List.mem_cons.1 hs with e|e;·{subst e;exact((mS x).1 hx).1};·exact a2 s e x hx};·show(if x∈S2 then t.m (bk x)else 0)+mT T' x=t.m (bk x)+mT T (bk x);rw[a3 x hx];split;·{rfl};·rename_i q;rw[ht.out _ (fun r=>q ((mS x).2 ⟨hx,r⟩))]}
theorem Bd.of_eq {n k:Nat}{T T':List Ty}(h:Bd n k T)(e:T'.map (fun t=>t.q+t.e)=T.map (fun t=>t.q+t.e)):Bd n k T':=by
 have key:∀T:List Ty,T.map (vT n)=(T.map (fun t=>t.q+t.e)).map (fun j=>400*1273^j*1000^(n-j)):=fun T=>by rw[List.map_map];rfl
 refine⟨fun t ht=>?_,by rw[key,e,←key];exact h.2⟩
 have:t.q+t.e∈T.map (fun t=>t.q+t.e):=by rw[←e];exact List.mem_map.2 ⟨t,ht,rfl⟩
 obtain⟨s,hs,q⟩:=List.mem_map.1 this
 have h1:=h.1 s hs
 have q:s.q+s.e=t.q+t.e:=q
 omega
theorem cp_st {A B:Ar}{h:Int}(hA:A.Inv)(hB:B.Inv){n c u:Nat}(hW:Wst A n c u)(hh:A.has h)(hC:CpT A B h):Wst B n (c+1) u:=by
 obtain⟨huc,ρ,σ,Ω,hL,hsub,hne,hlen,hall,hcov⟩:=hW
 obtain⟨hold,W,bk,w1,w2,w3,w4,w5⟩:=hC
 obtain⟨M,hM⟩:=above ρ A.hs
 have hM:∀x,A.has x→ρ x<M:=fun x hx=>hM x (ZW.2 hx)
 obtain⟨N,hN⟩:=above (fun x=>x) Ω
 obtain⟨ρ1,hρ1⟩:∃r:Int→Int,r=fun x=>if A.has x then ρ x else M:=⟨_,rfl⟩
 obtain⟨σ1,hσ1⟩:∃r:Int→Int,r=fun x=>if A.has x then σ x else N:=⟨_,rfl⟩
 have r1:∀x,A.has x→ρ1 x=ρ x:=fun x hx=>by rw[hρ1];exact if_pos hx
 have r2:∀x,¬A.has x→ρ1 x=M:=fun x hx=>by rw[hρ1];exact if_neg hx
 have s1:∀x,A.has x→σ1 x=σ x:=fun x hx=>by rw[hσ1];exact if_pos hx
 have s2:∀x,¬A.has x→σ1 x=N:=fun x hx=>by rw[hσ1];exact if_neg hx
 have hNn:∀x,A.has x→σ x≠N:=fun x hx e=>by have:=hN _ (hall x hx);omega
 refine⟨by omega,ρ1,σ1,N::Ω,?_,fun x y hx hy e=>?_,by simp,by simp only[List.length_cons];omega,fun x hx=>?_,fun ω hω=>?_⟩
 ·intro i m hi;obtain⟨h1,h2⟩:=Ihas hi;by_cases ax:A.has ((i:Int)+1);·{have hg:=(hold _ ax).2;refine⟨fun hz=>?_,fun hz=>?_⟩;·{rw[←h2,hg]at hz⊢;rw[r1 _ ax,r1 _ (hA.wf.link _ ax hz).1];exact lab_parent hL ax hz};·rw[←h2,hg]at hz⊢;rw[r1 _ ax,r1 _ (hA.host _ ax hz).2.1];exact lab_host hL ax hz};·refine⟨fun hz=>?_,fun hz=>?_⟩;·{rw[←h2]at hz⊢;obtain⟨b1,b2,-⟩:=hB.wf.link _ h1 hz;rw[r2 _ ax,r2];intro ap;rw[(hold _ ap).2]at b2;exact ax (hA.wf.Xc _ ap _ b2).1};·rw[←h2]at hz⊢;obtain⟨b1,b2,b3,b4⟩:=hB.host _ h1 hz;rw[r2 _ ax,r2];intro ap;rw[(hold _ ap).2]at b3 b4;have:=(hA.cont _ ap (fun e=>by rw[e]at ap;exact Za _ ap) b3).1;rw[b4]at this;exact ax this
 ·by_cases ax:A.has x;·{by_cases ay:A.has y;·{rw[r1 x ax,r1 y ay]at e;rw[s1 x ax,s1 y ay];exact hsub x y ax ay e};·rw[r1 x ax,r2 y ay]at e;have:=hM x ax;omega};·by_cases ay:A.has y;·{rw[r2 x ax,r1 y ay]at e;have:=hM y ay;omega};·rw[s2 x ax,s2 y ay]
 ·by_cases ax:A.has x;·{rw[s1 x ax];exact List.mem_cons_of_mem _ (hall x ax)};·rw[s2 x ax];simp
 ·rcases List.mem_cons.1 hω with e|e;·{subst e;obtain⟨T,hB1,hC1⟩:=hcov (σ h) (hall h hh);obtain⟨T',a1,a2,a3,a4⟩:=cp_types (A:=A) (ρ:=ρ) (ρ':=ρ1) (l:=ρ h) (l':=M) w3 w2 (fun x hx=>w4 ρ hL x hx) (fun x hx=>r2 x (w1 x hx).2.1) T hC1.ok;refine⟨T',hB1.of_eq a4,⟨a1,fun t ht x hx=>?_,fun x hx hx2=>?_⟩⟩;·{have:=w1 x (a2 t ht x hx);exact⟨this.1,s2 x this.2.1⟩};·by_cases ax:A.has x;·{rw[s1 x ax]at hx2;exact absurd hx2 (hNn x ax)};·rcases w5 x hx ax with q|q;·{rw[a3 x q];obtain⟨v1,v2,v3,v4⟩:=w1 x q;exact Nat.le_trans v4 (hC1.cov _ v3 (hsub _ _ v3 hh (w4 ρ hL x q)))};·omega};·obtain⟨T,hB1,hC1⟩:=hcov ω e;have hωN:ω≠N:=fun q=>by{have:=hN ω e;omega};refine⟨T,hB1,⟨fun t ht=>(hC1.ok t ht).same (fun x hx=>r1 x (hC1.sup t ht x hx).1),fun t ht x hx=>?_,fun x hx hx2=>?_⟩⟩;·{obtain⟨q1,q2⟩:=hC1.sup t ht x hx;exact⟨(hold x q1).1,by rw[s1 x q1];exact q2⟩};·by_cases ax:A.has x;·{rw[s1 x ax]at hx2;rw[(hold x ax).2];exact hC1.cov x ax hx2};·rw[s2 x ax]at hx2;exact absurd hx2.symm hωN
theorem wst_more {A:Ar}{n c u:Nat}(h:Wst A n c u):Wst A n (c+1) u:=by
 obtain⟨h1,ρ,σ,Ω,h2,h3,h4,h5,h6⟩:=h
 exact⟨by omega,ρ,σ,Ω,h2,h3,h4,by omega,h6⟩
end
end Go.Proofs.YtpicinjcmjaogaaGreatDoor
