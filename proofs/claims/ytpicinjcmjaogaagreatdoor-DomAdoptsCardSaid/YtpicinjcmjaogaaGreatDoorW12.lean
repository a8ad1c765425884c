import Derived.Test.YtpicinjcmjaogaaGreatDoorW01
set_option maxRecDepth 100000
set_option maxHeartbeats 4000000
set_option linter.unusedVariables false
namespace Go.Proofs.YtpicinjcmjaogaaGreatDoor
section
/-- The factor for the sum of k texts, in thousandths. -/
def cc (k : Nat) : Nat := if k = 0 then 0 else if k = 1 then 1000 else if k = 2 then 1617 else if k = 3 then 2058 else 500 * k + 560
theorem cc_dup {i k:Nat}(h1:1≤i)(h2:i≤k):(cc i+cc (k-i))*1000≤cc k*1273:=by
 unfold cc
 repeat' split
 all_goals omega
theorem cc_one {k:Nat}(h:1≤k):(1617+cc (k-1))*1000000≤cc k*(1273*1273):=by
 unfold cc
 repeat' split
 all_goals omega
theorem cc_next {n:Nat}(h:2≤n):cc (n+1)*1000≤cc n*1273:=by
 unfold cc
 repeat' split
 all_goals omega
theorem cc_grow {n m:Nat}(k i:Nat)(h:2≤n){D:Nat}(hb:(cc n+m)*1000^D≤cc k*1273^D):∀d,(cc (n+d)+m)*1000^(D+d)≤cc k*1273^(D+d)
 |0=>hb
 |d+1=>by{have ih:=cc_grow k i h hb d;have h1:=cc_next (n:=n+d) (by omega);have e1:(cc (n+(d+1))+m)*1000≤(cc (n+d)+m)*1273:=by{rw[show n+(d+1)=n+d+1 by(omega),Nat.add_mul,Nat.add_mul];omega};calc(cc (n+(d+1))+m)*1000^(D+(d+1))=(cc (n+(d+1))+m)*1000*1000^(D+d):=by{rw[show D+(d+1)=D+d+1 by(omega),Nat.pow_succ,Nat.mul_assoc,Nat.mul_comm (1000^(D+d)) 1000]}
  _≤(cc (n+d)+m)*1273*1000^(D+d):=Nat.mul_le_mul_right _ e1
  _=(cc (n+d)+m)*1000^(D+d)*1273:=by{rw[Nat.mul_assoc,Nat.mul_comm 1273,←Nat.mul_assoc]}
  _≤cc k*1273^(D+d)*1273:=Nat.mul_le_mul_right _ ih
  _=cc k*1273^(D+(d+1)):=by{rw[show D+(d+1)=D+d+1 by(omega),Nat.pow_succ,Nat.mul_assoc]}}
theorem cc_join {i r k:Nat}(h1:1≤i)(h2:i≤r)(h3:i≤k):(cc r+cc (k-i))*1000^(1+(r-i))≤cc k*1273^(1+(r-i)):=by
 obtain⟨d,rfl⟩:∃d,r=i+d:=⟨r-i,by omega⟩
 rw[show i+d-i=d by(omega)]
 by_cases hi:2≤i
 ·exact cc_grow k i hi (D:=1) (by rw[Nat.pow_one,Nat.pow_one];exact cc_dup h1 h3) d
 ·obtain rfl:i=1:=by{omega};cases d with|zero=>{rw[Nat.pow_succ,Nat.pow_succ];simpa using cc_dup (i:=1) (k:=k) (by omega) h3}|succ d=>have:=cc_grow (n:=2) (m:=cc (k-1)) k 1 (by omega) (D:=2) (by have:=cc_one h3;rw[show(1000:Nat)^2=1000000 by(rfl),show(1273:Nat)^2=1273*1273 by(rfl)];exact this) d;rw[show 1+(d+1)=2+d by(omega)];exact this
theorem cc_mono {a b:Nat}(h:a≤b):cc a≤cc b:=by
 unfold cc
 repeat' split
 all_goals omega
theorem cc_pow :∀s:Nat,cc s*1000^s≤1000*1273^s:=by
 intro s
 by_cases h:1≤s
 ·have:=cc_join (i:=1) (r:=s) (k:=1) (by omega) h (by omega);rw[show 1+(s-1)=s by(omega)]at this;simpa[cc]using this
 ·obtain rfl:s=0:=by{omega};decide
/-- The different labels of a list. -/
def labs (ρ : Int → Int) : List Int → List Int
  | [] => []
  | x :: S => if ρ x ∈ S.map ρ then labs ρ S else ρ x :: labs ρ S
theorem labs_mem {ρ:Int→Int}:∀{S:List Int}{z:Int},z∈labs ρ S↔z∈S.map ρ
 | [],z=>Iff.rfl
 |x::S,z=>by{unfold labs;split;·{rename_i h;rw[labs_mem,List.map_cons,List.mem_cons];exact⟨.inr,fun q=>q.elim (fun e=>e▸h) id⟩};·rw[List.mem_cons,labs_mem,List.map_cons,List.mem_cons]}
theorem labs_nodup {ρ:Int→Int}:∀S:List Int,(labs ρ S).Nodup
 | []=>List.nodup_nil
 |x::S=>by{unfold labs;split;·{exact labs_nodup S};·rename_i h;exact List.nodup_cons.2 ⟨fun q=>h (labs_mem.1 q),labs_nodup S⟩}
theorem labs_congr {ρ σ:Int→Int}:∀{S:List Int},(∀x∈S,ρ x=σ x)→labs ρ S=labs σ S
 | [],_=>rfl
 |x::S,h=>by{unfold labs;rw[show S.map ρ=S.map σ from List.map_congr_left (fun y hy=>h y (by simp[hy])),h x (by simp),labs_congr (fun y hy=>h y (by simp[hy]))]}
theorem pigeon :∀{L M:List Int},L.Nodup→(∀x∈L,x∈M)→L.length≤M.length
 | [],_,_,_=>Nat.zero_le _
 |x::L,M,hn,hs=>by{have h1:=List.nodup_cons.1 hn;have hx:=hs x (by simp);have:=pigeon (L:=L) (M:=M.erase x) h1.2 (fun y hy=>(List.mem_erase_of_ne (fun e=>h1.1 (by rw[←e];exact hy))).2 (hs y (by simp[hy])));rw[List.length_erase_of_mem hx]at this;have:=List.length_pos_of_mem hx;simp only[List.length_cons];omega}
def sumM (m : Int → Nat) (X : List Int) : Nat := (X.map m).sum
theorem sumM_nil (m:Int→Nat):sumM m []=0:=rfl
theorem sumM_cons (m:Int→Nat)(x:Int)(X:List Int):sumM m (x::X)=m x+sumM m X:=by
 unfold sumM
 simp
theorem sumM_app (m:Int→Nat)(X Y:List Int):sumM m (X++Y)=sumM m X+sumM m Y:=by
 unfold sumM
 simp
theorem sumM_split (m:Int→Nat)(p:Int→Bool):∀X:List Int,sumM m X=sumM m (X.filter p)+sumM m (X.filter (fun x=> !p x))
 | []=>rfl
 |x::X=>by{have:=sumM_split m p X;rw[sumM_cons];cases h:p x<;>simp[h,sumM_cons]<;>omega}
theorem sumM_congr {m m':Int→Nat}:∀{X:List Int},(∀x∈X,m x=m' x)→sumM m X=sumM m' X
 | [],_=>rfl
 |x::X,h=>by{rw[sumM_cons,sumM_cons,h x (by simp),sumM_congr (fun y hy=>h y (by simp[hy]))]}
theorem sumM_le {m m':Int→Nat}:∀{X:List Int},(∀x∈X,m x≤m' x)→sumM m X≤sumM m' X
 | [],_=>Nat.le_refl _
 |x::X,h=>by{rw[sumM_cons,sumM_cons];have:=h x (by simp);have:=sumM_le (X:=X) (fun y hy=>h y (by simp[hy]));omega}
theorem len_split (p:Int→Bool):∀X:List Int,X.length=(X.filter p).length+(X.filter (fun x=> !p x)).length
 | []=>rfl
 |x::X=>by{have:=len_split p X;cases h:p x<;>simp[h]<;>omega}
/-- A type: how much of each text is of it, which texts may have some, how many XfU are prepared, and how often it may have grown beyond these. -/
structure Ty where
  m : Int → Nat
  S : List Int
  q : Nat
  e : Nat
structure Ty.OK (ρ : Int → Int) (t : Ty) : Prop where
  nd : t.S.Nodup
  pend : t.S.length ≤ t.q + (labs ρ t.S).length
  out : ∀ x, x ∉ t.S → t.m x = 0
  sum : ∀ X : List Int, X.Nodup → (∀ x ∈ X, x ∈ t.S) → sumM t.m X * 1000 ^ (t.e + 1) ≤ cc X.length * 400 * 1273 ^ t.e
/-- A text that is made. -/
def Ty.new (z : Int) (s : Nat) : Ty := ⟨fun x => if x = z then s else 0, [z], 0, 0⟩
theorem Ty.OK.new (ρ:Int→Int)(z:Int){s:Nat}(hs:s≤400):(Ty.new z s).OK ρ:=by
 refine⟨by simp[Ty.new],by simp[Ty.new,labs],fun x hx=>if_neg (by simpa[Ty.new]using hx),fun X hX hs2=>?_⟩
 have hl:=pigeon hX hs2
 cases X with|nil=>{simp[sumM,cc]}|cons x X=>cases X with|nil=>{have:x=z:=by{simpa[Ty.new]using hs2 x (by simp)};subst this;simp[sumM,Ty.new,cc];omega}|cons y X=>simp[Ty.new]at hl
theorem Ty.OK.same {ρ ρ':Int→Int}{t:Ty}(h:t.OK ρ)(he:∀x∈t.S,ρ' x=ρ x):t.OK ρ':=⟨h.nd,by rw[labs_congr he];exact h.pend,h.out,h.sum⟩
theorem Ty.OK.merge {ρ:Int→Int}{t:Ty}(h:t.OK ρ)(a b:Int):(Ty.mk t.m t.S (t.q+1) t.e).OK (fun x=>if ρ x=b then a else ρ x):=by
 refine⟨h.nd,?_,h.out,h.sum⟩
 have h1:((labs ρ t.S).erase b).length≤(labs (fun x=>if ρ x=b then a else ρ x) t.S).length:=by refine pigeon ((labs_nodup t.S).erase b) (fun z hz=>?_);have hz2:=(List.Nodup.mem_erase_iff (labs_nodup t.S)).1 hz;obtain⟨x,hx,e⟩:=List.mem_map.1 (labs_mem.1 hz2.2);refine labs_mem.2 (List.mem_map.2 ⟨x,hx,?_⟩);rw[if_neg (by rw[e];exact hz2.1),e]
 have h2:(labs ρ t.S).length≤((labs ρ t.S).erase b).length+1:=by rw[List.length_erase];split<;>omega
 have:=h.pend
 show t.S.length≤t.q+1+(labs (fun x=>if ρ x=b then a else ρ x) t.S).length
 omega
theorem Ty.OK.tree {ρ:Int→Int}{t:Ty}(h:t.OK ρ)(l:Int){Z:List Int}(hZ:Z.Nodup)(hl:∀x∈Z,ρ x=l):sumM t.m Z*1000^(t.q+t.e+1)≤400*1273^(t.q+t.e+1):=by
 have e1:=sumM_split t.m (fun x=>decide (x∈t.S)) Z
 have e2:sumM t.m (Z.filter (fun x=> !decide (x∈t.S)))=0:=by have:∀X:List Int,(∀x∈X,t.m x=0)→sumM t.m X=0:=by{intro X;induction X with|nil=>{intro _;rfl}|cons x X ih=>intro hx;rw[sumM_cons,hx x (by simp),ih (fun y hy=>hx y (by simp[hy]))]};exact this _ (fun x hx=>h.out x (by simpa using(List.mem_filter.1 hx).2))
 rw[e2,Nat.add_zero]at e1
 obtain⟨Y,hY⟩:∃Y,Y=Z.filter (fun x=>decide (x∈t.S)):=⟨_,rfl⟩
 rw[←hY]at e1
 have hYn:Y.Nodup:=by rw[hY];exact hZ.filter _
 have hYS:∀x∈Y,x∈t.S:=fun x hx=>by rw[hY]at hx;simpa using(List.mem_filter.1 hx).2
 have hYZ:∀x∈Y,x∈Z:=fun x hx=>by rw[hY]at hx;exact(List.mem_filter.1 hx).1
 have h1:=h.sum Y hYn hYS
 have hs:Y.length≤t.q+1:=by have g1:(labs ρ t.S).length≤(l::(t.S.filter (fun x=> !decide (x∈Y))).map ρ).length:=by{refine pigeon (labs_nodup _) (fun z hz=>?_);obtain⟨x,hx,e⟩:=List.mem_map.1 (labs_mem.1 hz);by_cases hy:x∈Y;·{rw[←e,hl x (hYZ x hy)];simp};·exact List.mem_cons_of_mem _ (List.mem_map.2 ⟨x,List.mem_filter.2 ⟨hx,by simpa using hy⟩,e⟩)};have g2:=len_split (fun x=>decide (x∈Y)) t.S;have g3:Y.length≤(t.S.filter (fun x=>decide (x∈Y))).length:=pigeon hYn (fun x hx=>List.mem_filter.2 ⟨hYS x hx,by simpa using hx⟩);have:=h.pend;simp only[List.length_cons,List.length_map]at g1;omega
 have h2:=Nat.le_trans (Nat.mul_le_mul_right (1000^(t.q+1)) (cc_mono hs)) (cc_pow (t.q+1))
 rw[e1,show t.q+t.e+1=t.e+(t.q+1)by(omega)]
 refine Nat.le_of_mul_le_mul_left (c:=1000) ?_ (by decide)
 calc 1000*(sumM t.m Y*1000^(t.e+(t.q+1)))=sumM t.m Y*1000^(t.e+1)*1000^(t.q+1):=by{rw[Nat.pow_add,Nat.pow_succ 1000 t.e];simp only[Nat.mul_assoc,Nat.mul_comm,Nat.mul_left_comm]}
  _≤cc Y.length*400*1273^t.e*1000^(t.q+1):=Nat.mul_le_mul_right _ h1
  _=cc Y.length*1000^(t.q+1)*(400*1273^t.e):=by{simp only[Nat.mul_assoc,Nat.mul_comm,Nat.mul_left_comm]}
  _≤1000*1273^(t.q+1)*(400*1273^t.e):=Nat.mul_le_mul_right _ (Nat.le_trans (Nat.mul_le_mul_right _ (cc_mono hs)) (cc_pow _))
  _=1000*(400*1273^(t.e+(t.q+1))):=by{rw[Nat.pow_add 1273 t.e (t.q+1)];simp only[Nat.mul_assoc,Nat.mul_comm,Nat.mul_left_comm]}
end
section
theorem sumM_zero {m:Int→Nat}:∀{X:List Int},(∀x∈X,m x=0)→sumM m X=0
 | [],_=>rfl
 |x::X,h=>by{rw[sumM_cons,h x (by simp),sumM_zero (fun y hy=>h y (by simp[hy]))]}
theorem sumM_only {m:Int→Nat}{p:Int→Bool}{x:Int}:∀{S:List Int},S.Nodup→x∈S→(∀y∈S,p y=true↔y=x)→sumM m (S.filter p)=m x
 | [],_,h,_=>by{cases h}
 |z::S,hn,hx,hp=>by{have h1:=List.nodup_cons.1 hn;by_cases e:z=x;·{subst e;rw[List.filter_cons_of_pos ((hp z (by simp)).2 rfl),sumM_cons];have:S.filter p= []:=List.filter_eq_nil_iff.2 (fun y hy q=>h1.1 (by rw[←(hp y (by simp[hy])).1 q];exact hy));rw[this,sumM_nil,Nat.add_zero]};·rw[List.filter_cons_of_neg (fun q=>e ((hp z (by simp)).1 q))];refine sumM_only h1.2 ?_ (fun y hy=>hp y (by simp[hy]));rcases List.mem_cons.1 hx with q|q;·{exact absurd q.symm e};·exact q}
theorem sumM_fib {m:Int→Nat}{tgt:Int→Int}{S:List Int}:∀{I:List Int},I.Nodup→(I.map (fun x=>sumM m (S.filter (fun y=>decide (tgt y=x))))).sum=sumM m (S.filter (fun y=>decide (tgt y∈I)))
 | [],_=>by{rw[show S.filter (fun y=>decide (tgt y∈([]:List Int)))= []from List.filter_eq_nil_iff.2 (fun y _=>by simp)];rfl}
 |x::I,hn=>by{have h1:=List.nodup_cons.1 hn;rw[List.map_cons,List.sum_cons,sumM_fib h1.2];have key:∀S:List Int,sumM m (S.filter (fun y=>decide (tgt y=x)))+sumM m (S.filter (fun y=>decide (tgt y∈I)))=sumM m (S.filter (fun y=>decide (tgt y∈x::I))):=by{intro S;induction S with|nil=>{rfl}|cons z S ih=>by_cases e1:tgt z=x;·{have e2:tgt z∉I:=by{rw[e1];exact h1.1};rw[List.filter_cons_of_pos (by simpa using e1),List.filter_cons_of_neg (by simpa using e2),List.filter_cons_of_pos (by simp[e1]),sumM_cons,sumM_cons];omega};·by_cases e2:tgt z∈I;·{rw[List.filter_cons_of_neg (by simpa using e1),List.filter_cons_of_pos (by simpa using e2),List.filter_cons_of_pos (by simp[e2]),sumM_cons,sumM_cons];omega};·rw[List.filter_cons_of_neg (by simpa using e1),List.filter_cons_of_neg (by simpa using e2),List.filter_cons_of_neg (by simp[e1,e2])];exact ih};exact key S}
theorem pigeonF {f:Int→Int}{L M:List Int}(hn:L.Nodup)(h:∀x∈L,∃y∈M,f y=x):L.length≤M.length:=by
 have:=pigeon (M:=M.map f) hn (fun x hx=>by obtain⟨y,hy,e⟩:=h x hx;exact List.mem_map.2 ⟨y,hy,e⟩)
 simpa using this
theorem grow {s c d d' e:Nat}(h:s*1000^(e+1+d)≤c*400*1273^(e+d))(hd:d≤d'):s*1000^(e+d'+1)≤c*400*1273^(e+d'):=by
 obtain⟨x,rfl⟩:∃x,d'=d+x:=⟨d'-d,by omega⟩
 rw[show e+(d+x)+1=e+1+d+x by(omega),show e+(d+x)=e+d+x by(omega),Nat.pow_add 1000 (e+1+d),Nat.pow_add 1273 (e+d),←Nat.mul_assoc,←Nat.mul_assoc]
 exact Nat.mul_le_mul h (Nat.pow_le_pow_left (by decide) x)
theorem nodup_app {L M:List Int}(h1:L.Nodup)(h2:M.Nodup)(h3:∀x∈L,x∉M):(L++M).Nodup:=List.nodup_append.2 ⟨h1,h2,fun x hx y hy e=>h3 x hx (e▸hy)⟩
theorem map_nodup {f:Int→Int}:∀{L:List Int},L.Nodup→(∀x∈L,∀y∈L,f x=f y→x=y)→(L.map f).Nodup
 | [],_,_=>List.nodup_nil
 |x::L,hn,h=>by{have h1:=List.nodup_cons.1 hn;rw[List.map_cons];refine List.nodup_cons.2 ⟨fun q=>?_,map_nodup h1.2 (fun a ha b hb=>h a (by simp[ha]) b (by simp[hb]))⟩;obtain⟨y,hy,e⟩:=List.mem_map.1 q;have:=h x (by simp) y (by simp[hy]) e.symm;exact h1.1 (this▸hy)}
theorem Ty.OK.norm {ρ ρ':Int→Int}{t:Ty}(h:t.OK ρ)(tgt:Int→Int)(h1:∀y∈t.S,ρ (tgt y)=ρ y)(h2:∀y,tgt (tgt y)=tgt y)(h3:∀x,tgt x=x→ρ' x=ρ x)(h4:∀y∈t.S,tgt y≠y→∀w∈t.S,(ρ' w=ρ' y→w=y)∧(ρ' (tgt w)=ρ' y→tgt w=y)):∃t':Ty,t'.OK ρ'∧t'.q+t'.e=t.q+t.e+1∧(∀x,tgt x≠x→t'.m x=t.m x)∧(∀x,tgt x=x→t'.m x=sumM t.m (t.S.filter (fun y=>decide (tgt y=x))))∧∀x∈t'.S,∃y∈t.S,x=y∨x=tgt y:=by
 obtain⟨m,S,q,e⟩:=t
 obtain⟨hn,hq,ho,hs⟩:=h
 dsimp only at hn hq ho hs h1 h4⊢
 obtain⟨D,hD⟩:∃D,D=S.filter (fun y=> !decide (tgt y=y)):=⟨_,rfl⟩
 obtain⟨K,hK⟩:∃K,K=S.filter (fun y=>decide (tgt y=y)):=⟨_,rfl⟩
 obtain⟨N,hN⟩:∃N,N=labs tgt (S.filter (fun y=>decide (tgt y∉S))):=⟨_,rfl⟩
 have mD:∀y,y∈D↔y∈S∧tgt y≠y:=fun y=>by rw[hD,List.mem_filter];simp
 have mK:∀y,y∈K↔y∈S∧tgt y=y:=fun y=>by rw[hK,List.mem_filter];simp
 have mN:∀x,x∈N↔x∉S∧∃y∈S,tgt y=x:=fun x=>by rw[hN,labs_mem,List.mem_map];constructor;·{rintro⟨y,hy,e⟩;have:=List.mem_filter.1 hy;exact⟨by rw[←e];simpa using this.2,y,this.1,e⟩};·rintro⟨h5,y,hy,e⟩;exact⟨y,List.mem_filter.2 ⟨hy,by rw[e];simpa using h5⟩,e⟩
 have nN:N.Nodup:=by rw[hN];exact labs_nodup _
 have nD:D.Nodup:=by rw[hD];exact hn.filter _
 have tK:∀y∈S,tgt y∈K∨tgt y∈N:=fun y hy=>by by_cases q:tgt y∈S;·{exact .inl ((mK _).2 ⟨q,h2 y⟩)};·exact .inr ((mN _).2 ⟨q,y,hy,rfl⟩)
 have lKD:S.length=K.length+D.length:=by rw[hK,hD];exact len_split _ S
 have lND:N.length≤D.length:=pigeonF (f:=tgt) nN (fun x hx=>by obtain⟨h5,y,hy,e⟩:=(mN x).1 hx;exact⟨y,(mD y).2 ⟨hy,fun q=>h5 (by rw[←e,q];exact hy)⟩,e⟩)
 have lKN:(labs ρ S).length≤K.length+N.length:=by have:=pigeon (L:=labs ρ S) (M:=(K++N).map ρ) (labs_nodup S) (fun z hz=>by obtain⟨y,hy,e⟩:=List.mem_map.1 (labs_mem.1 hz);refine List.mem_map.2 ⟨tgt y,?_,by rw[h1 y hy,e]⟩;rw[List.mem_append];exact tK y hy);simpa using this
 have lL:D.length+(labs ρ S).length≤(labs ρ' (N++S)).length:=by have hinj:∀z∈S,ρ z=ρ' (tgt z):=fun z hz=>by{rw[h3 _ (h2 z),h1 z hz]};have:=pigeon (L:=D.map ρ'++labs ρ S) (M:=labs ρ' (N++S)) (nodup_app (map_nodup nD (fun x hx y hy e=>(h4 y ((mD y).1 hy).1 ((mD y).1 hy).2 x ((mD x).1 hx).1).1 e)) (labs_nodup S) (fun z hz hz2=>by obtain⟨y,hy,e⟩:=List.mem_map.1 hz;obtain⟨x,hx,e2⟩:=List.mem_map.1 (labs_mem.1 hz2);have:=(h4 y ((mD y).1 hy).1 ((mD y).1 hy).2 x hx).2 (by rw[←hinj x hx,e2,e]);exact((mD y).1 hy).2 (by rw[←this];exact h2 x))) (fun z hz=>by rw[labs_mem];rcases List.mem_append.1 hz with q|q;·{obtain⟨y,hy,e⟩:=List.mem_map.1 q;exact List.mem_map.2 ⟨y,List.mem_append.2 (.inr ((mD y).1 hy).1),e⟩};·obtain⟨x,hx,e⟩:=List.mem_map.1 (labs_mem.1 q);refine List.mem_map.2 ⟨tgt x,?_,by rw[←hinj x hx,e]⟩;rcases tK x hx with r|r;·{exact List.mem_append.2 (.inr ((mK _).1 r).1)};·exact List.mem_append.2 (.inl r));simpa using this
 refine⟨⟨fun x=>if tgt x=x then sumM m (S.filter (fun y=>decide (tgt y=x)))else m x,N++S,q-(D.length-N.length),e+(1+(D.length-N.length))⟩,⟨?_,?_,?_,?_⟩,?_,fun x hx=>if_neg hx,fun x hx=>if_pos hx,?_⟩
 ·exact nodup_app nN hn (fun x hx=>((mN x).1 hx).1)
 ·show(N++S).length≤q-(D.length-N.length)+(labs ρ' (N++S)).length;rw[List.length_append];omega
 ·intro x hx;have hx1:x∉N:=fun q=>hx (List.mem_append.2 (.inl q));have hx2:x∉S:=fun q=>hx (List.mem_append.2 (.inr q));show(if tgt x=x then sumM m (S.filter (fun y=>decide (tgt y=x)))else m x)=0;split;·{refine sumM_zero (fun y hy=>?_);have:=List.mem_filter.1 hy;exact absurd ((mN x).2 ⟨hx2,y,this.1,by simpa using this.2⟩) hx1};·exact ho x hx2
 ·intro X hX hXS;show sumM (fun x=>if tgt x=x then sumM m (S.filter (fun y=>decide (tgt y=x)))else m x) X*1000^(e+(1+(D.length-N.length))+1)≤cc X.length*400*1273^(e+(1+(D.length-N.length)));obtain⟨I,hI⟩:∃I,I=X.filter (fun x=>decide (tgt x=x∧∃y∈S,tgt y=x∧y≠x)):=⟨_,rfl⟩;obtain⟨X1,hX1⟩:∃X1,X1=X.filter (fun x=> !decide (tgt x=x∧∃y∈S,tgt y=x∧y≠x)):=⟨_,rfl⟩;have mI:∀x,x∈I↔x∈X∧(tgt x=x∧∃y∈S,tgt y=x∧y≠x):=fun x=>by{rw[hI,List.mem_filter];simp};have mX1:∀x,x∈X1↔x∈X∧¬(tgt x=x∧∃y∈S,tgt y=x∧y≠x):=fun x=>by{rw[hX1,List.mem_filter,Bool.not_eq_true',decide_eq_false_iff_not]};have nI:I.Nodup:=by{rw[hI];exact hX.filter _};have nX1:X1.Nodup:=by{rw[hX1];exact hX.filter _};have lX:X.length=I.length+X1.length:=by{rw[hI,hX1];exact len_split _ X};have X1S:∀x∈X1,x∈S:=fun x hx=>by{have h5:=(mX1 x).1 hx;rcases List.mem_append.1 (hXS x h5.1)with r|r;·{obtain⟨r1,y,hy,e⟩:=(mN x).1 r;exact absurd ⟨by rw[←e];exact h2 y,y,hy,e,fun q=>r1 (q▸hy)⟩ h5.2};·exact r};have e1:=sumM_split (fun x=>if tgt x=x then sumM m (S.filter (fun y=>decide (tgt y=x)))else m x) (fun x=>decide (tgt x=x∧∃y∈S,tgt y=x∧y≠x)) X;rw[←hI,←hX1]at e1;have e2:sumM (fun x=>if tgt x=x then sumM m (S.filter (fun y=>decide (tgt y=x)))else m x) X1=sumM m X1:=sumM_congr (fun x hx=>by split;·{rename_i hx2;refine sumM_only hn (X1S x hx) (fun y hy=>?_);rw[decide_eq_true_iff];refine⟨fun q=>Classical.byContradiction (fun r=>((mX1 x).1 hx).2 ⟨hx2,y,hy,q,r⟩),fun q=>by rw[q];exact hx2⟩};·rfl);have e3:sumM (fun x=>if tgt x=x then sumM m (S.filter (fun y=>decide (tgt y=x)))else m x) I=sumM m (S.filter (fun y=>decide (tgt y∈I))):=by{rw[←sumM_fib nI];unfold sumM;exact congrArg List.sum (List.map_congr_left (fun x hx=>if_pos ((mI x).1 hx).2.1))};rw[e1,e2,e3];obtain⟨Y,hY⟩:∃Y,Y=S.filter (fun y=>decide (tgt y∈I)):=⟨_,rfl⟩;have mY:∀y,y∈Y↔y∈S∧tgt y∈I:=fun y=>by{rw[hY,List.mem_filter];simp};have nY:Y.Nodup:=by{rw[hY];exact hn.filter _};rw[←hY];have b1:=hs X1 nX1 X1S;have b2:=hs Y nY (fun y hy=>((mY y).1 hy).1);by_cases hi:I= [];·{have hY0:Y= []:=by{rw[hY,hi];simp};rw[hY0,sumM_nil,Nat.zero_add];have hl:X1.length=X.length:=by{rw[lX,hi];simp};rw[hl]at b1;have:=grow (s:=sumM m X1) (c:=cc X.length) (d:=0) (d':=1+(D.length-N.length)) (e:=e) (by simpa using b1) (by omega);exact this};·have hi1:1≤I.length:=by{cases I with|nil=>{exact absurd rfl hi}|cons=>simp};have hir:I.length≤Y.length:=pigeonF (f:=tgt) nI (fun x hx=>by obtain⟨h5,h6,y,hy,e,-⟩:=(mI x).1 hx;exact⟨y,(mY y).2 ⟨hy,by rw[e];exact hx⟩,e⟩);have g1:=len_split (fun y=>decide (tgt y=y)) Y;have g2:(Y.filter (fun y=>decide (tgt y=y))).length≤(I.filter (fun x=>decide (x∈S))).length:=pigeon (nY.filter _) (fun y hy=>by have h5:=List.mem_filter.1 hy;have h6:=(mY y).1 h5.1;have h7:tgt y=y:=by{simpa using h5.2};exact List.mem_filter.2 ⟨by rw[←h7];exact h6.2,by simpa using h6.1⟩);have g3:(Y.filter (fun y=> !decide (tgt y=y))).length≤(D.filter (fun y=>decide (tgt y∈I))).length:=pigeon (nY.filter _) (fun y hy=>by have h5:=List.mem_filter.1 hy;have h6:=(mY y).1 h5.1;exact List.mem_filter.2 ⟨(mD y).2 ⟨h6.1,by simpa using h5.2⟩,by simpa using h6.2⟩);have g4:=len_split (fun x=>decide (x∈S)) I;have g5:=len_split (fun y=>decide (tgt y∈I)) D;have g6:=len_split (fun x=>decide (x∈I)) N;have g7:(N.filter (fun x=>decide (x∈I))).length≤(I.filter (fun x=> !decide (x∈S))).length:=pigeon (nN.filter _) (fun x hx=>by have h5:=List.mem_filter.1 hx;exact List.mem_filter.2 ⟨by simpa using h5.2,by simpa using((mN x).1 h5.1).1⟩);have g8:(N.filter (fun x=> !decide (x∈I))).length≤(D.filter (fun y=> !decide (tgt y∈I))).length:=pigeonF (f:=tgt) (nN.filter _) (fun x hx=>by have h5:=List.mem_filter.1 hx;obtain⟨h6,y,hy,e⟩:=(mN x).1 h5.1;exact⟨y,List.mem_filter.2 ⟨(mD y).2 ⟨hy,fun q=>h6 (by rw[←e,q];exact hy)⟩,by rw[e];exact h5.2⟩,e⟩);have hra:Y.length-I.length≤D.length-N.length:=by{omega};have hj:=cc_join (k:=X.length) hi1 hir (by omega);rw[show X.length-I.length=X1.length by(omega)]at hj;refine grow (d:=1+(Y.length-I.length)) ?_ (by omega);calc(sumM m Y+sumM m X1)*1000^(e+1+(1+(Y.length-I.length)))=(sumM m Y*1000^(e+1)+sumM m X1*1000^(e+1))*1000^(1+(Y.length-I.length)):=by{rw[Nat.pow_add 1000 (e+1),←Nat.mul_assoc,Nat.add_mul]}
  _≤(cc Y.length*400*1273^e+cc X1.length*400*1273^e)*1000^(1+(Y.length-I.length)):=Nat.mul_le_mul_right _ (Nat.add_le_add b2 b1)
  _=(cc Y.length+cc X1.length)*1000^(1+(Y.length-I.length))*(400*1273^e):=by{rw[Nat.mul_assoc (cc Y.length),Nat.mul_assoc (cc X1.length),←Nat.add_mul];simp only[Nat.mul_assoc,Nat.mul_comm,Nat.mul_left_comm]}
  _≤cc X.length*1273^(1+(Y.length-I.length))*(400*1273^e):=Nat.mul_le_mul_right _ hj
  _=cc X.length*400*1273^(e+(1+(Y.length-I.length))):=by{rw[Nat.pow_add 1273 e];simp only[Nat.mul_assoc,Nat.mul_comm,Nat.mul_left_comm]}
 ·show q-(D.length-N.length)+(e+(1+(D.length-N.length)))=q+e+1;omega
 ·intro x hx;rcases List.mem_append.1 hx with r|r;·{obtain⟨-,y,hy,e⟩:=(mN x).1 r;exact⟨y,hy,.inr e.symm⟩};·exact⟨x,r,.inl rfl⟩
end
end Go.Proofs.YtpicinjcmjaogaaGreatDoor
