import Derived.Test.YtpicinjcmjaogaaGreatDoorW18
import Derived.Test.YtpicinjcmjaogaaGreatDoorW30
set_option maxRecDepth 100000
set_option maxHeartbeats 4000000
set_option linter.unusedVariables false
namespace Go.Proofs.YtpicinjcmjaogaaGreatDoor
section
def Ji (x : OpD) : Bool := decide (x.Xa = 31 ∨ x.Xa = 32)
def cpN (l : List OpD) : Nat := (l.filter Ji).length
def ncN (l : List OpD) : Nat := (l.filter (fun x => !Ji x)).length
theorem Xfy (l:List OpD):cpN l+ncN l=l.length:=by
 unfold cpN ncN
 induction l with|nil=>{rfl}|cons x l ih=>cases h:Ji x<;>simp[h]<;>omega
theorem Xfz (x:OpD)(l:List OpD):cpN (x::l)=cpN l+(if Ji x=true then 1 else 0):=by
 unfold cpN
 cases h:Ji x<;>simp[h]
theorem Xnh (x:OpD)(l:List OpD):ncN (x::l)=ncN l+(if Ji x=true then 0 else 1):=by
 unfold ncN
 cases h:Ji x<;>simp[h]
theorem Xip (l m:List OpD):cpN (l++m)=cpN l+cpN m:=by
 unfold cpN
 simp
theorem Xiq (l:List OpD)(k:Nat):cpN (l.take k)≤cpN l:=by
 have:=Xip (l.take k) (l.drop k)
 rw[List.take_append_drop]at this
 omega
/-- The bounds of the Xk, and of Xk and X9. -/
def uv : Nat → Nat × Nat
  | 0 => (0, 0)
  | n + 1 => (max ((uv n).1 + 400) (uv n).2, max (uv n).2 (2 * (uv n).1 + 800))
theorem Xni (n:Nat):(uv (n+1)).1=max ((uv n).1+400) (uv n).2∧(uv (n+1)).2=max (uv n).2 (2*(uv n).1+800):=⟨rfl,rfl⟩
def wv : Nat → Nat
  | 0 => 0
  | n + 1 => max (wv n) ((uv n).1 + 400)
theorem Xnj :∀{n m:Nat},n≤m→wv n≤wv m:=by
 intro n m h
 induction m with|zero=>{rw[Nat.le_zero.1 h];exact Nat.le_refl _}|succ m ih=>rcases Nat.lt_or_ge n (m+1)with q|q;·{exact Nat.le_trans (ih (by omega)) (Nat.le_max_left _ _)};·rw[show n=m+1 by(omega)];exact Nat.le_refl _
theorem Xnk (c:Nat):1≤2^c:=Nat.one_le_two_pow
theorem Xdz :∀(l:List OpD){A:Ar}{t c n:Nat},A.Inv→A.XB t→20≤t→t+l.length≤900→(∀x∈l,ZC x)→A.Xk≤2^c*(uv n).1→A.Xk+A.X9≤2^c*(uv n).2→tot fK A≤2^c*wv n→(l.foldl (fun A x=>(A.Xo x).2) A).Inv∧(l.foldl (fun A x=>(A.Xo x).2) A).XB (t+l.length)∧(l.foldl (fun A x=>(A.Xo x).2) A).ns.length+1≤2^cpN l*(A.ns.length+1+3*ncN l)∧(l.foldl (fun A x=>(A.Xo x).2) A).Xk≤2^(c+cpN l)*(uv (n+ncN l)).1∧(l.foldl (fun A x=>(A.Xo x).2) A).Xk+(l.foldl (fun A x=>(A.Xo x).2) A).X9≤2^(c+cpN l)*(uv (n+ncN l)).2∧tot fK (l.foldl (fun A x=>(A.Xo x).2) A)≤2^(c+cpN l)*wv (n+ncN l)
 | [],A,t,c,n,hI,hT,ht,hl,hx,hm,hf,hA=>⟨hI,hT,by simp[cpN,ncN],hm,hf,hA⟩
 |x::l,A,t,c,n,hI,hT,ht,hl,hx,hm,hf,hA=>by{have hxs:=hx x (by simp);have hl':t+1+l.length≤900:=by{simp at hl;omega};obtain⟨f1,f2⟩:=Xfk hI (hT.mono (by omega)) x hxs.2.2.2.1;have f3:=XeG hT x (Nat.le_trans hxs.2.2.2.1 ht);obtain⟨m1,m2,m3⟩:=Xm9 hI hxs;have g:=XhA f1;have gk:=Xil f1;obtain⟨k1,k2⟩:=Xng hI x;rw[List.foldl_cons,Xfz,Xnh];have ht':t+(x::l).length=t+1+l.length:=by{simp;omega};rw[ht'];have hx':∀y∈l,ZC y:=fun y hy=>hx y (by simp[hy]);by_cases hc:x.Xa=31∨x.Xa=32;·{have hcp:Ji x=true:=decide_eq_true hc;rw[if_pos hc]at f2;obtain⟨n1,n2⟩:=m2 hc;have e:2^(c+1)=2*2^c:=by{rw[Nat.pow_succ];omega};have q:=Xdz l (c:=c+1) (n:=n) f1 f3 (by omega) hl' hx' (by rw[e,Nat.mul_assoc];omega) (by rw[e,Nat.mul_assoc];omega) (by rw[e,Nat.mul_assoc];have:=k2 hc;omega);rw[if_pos hcp,if_pos hcp];obtain⟨q1,q2,q3,q4,q5,q6⟩:=q;refine⟨q1,q2,?_,by rw[show c+(cpN l+1)=c+1+cpN l by(omega)];exact q4,by rw[show c+(cpN l+1)=c+1+cpN l by(omega)];exact q5,by rw[show c+(cpN l+1)=c+1+cpN l by(omega)];exact q6⟩;refine Nat.le_trans q3 ?_;rw[Nat.pow_succ,Nat.mul_assoc];exact Nat.mul_le_mul_left _ (by omega)};·have hcp:¬Ji x=true:=by{unfold Ji;simpa using hc};rw[if_neg hc]at f2;rw[if_neg hcp,if_neg hcp];have hP:=Xnk c;have e1:=Xni n;have key:(A.Xo x).2.Xk≤2^c*(uv (n+1)).1∧(A.Xo x).2.Xk+(A.Xo x).2.X9≤2^c*(uv (n+1)).2:=by{rw[e1.1,e1.2];by_cases h34:x.Xa=34;·{have:=m1 h34;have a1:2^c*(uv n).2≤2^c*max ((uv n).1+400) (uv n).2:=Nat.mul_le_mul_left _ (by omega);have a2:2^c*(uv n).2≤2^c*max (uv n).2 (2*(uv n).1+800):=Nat.mul_le_mul_left _ (by omega);omega};·have:=m3 h34 hc;have a1:2^c*((uv n).1+400)≤2^c*max ((uv n).1+400) (uv n).2:=Nat.mul_le_mul_left _ (by omega);have a0:2*((uv n).1+400)≤max (uv n).2 (2*(uv n).1+800):=Nat.le_trans (by rw[Nat.mul_add];exact Nat.le_refl _) (Nat.le_max_right _ _);have a2:=Nat.mul_le_mul_left (2^c) a0;rw[Nat.mul_left_comm]at a2;rw[Nat.mul_add]at a1 a2;have a3:400≤2^c*400:=Nat.le_mul_of_pos_left _ hP;omega};have keyA:tot fK (A.Xo x).2≤2^c*wv (n+1):=by{by_cases h34:x.Xa=34;·{exact Nat.le_trans (k1 h34) (Nat.le_trans hA (Nat.mul_le_mul_left _ (Nat.le_max_left _ _)))};·have:=m3 h34 hc;have a1:2^c*((uv n).1+400)≤2^c*wv (n+1):=Nat.mul_le_mul_left _ (Nat.le_max_right _ _);rw[Nat.mul_add]at a1;have a3:400≤2^c*400:=Nat.le_mul_of_pos_left _ hP;omega};obtain⟨q1,q2,q3,q4,q5,q6⟩:=Xdz l (c:=c) (n:=n+1) f1 f3 (by omega) hl' hx' key.1 key.2 keyA;refine⟨q1,q2,?_,by rw[show n+(ncN l+1)=n+1+ncN l by(omega)];exact q4,by rw[show n+(ncN l+1)=n+1+ncN l by(omega)];exact q5,by rw[show n+(ncN l+1)=n+1+ncN l by(omega)];exact q6⟩;refine Nat.le_trans q3 (Nat.mul_le_mul_left _ (by omega))}
/-- What the statements ask of the operations. -/
def Jj (l : List OpD) (most : Int) : Prop := XaQ l most ∧ cpN l ≤ 8
instance (l : List OpD) (most : Int) : Decidable (Jj l most) := inferInstanceAs (Decidable (_ ∧ _))
theorem Xnl :∀c:Nat,c<9→2^c*wv (99-c)≤9223372036854775807:=by
 decide+kernel
theorem Xnm {c n:Nat}(h:c+n≤100)(hc:c≤8):2^c*(0+1+3*n)≤70912:=by
 have h1:2^c*(0+1+3*n)≤2^c*(301-3*c):=Nat.mul_le_mul_left _ (by omega)
 have h2:∀c:Nat,c<9→2^c*(301-3*c)≤70912:=by decide+kernel
 exact Nat.le_trans h1 (h2 c (by omega))
theorem Xnn {l:List OpD}(hl:l.length≤100)(hx:∀x∈l,ZC x)(hc:cpN l≤8):(Zj l).Inv∧(Zj l).XB 200∧(Zj l).ns.length+10≤100000:=by
 obtain⟨q1,q2,q3,-,-,-⟩:=Xdz l (A:=Ar.new) (t:=20) (c:=0) (n:=0) Xen (XcY _) (by omega) (by omega) hx (Nat.le_refl _) (Nat.le_refl _) (Nat.le_refl _)
 have e:=Xfy l
 have h:=Xnm (c:=cpN l) (n:=ncN l) (by omega) hc
 have q3':(Zj l).ns.length+1≤2^cpN l*(0+1+3*ncN l):=q3
 exact⟨q1,q2.mono (by omega),by omega⟩
theorem Xno {l:List OpD}(hl:l.length≤100)(hx:∀x∈l,ZC x)(hc:cpN l≤8):∀y,(Zj l).has y→(Zj l).YJ y≤9223372036854775807:=by
 cases l with|nil=>{exact fun y hy=>absurd hy (Xa3 y)}|cons x l=>have h1:=Xna (hx x (by simp));obtain⟨f1,f2⟩:=Xfk Xen (XcY 900) x (hx x (by simp)).2.2.2.1;have g:=XhA f1;have gk:=Xil f1;have f3:=XeG (XcY 20) x (hx x (by simp)).2.2.2.1;obtain⟨-,-,-,-,-,q4⟩:=Xdz l (A:=(Ar.new.Xo x).2) (t:=21) (c:=0) (n:=0) f1 f3 (by omega) (by simp at hl;omega) (fun y hy=>hx y (by simp[hy])) (by omega) (by omega) (by omega);have e:=Xfy l;rw[Xfz]at hc;have hcl:cpN l<9:=by{split at hc<;>omega};intro y hy;refine Nat.le_trans (Xnd hy) (Nat.le_trans q4 (Nat.le_trans ?_ (Xnl (cpN l) hcl)));rw[Nat.zero_add,Nat.zero_add];exact Nat.mul_le_mul_left _ (Xnj (by simp at hl;omega))
theorem Xir {l:List OpD}{m:Int}(h:Jj l m)(hm:m≤100):l.length≤100∧(∀x∈l,ZC x)∧cpN l≤8:=⟨by have:=h.1.1;omega,h.1.2,h.2⟩
theorem XfA {l:List OpD}{m:Int}(h:Jj l m)(hm:m≤100){k:Nat}(hk:k≤l.length):(Zj (l.take k)).Inv∧(Zj (l.take k)).XB 200∧(Zj (l.take k)).ns.length+10≤100000∧(∀y,(Zj (l.take k)).has y→(Zj (l.take k)).YJ y≤9223372036854775807):=by
 obtain⟨h1,h2,h3⟩:=Xir h hm
 have c:=Nat.le_trans (Xiq l k) h3
 obtain⟨q1,q2,q3⟩:=Xnn (l:=l.take k) (by simp;omega) (fun x hx=>h2 x (List.mem_of_mem_take hx)) c
 exact⟨q1,q2,q3,Xno (by simp;omega) (fun x hx=>h2 x (List.mem_of_mem_take hx)) c⟩
theorem Xnp {l:List OpD}{k:Nat}{x:OpD}(hx:l[k]?=some x):Zj (l.take (k+1))=((Zj (l.take k)).Xo x).2:=by
 unfold Zj
 rw[List.take_add_one,hx,List.foldl_append]
 rfl
end
section
open Go.RowKit Go.Shelf
attribute [local go_sem] Oper.semAt_some
theorem Own.boxed {w0 w:World}{B b:Nat}{A:Ar}{L:List Xf}(o:Own w0 B (.arena b A::L) w)(ob:Obj):Own w0 B (.arena b A:: .box w.heap.size ob::L) (w.alloc ob):=(o.alloc ob).swap
theorem Own.unbox {w0 w:World}{B b g:Nat}{A:Ar}{ob:Obj}{L:List Xf}(o:Own w0 B (.arena b A:: .box g ob::L) w):Own w0 B (.arena b A::L) w:=o.swap.drop
theorem Xib (f:Bool)(w:World):Calls Tryz.prog 69 #[.bool f] w fun e w'=>e= .returned (.int .i64 (Xb1 f))∧w'=w:=by
 cases f with|true=>{go_enter Tryz.func69,Tryz.ntmps69;go_wp2;go_ret;exact⟨rfl,rfl⟩}|false=>go_enter Tryz.func69,Tryz.ntmps69;go_wp2;go_ret;exact⟨rfl,rfl⟩
theorem XmO {w0 w:World}{B b:Nat}{A:Ar}{L:List Xf}(o:Own w0 B (.arena b A::L) w)(hI:A.Inv)(hsz:A.ns.length+10≤100000)(a b2 c:Int)(Xe:Bool)(space:Int)(name s t:ByteArray)(Xb:List Xm)(aa:Option Addr)(al ac:Nat)(hn:name.size≤1000000):Calls Tryz.prog 31 #[.pointer (some ⟨b,0,none⟩),.agg (OpD.cells ⟨21,a,b2,c,Xe,space,name,s,t,Xb⟩ (.slice aa al ac)).toArray] w fun e w'=>e= .returned (Xl (A.Xo ⟨21,a,b2,c,Xe,space,name,s,t,Xb⟩).1)∧Own w0 B (.arena b (A.Xo ⟨21,a,b2,c,Xe,space,name,s,t,Xb⟩).2::L) w':=by
 have hst:A.Xo ⟨21,a,b2,c,Xe,space,name,s,t,Xb⟩=((0,(A.XX a b2 c).1),(A.XX a b2 c).2):=rfl
 rw[hst]
 clear hst
 unfold OpD.cells Xl at*
 have HC:=Xqh (Xe0 (p:=a) (n:=b2) (c:=c) (o.boxed (.cells #[.int .i64 21,.int .i64 a,.int .i64 b2,.int .i64 c,.bool Xe,.int .i64 space,.string name,.string s,.string t,.slice aa al ac] 46)) hI (by omega))
 clear o
 go_enter Tryz.func31,Tryz.ntmps31
 go_wp2_with fail
 refine HC.out.mono ?_
 rintro e w1⟨rfl,o1⟩
 have HO:=Xqh o1.unbox
 clear o1 HC
 go_wp2
 go_ret2
 exact⟨rfl,HO.out⟩
theorem XmP {w0 w:World}{B b:Nat}{A:Ar}{L:List Xf}(o:Own w0 B (.arena b A::L) w)(hI:A.Inv)(hsz:A.ns.length+10≤100000)(a b2 c:Int)(Xe:Bool)(space:Int)(name s t:ByteArray)(Xb:List Xm)(aa:Option Addr)(al ac:Nat)(hn:name.size≤1000000):Calls Tryz.prog 31 #[.pointer (some ⟨b,0,none⟩),.agg (OpD.cells ⟨22,a,b2,c,Xe,space,name,s,t,Xb⟩ (.slice aa al ac)).toArray] w fun e w'=>e= .returned (Xl (A.Xo ⟨22,a,b2,c,Xe,space,name,s,t,Xb⟩).1)∧Own w0 B (.arena b (A.Xo ⟨22,a,b2,c,Xe,space,name,s,t,Xb⟩).2::L) w':=by
 have hst:A.Xo ⟨22,a,b2,c,Xe,space,name,s,t,Xb⟩=((0,(A.XX a b2 0).1),(A.XX a b2 0).2):=rfl
 rw[hst]
 clear hst
 unfold OpD.cells Xl at*
 have HC:=Xqh (Xas (p:=a) (n:=b2) (o.boxed (.cells #[.int .i64 22,.int .i64 a,.int .i64 b2,.int .i64 c,.bool Xe,.int .i64 space,.string name,.string s,.string t,.slice aa al ac] 46)) hI (by omega))
 clear o
 go_enter Tryz.func31,Tryz.ntmps31
 go_wp2_with fail
 refine HC.out.mono ?_
 rintro e w1⟨rfl,o1⟩
 have HO:=Xqh o1.unbox
 clear o1 HC
 go_wp2
 go_ret2
 exact⟨rfl,HO.out⟩
theorem XmQ {w0 w:World}{B b:Nat}{A:Ar}{L:List Xf}(o:Own w0 B (.arena b A::L) w)(hI:A.Inv)(hsz:A.ns.length+10≤100000)(a b2 c:Int)(Xe:Bool)(space:Int)(name s t:ByteArray)(Xb:List Xm)(aa:Option Addr)(al ac:Nat)(hn:name.size≤1000000):Calls Tryz.prog 31 #[.pointer (some ⟨b,0,none⟩),.agg (OpD.cells ⟨23,a,b2,c,Xe,space,name,s,t,Xb⟩ (.slice aa al ac)).toArray] w fun e w'=>e= .returned (Xl (A.Xo ⟨23,a,b2,c,Xe,space,name,s,t,Xb⟩).1)∧Own w0 B (.arena b (A.Xo ⟨23,a,b2,c,Xe,space,name,s,t,Xb⟩).2::L) w':=by
 have hst:A.Xo ⟨23,a,b2,c,Xe,space,name,s,t,Xb⟩=((0,(A.YU a b2 c).1),(A.YU a b2 c).2):=rfl
 rw[hst]
 clear hst
 unfold OpD.cells Xl at*
 have HC:=Xqh (Xla (p:=a) (n:=b2) (c:=c) (o.boxed (.cells #[.int .i64 23,.int .i64 a,.int .i64 b2,.int .i64 c,.bool Xe,.int .i64 space,.string name,.string s,.string t,.slice aa al ac] 46)) hI (by omega))
 clear o
 go_enter Tryz.func31,Tryz.ntmps31
 go_wp2_with fail
 refine HC.out.mono ?_
 rintro e w1⟨rfl,o1⟩
 have HO:=Xqh o1.unbox
 clear o1 HC
 go_wp2
 go_ret2
 exact⟨rfl,HO.out⟩
theorem XmR {w0 w:World}{B b:Nat}{A:Ar}{L:List Xf}(o:Own w0 B (.arena b A::L) w)(hI:A.Inv)(hsz:A.ns.length+10≤100000)(a b2 c:Int)(Xe:Bool)(space:Int)(name s t:ByteArray)(Xb:List Xm)(aa:Option Addr)(al ac:Nat)(hn:name.size≤1000000):Calls Tryz.prog 31 #[.pointer (some ⟨b,0,none⟩),.agg (OpD.cells ⟨24,a,b2,c,Xe,space,name,s,t,Xb⟩ (.slice aa al ac)).toArray] w fun e w'=>e= .returned (Xl (A.Xo ⟨24,a,b2,c,Xe,space,name,s,t,Xb⟩).1)∧Own w0 B (.arena b (A.Xo ⟨24,a,b2,c,Xe,space,name,s,t,Xb⟩).2::L) w':=by
 have hst:A.Xo ⟨24,a,b2,c,Xe,space,name,s,t,Xb⟩=((0,(A.Zo a b2).1),(A.Zo a b2).2):=rfl
 rw[hst]
 clear hst
 unfold OpD.cells Xl at*
 have HC:=Xqh (Xlb (p:=a) (c:=b2) (o.boxed (.cells #[.int .i64 24,.int .i64 a,.int .i64 b2,.int .i64 c,.bool Xe,.int .i64 space,.string name,.string s,.string t,.slice aa al ac] 46)) hI (by omega))
 clear o
 go_enter Tryz.func31,Tryz.ntmps31
 go_wp2_with fail
 refine HC.out.mono ?_
 rintro e w1⟨rfl,o1⟩
 have HO:=Xqh o1.unbox
 clear o1 HC
 go_wp2
 go_ret2
 exact⟨rfl,HO.out⟩
theorem XmS {w0 w:World}{B b:Nat}{A:Ar}{L:List Xf}(o:Own w0 B (.arena b A::L) w)(hI:A.Inv)(hsz:A.ns.length+10≤100000)(a b2 c:Int)(Xe:Bool)(space:Int)(name s t:ByteArray)(Xb:List Xm)(aa:Option Addr)(al ac:Nat)(hn:name.size≤1000000):Calls Tryz.prog 31 #[.pointer (some ⟨b,0,none⟩),.agg (OpD.cells ⟨25,a,b2,c,Xe,space,name,s,t,Xb⟩ (.slice aa al ac)).toArray] w fun e w'=>e= .returned (Xl (A.Xo ⟨25,a,b2,c,Xe,space,name,s,t,Xb⟩).1)∧Own w0 B (.arena b (A.Xo ⟨25,a,b2,c,Xe,space,name,s,t,Xb⟩).2::L) w':=by
 have hst:A.Xo ⟨25,a,b2,c,Xe,space,name,s,t,Xb⟩=((0,(A.XR a).1),(A.XR a).2):=rfl
 rw[hst]
 clear hst
 unfold OpD.cells Xl at*
 have HC:=Xqh (Xlc (h:=a) (o.boxed (.cells #[.int .i64 25,.int .i64 a,.int .i64 b2,.int .i64 c,.bool Xe,.int .i64 space,.string name,.string s,.string t,.slice aa al ac] 46)) hI (by omega))
 clear o
 go_enter Tryz.func31,Tryz.ntmps31
 go_wp2_with fail
 refine HC.out.mono ?_
 rintro e w1⟨rfl,o1⟩
 have HO:=Xqh o1.unbox
 clear o1 HC
 go_wp2
 go_ret2
 exact⟨rfl,HO.out⟩
theorem XmT {w0 w:World}{B b:Nat}{A:Ar}{L:List Xf}(o:Own w0 B (.arena b A::L) w)(hI:A.Inv)(hsz:A.ns.length+10≤100000)(a b2 c:Int)(Xe:Bool)(space:Int)(name s t:ByteArray)(Xb:List Xm)(aa:Option Addr)(al ac:Nat)(hn:name.size≤1000000):Calls Tryz.prog 31 #[.pointer (some ⟨b,0,none⟩),.agg (OpD.cells ⟨26,a,b2,c,Xe,space,name,s,t,Xb⟩ (.slice aa al ac)).toArray] w fun e w'=>e= .returned (Xl (A.Xo ⟨26,a,b2,c,Xe,space,name,s,t,Xb⟩).1)∧Own w0 B (.arena b (A.Xo ⟨26,a,b2,c,Xe,space,name,s,t,Xb⟩).2::L) w':=by
 have hst:A.Xo ⟨26,a,b2,c,Xe,space,name,s,t,Xb⟩=((0,(A.Yq a b2).1),(A.Yq a b2).2):=rfl
 rw[hst]
 clear hst
 unfold OpD.cells Xl at*
 have HC:=Xqh (Xme (p:=a) (n:=b2) (o.boxed (.cells #[.int .i64 26,.int .i64 a,.int .i64 b2,.int .i64 c,.bool Xe,.int .i64 space,.string name,.string s,.string t,.slice aa al ac] 46)) hI (by omega))
 clear o
 go_enter Tryz.func31,Tryz.ntmps31
 go_wp2_with fail
 refine HC.out.mono ?_
 rintro e w1⟨rfl,o1⟩
 have HO:=Xqh o1.unbox
 clear o1 HC
 go_wp2
 go_ret2
 exact⟨rfl,HO.out⟩
theorem XmU {w0 w:World}{B b:Nat}{A:Ar}{L:List Xf}(o:Own w0 B (.arena b A::L) w)(hI:A.Inv)(hsz:A.ns.length+10≤100000)(a b2 c:Int)(Xe:Bool)(space:Int)(name s t:ByteArray)(Xb:List Xm)(aa:Option Addr)(al ac:Nat)(hn:name.size≤1000000):Calls Tryz.prog 31 #[.pointer (some ⟨b,0,none⟩),.agg (OpD.cells ⟨27,a,b2,c,Xe,space,name,s,t,Xb⟩ (.slice aa al ac)).toArray] w fun e w'=>e= .returned (Xl (A.Xo ⟨27,a,b2,c,Xe,space,name,s,t,Xb⟩).1)∧Own w0 B (.arena b (A.Xo ⟨27,a,b2,c,Xe,space,name,s,t,Xb⟩).2::L) w':=by
 have hst:A.Xo ⟨27,a,b2,c,Xe,space,name,s,t,Xb⟩=((0,(A.YV a b2).1),(A.YV a b2).2):=rfl
 rw[hst]
 clear hst
 unfold OpD.cells Xl at*
 have HC:=Xqh (Xmf (n:=a) (d:=b2) (o.boxed (.cells #[.int .i64 27,.int .i64 a,.int .i64 b2,.int .i64 c,.bool Xe,.int .i64 space,.string name,.string s,.string t,.slice aa al ac] 46)) hI (by omega))
 clear o
 go_enter Tryz.func31,Tryz.ntmps31
 go_wp2_with fail
 refine HC.out.mono ?_
 rintro e w1⟨rfl,o1⟩
 have HO:=Xqh o1.unbox
 clear o1 HC
 go_wp2
 go_ret2
 exact⟨rfl,HO.out⟩
theorem XmV {w0 w:World}{B b:Nat}{A:Ar}{L:List Xf}(o:Own w0 B (.arena b A::L) w)(hI:A.Inv)(hsz:A.ns.length+10≤100000)(a b2 c:Int)(Xe:Bool)(space:Int)(name s t:ByteArray)(Xb:List Xm)(aa:Option Addr)(al ac:Nat)(hn:name.size≤1000000):Calls Tryz.prog 31 #[.pointer (some ⟨b,0,none⟩),.agg (OpD.cells ⟨28,a,b2,c,Xe,space,name,s,t,Xb⟩ (.slice aa al ac)).toArray] w fun e w'=>e= .returned (Xl (A.Xo ⟨28,a,b2,c,Xe,space,name,s,t,Xb⟩).1)∧Own w0 B (.arena b (A.Xo ⟨28,a,b2,c,Xe,space,name,s,t,Xb⟩).2::L) w':=by
 have hst:A.Xo ⟨28,a,b2,c,Xe,space,name,s,t,Xb⟩=A.Y0 a name:=rfl
 rw[hst]
 clear hst
 unfold OpD.cells Xl at*
 have HC:=Xqh (Xmr (d:=a) (name:=name) (o.boxed (.cells #[.int .i64 28,.int .i64 a,.int .i64 b2,.int .i64 c,.bool Xe,.int .i64 space,.string name,.string s,.string t,.slice aa al ac] 46)) hI (by omega) hn)
 clear o
 unfold Xl at HC
 go_enter Tryz.func31,Tryz.ntmps31
 go_wp2_with fail
 refine HC.out.mono ?_
 rintro e w1⟨rfl,o1⟩
 have HO:=Xqh o1.unbox
 clear o1 HC
 go_wp2
 go_ret2
 exact⟨rfl,HO.out⟩
theorem XmW {w0 w:World}{B b:Nat}{A:Ar}{L:List Xf}(o:Own w0 B (.arena b A::L) w)(hI:A.Inv)(hsz:A.ns.length+10≤100000)(a b2 c:Int)(Xe:Bool)(space:Int)(name s t:ByteArray)(Xb:List Xm)(aa:Option Addr)(al ac:Nat)(hn:name.size≤1000000):Calls Tryz.prog 31 #[.pointer (some ⟨b,0,none⟩),.agg (OpD.cells ⟨29,a,b2,c,Xe,space,name,s,t,Xb⟩ (.slice aa al ac)).toArray] w fun e w'=>e= .returned (Xl (A.Xo ⟨29,a,b2,c,Xe,space,name,s,t,Xb⟩).1)∧Own w0 B (.arena b (A.Xo ⟨29,a,b2,c,Xe,space,name,s,t,Xb⟩).2::L) w':=by
 have hst:A.Xo ⟨29,a,b2,c,Xe,space,name,s,t,Xb⟩=((0,(A.YO a space name s).1),(A.YO a space name s).2):=rfl
 rw[hst]
 clear hst
 unfold OpD.cells Xl at*
 have HC:=Xqh (Xmt (el:=a) (s:=space) (name:=name) (val:=s) (o.boxed (.cells #[.int .i64 29,.int .i64 a,.int .i64 b2,.int .i64 c,.bool Xe,.int .i64 space,.string name,.string s,.string t,.slice aa al ac] 46)) hI (by omega) hn)
 clear o
 go_enter Tryz.func31,Tryz.ntmps31
 go_wp2_with fail
 refine HC.out.mono ?_
 rintro e w1⟨rfl,o1⟩
 have HO:=Xqh o1.unbox
 clear o1 HC
 go_wp2
 go_ret2
 exact⟨rfl,HO.out⟩
theorem XmX {w0 w:World}{B b:Nat}{A:Ar}{L:List Xf}(o:Own w0 B (.arena b A::L) w)(hI:A.Inv)(hsz:A.ns.length+10≤100000)(a b2 c:Int)(Xe:Bool)(space:Int)(name s t:ByteArray)(Xb:List Xm)(aa:Option Addr)(al ac:Nat)(hn:name.size≤1000000):Calls Tryz.prog 31 #[.pointer (some ⟨b,0,none⟩),.agg (OpD.cells ⟨30,a,b2,c,Xe,space,name,s,t,Xb⟩ (.slice aa al ac)).toArray] w fun e w'=>e= .returned (Xl (A.Xo ⟨30,a,b2,c,Xe,space,name,s,t,Xb⟩).1)∧Own w0 B (.arena b (A.Xo ⟨30,a,b2,c,Xe,space,name,s,t,Xb⟩).2::L) w':=by
 have hst:A.Xo ⟨30,a,b2,c,Xe,space,name,s,t,Xb⟩=((Xb1 (A.Yy a space name).1.1,(A.Yy a space name).1.2),(A.Yy a space name).2):=rfl
 rw[hst]
 clear hst
 unfold OpD.cells Xl at*
 have HC:=Xqh (Xmx (el:=a) (s:=space) (name:=name) (o.boxed (.cells #[.int .i64 30,.int .i64 a,.int .i64 b2,.int .i64 c,.bool Xe,.int .i64 space,.string name,.string s,.string t,.slice aa al ac] 46)) hI (by omega) hn)
 clear o
 go_enter Tryz.func31,Tryz.ntmps31
 go_wp2_with fail
 refine HC.out.mono ?_
 rintro e w1⟨rfl,o1⟩
 have HO:=Xqh o1.unbox
 clear o1 HC
 go_wp2_with fail
 refine(Xib _ _).mono ?_
 rintro e w2⟨rfl,rfl⟩
 go_wp2
 go_ret2
 exact⟨rfl,HO.out⟩
theorem XmY {w0 w:World}{B b:Nat}{A:Ar}{L:List Xf}(o:Own w0 B (.arena b A::L) w)(hI:A.Inv)(hsz:2*A.ns.length+10≤300000)(a b2 c:Int)(Xe:Bool)(space:Int)(name s t:ByteArray)(Xb:List Xm)(aa:Option Addr)(al ac:Nat)(hn:name.size≤1000000):Calls Tryz.prog 31 #[.pointer (some ⟨b,0,none⟩),.agg (OpD.cells ⟨31,a,b2,c,Xe,space,name,s,t,Xb⟩ (.slice aa al ac)).toArray] w fun e w'=>e= .returned (Xl (A.Xo ⟨31,a,b2,c,Xe,space,name,s,t,Xb⟩).1)∧Own w0 B (.arena b (A.Xo ⟨31,a,b2,c,Xe,space,name,s,t,Xb⟩).2::L) w':=by
 have hst:A.Xo ⟨31,a,b2,c,Xe,space,name,s,t,Xb⟩=A.Zx a Xe:=rfl
 rw[hst]
 clear hst
 unfold OpD.cells Xl at*
 have HC:=Xqh (XmL (h:=a) (deep:=Xe) (o.boxed (.cells #[.int .i64 31,.int .i64 a,.int .i64 b2,.int .i64 c,.bool Xe,.int .i64 space,.string name,.string s,.string t,.slice aa al ac] 46)) hI hsz)
 clear o
 unfold Xl at HC
 go_enter Tryz.func31,Tryz.ntmps31
 go_wp2_with fail
 refine HC.out.mono ?_
 rintro e w1⟨rfl,o1⟩
 have HO:=Xqh o1.unbox
 clear o1 HC
 go_wp2
 go_ret2
 exact⟨rfl,HO.out⟩
theorem XmZ {w0 w:World}{B b:Nat}{A:Ar}{L:List Xf}(o:Own w0 B (.arena b A::L) w)(hI:A.Inv)(hsz:2*A.ns.length+10≤300000)(a b2 c:Int)(Xe:Bool)(space:Int)(name s t:ByteArray)(Xb:List Xm)(aa:Option Addr)(al ac:Nat)(hn:name.size≤1000000):Calls Tryz.prog 31 #[.pointer (some ⟨b,0,none⟩),.agg (OpD.cells ⟨32,a,b2,c,Xe,space,name,s,t,Xb⟩ (.slice aa al ac)).toArray] w fun e w'=>e= .returned (Xl (A.Xo ⟨32,a,b2,c,Xe,space,name,s,t,Xb⟩).1)∧Own w0 B (.arena b (A.Xo ⟨32,a,b2,c,Xe,space,name,s,t,Xb⟩).2::L) w':=by
 have hst:A.Xo ⟨32,a,b2,c,Xe,space,name,s,t,Xb⟩=A.Zp A a b2:=rfl
 rw[hst]
 clear hst
 unfold OpD.cells Xl at*
 have HC:=Xqh (XmM (bf:=b) (C:=A) (d:=a) (h:=b2) (o.boxed (.cells #[.int .i64 32,.int .i64 a,.int .i64 b2,.int .i64 c,.bool Xe,.int .i64 space,.string name,.string s,.string t,.slice aa al ac] 46)) hI hI (.inl ⟨rfl,rfl⟩) (by omega))
 clear o
 unfold Xl at HC
 go_enter Tryz.func31,Tryz.ntmps31
 go_wp2_with fail
 refine HC.out.mono ?_
 rintro e w1⟨rfl,o1⟩
 have HO:=Xqh o1.unbox
 clear o1 HC
 go_wp2
 go_ret2
 exact⟨rfl,HO.out⟩
theorem Xm0 {w0 w:World}{B b:Nat}{A:Ar}{L:List Xf}(o:Own w0 B (.arena b A::L) w)(hI:A.Inv)(hsz:A.ns.length+10≤100000)(a b2 c:Int)(Xe:Bool)(space:Int)(name s t:ByteArray)(Xb:List Xm)(aa:Option Addr)(al ac:Nat)(hn:name.size≤1000000):Calls Tryz.prog 31 #[.pointer (some ⟨b,0,none⟩),.agg (OpD.cells ⟨33,a,b2,c,Xe,space,name,s,t,Xb⟩ (.slice aa al ac)).toArray] w fun e w'=>e= .returned (Xl (A.Xo ⟨33,a,b2,c,Xe,space,name,s,t,Xb⟩).1)∧Own w0 B (.arena b (A.Xo ⟨33,a,b2,c,Xe,space,name,s,t,Xb⟩).2::L) w':=by
 have hst:A.Xo ⟨33,a,b2,c,Xe,space,name,s,t,Xb⟩=((0,(A.YE a s).1),(A.YE a s).2):=rfl
 rw[hst]
 clear hst
 unfold OpD.cells Xl at*
 have HC:=Xqh (Xmp (h:=a) (s:=s) (o.boxed (.cells #[.int .i64 33,.int .i64 a,.int .i64 b2,.int .i64 c,.bool Xe,.int .i64 space,.string name,.string s,.string t,.slice aa al ac] 46)) hI (by omega))
 clear o
 go_enter Tryz.func31,Tryz.ntmps31
 go_wp2_with fail
 refine HC.out.mono ?_
 rintro e w1⟨rfl,o1⟩
 have HO:=Xqh o1.unbox
 clear o1 HC
 go_wp2
 go_ret2
 exact⟨rfl,HO.out⟩
theorem Xm1 {w0 w:World}{B b:Nat}{A:Ar}{L:List Xf}(o:Own w0 B (.arena b A::L) w)(hI:A.Inv)(hsz:A.ns.length+10≤100000)(a b2 c:Int)(Xe:Bool)(space:Int)(name s t:ByteArray)(Xb:List Xm)(aa:Option Addr)(al ac:Nat)(hn:name.size≤1000000)(hm:∀y,A.has y→A.YJ y≤9223372036854775807):Calls Tryz.prog 31 #[.pointer (some ⟨b,0,none⟩),.agg (OpD.cells ⟨34,a,b2,c,Xe,space,name,s,t,Xb⟩ (.slice aa al ac)).toArray] w fun e w'=>e= .returned (Xl (A.Xo ⟨34,a,b2,c,Xe,space,name,s,t,Xb⟩).1)∧Own w0 B (.arena b (A.Xo ⟨34,a,b2,c,Xe,space,name,s,t,Xb⟩).2::L) w':=by
 have hst:A.Xo ⟨34,a,b2,c,Xe,space,name,s,t,Xb⟩=((0,(A.normalize a).1),(A.normalize a).2):=rfl
 rw[hst]
 clear hst
 unfold OpD.cells Xl at*
 have HC:=Xqh (Xia (h:=a) (o.boxed (.cells #[.int .i64 34,.int .i64 a,.int .i64 b2,.int .i64 c,.bool Xe,.int .i64 space,.string name,.string s,.string t,.slice aa al ac] 46)) hI (by omega) hm)
 clear o
 go_enter Tryz.func31,Tryz.ntmps31
 go_wp2_with fail
 refine HC.out.mono ?_
 rintro e w1⟨rfl,o1⟩
 have HO:=Xqh o1.unbox
 clear o1 HC
 go_wp2
 go_ret2
 exact⟨rfl,HO.out⟩
theorem Xm2 {w0 w:World}{B b:Nat}{A:Ar}{L:List Xf}(o:Own w0 B (.arena b A::L) w)(hI:A.Inv)(hsz:A.ns.length+10≤100000)(a b2 c:Int)(Xe:Bool)(space:Int)(name s t:ByteArray)(Xb:List Xm)(aa:Option Addr)(al ac:Nat)(hn:name.size≤1000000):Calls Tryz.prog 31 #[.pointer (some ⟨b,0,none⟩),.agg (OpD.cells ⟨35,a,b2,c,Xe,space,name,s,t,Xb⟩ (.slice aa al ac)).toArray] w fun e w'=>e= .returned (Xl (A.Xo ⟨35,a,b2,c,Xe,space,name,s,t,Xb⟩).1)∧Own w0 B (.arena b (A.Xo ⟨35,a,b2,c,Xe,space,name,s,t,Xb⟩).2::L) w':=by
 have hst:A.Xo ⟨35,a,b2,c,Xe,space,name,s,t,Xb⟩=A.split a b2:=rfl
 rw[hst]
 clear hst
 unfold OpD.cells Xl at*
 have HC:=Xqh (Xh9 (h:=a) (at':=b2) (o.boxed (.cells #[.int .i64 35,.int .i64 a,.int .i64 b2,.int .i64 c,.bool Xe,.int .i64 space,.string name,.string s,.string t,.slice aa al ac] 46)) hI (by omega))
 clear o
 unfold Xl at HC
 go_enter Tryz.func31,Tryz.ntmps31
 go_wp2_with fail
 refine HC.out.mono ?_
 rintro e w1⟨rfl,o1⟩
 have HO:=Xqh o1.unbox
 clear o1 HC
 go_wp2
 go_ret2
 exact⟨rfl,HO.out⟩
theorem Xm3 {w0 w:World}{B b:Nat}{A:Ar}{L:List Xf}(o:Own w0 B (.arena b A::L) w)(hI:A.Inv)(hsz:A.ns.length+10≤100000)(Xa a b2 c:Int)(Xe:Bool)(space:Int)(name s t:ByteArray)(Xb:List Xm)(av:Value)(hv:XE w av Xb)(hl:Xb.length≤1000000)(hk:∀j:Int,21≤j→j≤35→Xa≠j):Calls Tryz.prog 31 #[.pointer (some ⟨b,0,none⟩),.agg (OpD.cells ⟨Xa,a,b2,c,Xe,space,name,s,t,Xb⟩ av).toArray] w fun e w'=>e= .returned (Xl (A.Xo ⟨Xa,a,b2,c,Xe,space,name,s,t,Xb⟩).1)∧Own w0 B (.arena b (A.Xo ⟨Xa,a,b2,c,Xe,space,name,s,t,Xb⟩).2::L) w':=by
 obtain⟨aa,ac,rfl,-⟩:=hv.form
 have hst:A.Xo ⟨Xa,a,b2,c,Xe,space,name,s,t,Xb⟩=A.step ⟨Xa,a,b2,c,Xe,space,name,s,t,Xb⟩:=by unfold Ar.Xo;dsimp only;rw[if_neg (hk 21 (by omega) (by omega))];rw[if_neg (hk 22 (by omega) (by omega))];rw[if_neg (hk 23 (by omega) (by omega))];rw[if_neg (hk 24 (by omega) (by omega))];rw[if_neg (hk 25 (by omega) (by omega))];rw[if_neg (hk 26 (by omega) (by omega))];rw[if_neg (hk 27 (by omega) (by omega))];rw[if_neg (hk 28 (by omega) (by omega))];rw[if_neg (hk 29 (by omega) (by omega))];rw[if_neg (hk 30 (by omega) (by omega))];rw[if_neg (hk 31 (by omega) (by omega))];rw[if_neg (hk 32 (by omega) (by omega))];rw[if_neg (hk 33 (by omega) (by omega))];rw[if_neg (hk 34 (by omega) (by omega))];rw[if_neg (hk 35 (by omega) (by omega))]
 rw[hst]
 clear hst
 have e21:(Xa==21)=false:=by simp[hk 21 (by omega) (by omega)]
 have e22:(Xa==22)=false:=by simp[hk 22 (by omega) (by omega)]
 have e23:(Xa==23)=false:=by simp[hk 23 (by omega) (by omega)]
 have e24:(Xa==24)=false:=by simp[hk 24 (by omega) (by omega)]
 have e25:(Xa==25)=false:=by simp[hk 25 (by omega) (by omega)]
 have e26:(Xa==26)=false:=by simp[hk 26 (by omega) (by omega)]
 have e27:(Xa==27)=false:=by simp[hk 27 (by omega) (by omega)]
 have e28:(Xa==28)=false:=by simp[hk 28 (by omega) (by omega)]
 have e29:(Xa==29)=false:=by simp[hk 29 (by omega) (by omega)]
 have e30:(Xa==30)=false:=by simp[hk 30 (by omega) (by omega)]
 have e31:(Xa==31)=false:=by simp[hk 31 (by omega) (by omega)]
 have e32:(Xa==32)=false:=by simp[hk 32 (by omega) (by omega)]
 have e33:(Xa==33)=false:=by simp[hk 33 (by omega) (by omega)]
 have e34:(Xa==34)=false:=by simp[hk 34 (by omega) (by omega)]
 have e35:(Xa==35)=false:=by simp[hk 35 (by omega) (by omega)]
 have hB:=Xw w (.cells (OpD.cells ⟨Xa,a,b2,c,Xe,space,name,s,t,Xb⟩ (.slice aa Xb.length ac)).toArray 46)
 have HC:=Xqh ((o.boxed (.cells (OpD.cells ⟨Xa,a,b2,c,Xe,space,name,s,t,Xb⟩ (.slice aa Xb.length ac)).toArray 46)).call (fun ρ hA=>Xj6 A ρ b ⟨Xa,a,b2,c,Xe,space,name,s,t,Xb⟩ (.slice aa Xb.length ac) _ hA hI.wf (hv.below hB) (by omega) hl))
 clear o hI hv hB hk
 unfold OpD.cells Xl at*
 go_enter Tryz.func31,Tryz.ntmps31
 go_wp2_with fail
 refine HC.out.mono ?_
 rintro e w1⟨rfl,o1⟩
 have HO:=Xqh o1.unbox
 clear o1 HC
 go_wp2
 go_ret2
 exact⟨rfl,HO.out⟩
theorem Xm4 {w0 w:World}{B b:Nat}{A:Ar}{L:List Xf}{x:OpD}{av:Value}(o:Own w0 B (.arena b A::L) w)(hI:A.Inv)(hsz:A.ns.length+10≤100000)(hn:x.name.size≤1000000)(hv:XE w av x.Xb)(hl:x.Xb.length≤1000000)(hm:x.Xa=34→∀y,A.has y→A.YJ y≤9223372036854775807):Calls Tryz.prog 31 #[.pointer (some ⟨b,0,none⟩),.agg (x.cells av).toArray] w fun e w'=>e= .returned (Xl (A.Xo x).1)∧Own w0 B (.arena b (A.Xo x).2::L) w':=by
 obtain⟨Xa,a,b2,c,Xe,space,name,s,t,Xb⟩:=x
 dsimp only at*
 by_cases hk:∀j:Int,21≤j→j≤35→Xa≠j
 ·exact Xm3 o hI hsz Xa a b2 c Xe space name s t Xb av hv hl hk
 obtain⟨aa,ac,rfl,-⟩:=hv.form
 by_cases e21:Xa=21
 ·subst e21;exact XmO o hI hsz a b2 c Xe space name s t Xb aa Xb.length ac hn
 by_cases e22:Xa=22
 ·subst e22;exact XmP o hI hsz a b2 c Xe space name s t Xb aa Xb.length ac hn
 by_cases e23:Xa=23
 ·subst e23;exact XmQ o hI hsz a b2 c Xe space name s t Xb aa Xb.length ac hn
 by_cases e24:Xa=24
 ·subst e24;exact XmR o hI hsz a b2 c Xe space name s t Xb aa Xb.length ac hn
 by_cases e25:Xa=25
 ·subst e25;exact XmS o hI hsz a b2 c Xe space name s t Xb aa Xb.length ac hn
 by_cases e26:Xa=26
 ·subst e26;exact XmT o hI hsz a b2 c Xe space name s t Xb aa Xb.length ac hn
 by_cases e27:Xa=27
 ·subst e27;exact XmU o hI hsz a b2 c Xe space name s t Xb aa Xb.length ac hn
 by_cases e28:Xa=28
 ·subst e28;exact XmV o hI hsz a b2 c Xe space name s t Xb aa Xb.length ac hn
 by_cases e29:Xa=29
 ·subst e29;exact XmW o hI hsz a b2 c Xe space name s t Xb aa Xb.length ac hn
 by_cases e30:Xa=30
 ·subst e30;exact XmX o hI hsz a b2 c Xe space name s t Xb aa Xb.length ac hn
 by_cases e31:Xa=31
 ·subst e31;exact XmY o hI (by omega) a b2 c Xe space name s t Xb aa Xb.length ac hn
 by_cases e32:Xa=32
 ·subst e32;exact XmZ o hI (by omega) a b2 c Xe space name s t Xb aa Xb.length ac hn
 by_cases e33:Xa=33
 ·subst e33;exact Xm0 o hI hsz a b2 c Xe space name s t Xb aa Xb.length ac hn
 by_cases e34:Xa=34
 ·subst e34;exact Xm1 o hI hsz a b2 c Xe space name s t Xb aa Xb.length ac hn (hm rfl)
 by_cases e35:Xa=35
 ·subst e35;exact Xm2 o hI hsz a b2 c Xe space name s t Xb aa Xb.length ac hn
 exact absurd (fun j h1 h2 e=>by omega) hk
end
section
open Go.RowKit Go.Shelf
attribute [local go_sem] Oper.semAt_some
theorem Xnq (l:List OpD)(k:Nat):cpN (l.take k)≤k:=by
 have h:=Xfy (l.take k)
 have:(l.take k).length≤k:=by simp;omega
 omega
theorem Xnr {l:List OpD}{k:Nat}{x:OpD}(hx:l[k]?=some x):cpN (l.take (k+1))=cpN (l.take k)+(if Ji x=true then 1 else 0):=by
 rw[List.take_add_one,hx,Xip]
 show _+cpN [x]=_
 rw[Xfz]
 simp[cpN]
theorem XdA (v:Value)(l:List OpD)(most:Int)(w:World)(hv:JW w v l):Calls Tryz.prog 4 #[v,.int .i64 most] w fun e w'=>e= .returned (.bool (decide (Jj l most)))∧Below w.heap.size w w':=by
 have HSM:=Xqh (fun(W:World)(hb:Below w.heap.size w W)=>Xj9 v l most W (hv.below hb))
 obtain⟨av,cv,rfl,hc1,hc2,hc3⟩:=id hv
 have HF:Hid (∀k:Nat,k≤l.length→(k<l.length→most<k)→(cpN (l.take k)≤8→decide (XaQ l most)=decide (Jj l most))∧(¬cpN (l.take k)≤8→false=decide (Jj l most))):=Xqh (by intro k h1 h2;have hcase:k=l.length∨¬XaQ l most:=by{rcases Nat.lt_or_ge k l.length with q|q;·{exact .inr (fun h=>by have:=h.1;have:=h2 q;omega)};·exact .inl (by omega)};refine⟨fun h=>decide_eq_decide.2 ⟨fun hs=>⟨hs,?_⟩,fun h=>h.1⟩,fun h=>(decide_eq_false (fun hs=>?_)).symm⟩;·{rcases hcase with rfl|q;·{rwa[List.take_length]at h};·exact absurd hs q};·exact h (Nat.le_trans (Xiq l k) hs.2))
 go_enter Tryz.func4,Tryz.ntmps4
 go_wp2
 go_loopw [5,6](fun cnt i wr=>∃k:Nat,k≤l.length∧i= .int .i64 k∧cnt= .int .i64 (cpN (l.take k):Nat)∧Below w.heap.size w wr)(fun _ i _=>l.length-(intOf i).toNat)
 case atStart=>exact⟨0,Nat.zero_le _,rfl,rfl,Below.refl _ _⟩
 case round=>obtain⟨k,hk,rfl,rfl,hB⟩:=hrel;have hle:=Xnq l k;by_cases hgo:k<l.length∧(k:Int)≤most;·{obtain⟨hlt,h20⟩:=hgo;obtain⟨b1,o1,rfl,hcs⟩:=hc3 (by omega);obtain⟨x,hx⟩:∃x,l[k]?=some x:=⟨_,List.getElem?_eq_getElem hlt⟩;obtain⟨av,F⟩:=hcs k x hx;have F:=F.below hB;obtain⟨c0,-⟩:=F.facts;have HCT:=Xqh (Xnr hx);clear hc3 hcs F hx HSM;generalize cpN (l.take k)=cnt at*;by_cases h31:x.Xa=31;·{have e31:(x.Xa==31)=true:=by{simp[h31]};have HE:=Xqh (show cpN (l.take (k+1))=cnt+1 by rw[HCT.out,if_pos (show Ji x=true from decide_eq_true (.inl h31))]);clear h31;go_wp2;go_roundw;(case rel=>exact⟨k+1,hlt,by go_num,by rw[HE.out];go_num,hB⟩);case measure=>simp[intOf];omega};·have e31:(x.Xa==31)=false:=by{simp[h31]};by_cases h32:x.Xa=32;·{have e32:(x.Xa==32)=true:=by{simp[h32]};have HE:=Xqh (show cpN (l.take (k+1))=cnt+1 by rw[HCT.out,if_pos (show Ji x=true from decide_eq_true (.inr h32))]);clear h31 h32;go_wp2;go_roundw;(case rel=>exact⟨k+1,hlt,by go_num,by rw[HE.out];go_num,hB⟩);case measure=>simp[intOf];omega};·have e32:(x.Xa==32)=false:=by{simp[h32]};have HE:=Xqh (show cpN (l.take (k+1))=cnt by rw[HCT.out,if_neg (by unfold Ji;simp[h31,h32])];rfl);clear h31 h32;go_wp2;go_roundw;(case rel=>exact⟨k+1,hlt,by go_num,by rw[HE.out],hB⟩);case measure=>simp[intOf];omega};·have hH:k<l.length→most<k:=fun h=>by{rcases Nat.lt_or_ge k l.length with q|q;·{have:=mt (And.intro q) hgo;omega};·omega};obtain⟨f1,f2⟩:=HF.out k hk hH;have HC:=Xqh (HSM.out wr hB);have F1:=Xqh f1;have F2:=Xqh f2;clear f1 f2 HSM HF;generalize cpN (l.take k)=cnt at*;have fin:∀(P:Prop),True→True:=fun _ h=>h;by_cases hlt:k<l.length;·{have h20:¬(k:Int)≤most:=fun h=>hgo ⟨hlt,h⟩;clear hgo hH;by_cases h8:cnt≤8;·{have h8':(cnt:Int)≤8:=by{omega};have FF:=Xqh (F1.out h8);clear h8 F1 F2;go_wp2_with fail;refine HC.out.mono ?_;rintro e w2⟨rfl,hB2⟩;rw[FF.out];go_wp2;go_ret;exact⟨rfl,hB.trans (hB2.mono hB.size)⟩};·have h8':¬(cnt:Int)≤8:=by{omega};have FF:=Xqh (F2.out h8);clear h8 F1 F2;go_wp2;go_ret;exact⟨XW FF.out,hB⟩};·clear hgo hH;by_cases h8:cnt≤8;·{have h8':(cnt:Int)≤8:=by{omega};have FF:=Xqh (F1.out h8);clear h8 F1 F2;go_wp2_with fail;refine HC.out.mono ?_;rintro e w2⟨rfl,hB2⟩;rw[FF.out];go_wp2;go_ret;exact⟨rfl,hB.trans (hB2.mono hB.size)⟩};·have h8':¬(cnt:Int)≤8:=by{omega};have FF:=Xqh (F2.out h8);clear h8 F1 F2;go_wp2;go_ret;exact⟨XW FF.out,hB⟩
theorem Run5_any (v:Value)(l:List OpD)(w:World)(hv:JW w v l){m:Int}(hs:Jj l m)(hm:m≤100):Calls Tryz.prog 7 #[v] w fun e w'=>e= .returned (.pointer (some ⟨w.heap.size,0,none⟩))∧Own w w.heap.size [.arena w.heap.size (Zj l)] w':=by
 obtain⟨av,cv,rfl,hc1,hc2,hc3⟩:=id hv
 have HN:=Xqh (Xgv w)
 have HT:=Xqh (fun k(hk:k≤l.length)=>XfA hs hm hk)
 have HSM:=Xqh (Xir hs hm)
 clear hs hm
 go_enter Tryz.func7,Tryz.ntmps7
 go_wp2_with fail
 refine HN.out.mono ?_
 rintro e w1⟨rfl,hw1⟩
 have hO:=Xqh (Own.start w).XgB
 rw[←hw1]at hO
 clear hw1 HN
 go_wp2
 go_loopw [4](fun i wr=>∃k:Nat,k≤l.length∧i= .int .i64 k∧Hid (Own w w.heap.size [.arena w.heap.size (Zj (l.take k))] wr))(fun i _=>l.length-(intOf i).toNat)
 case atStart=>exact⟨0,Nat.zero_le _,rfl,hO⟩
 case round=>obtain⟨k,hk,rfl,hT⟩:=hrel;by_cases hlt:k<l.length;·{obtain⟨b1,o1,rfl,hcs⟩:=hc3 (by omega);obtain⟨x,hx⟩:∃x,l[k]?=some x:=⟨_,List.getElem?_eq_getElem hlt⟩;obtain⟨av,F⟩:=hcs k x hx;have F:=F.below hT.out.low;obtain⟨aa,ac,rfl,-⟩:=F.at'.form;obtain⟨c0,c1,c2,c3,c4,c5,c6,c7,c8,c9⟩:=F.facts;obtain⟨q1,-,q2,q3⟩:=HT.out k hk;obtain⟨-,s2,-⟩:=HSM.out;have hxs:=s2 x (List.mem_of_getElem? hx);have HC:=Xqh (Xm4 hT.out q1 q2 (Nat.le_trans hxs.1 (by omega)) F.at' (Nat.le_trans hxs.2.2.2.1 (by omega)) (fun _=>q3));have HX:=Xqh (Xnp hx);clear hc3 hcs F q1 q2 q3 s2 hxs hx hT;go_wp2_with fail;refine HC.out.mono ?_;rintro e w2⟨rfl,hO2⟩;rw[←HX.out]at hO2;have HO2:=Xqh hO2;clear hO2;unfold Xl;go_wp2;go_roundw;(case rel=>exact⟨k+1,hlt,by go_num,HO2⟩);case measure=>simp[intOf];omega};·have hO2:=hT.out;have:k=l.length:=by{omega};rw[this,List.take_length]at hO2;have HO2:=Xqh hO2;clear hO2 hT this;go_wp2;go_ret;exact⟨rfl,HO2.out⟩
theorem Run5_own {w0 w:World}{B:Nat}{L:List Xf}(o:Own w0 B L w)(v:Value)(l:List OpD)(hv:JW w v l){m:Int}(hs:Jj l m)(hm:m≤100):Calls Tryz.prog 7 #[v] w fun e w'=>e= .returned (.pointer (some ⟨w.heap.size,0,none⟩))∧Own w0 B (.arena w.heap.size (Zj l)::L) w':=by
 refine(Run5_any v l w hv hs hm).mono ?_
 rintro e w'⟨rfl,h⟩
 exact⟨rfl,o.fresh h.low (h.get (by simp))⟩
end
end Go.Proofs.YtpicinjcmjaogaaGreatDoor
