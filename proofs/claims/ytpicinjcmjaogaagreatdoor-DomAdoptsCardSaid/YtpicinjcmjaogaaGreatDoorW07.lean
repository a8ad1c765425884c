import Derived.Test.YtpicinjcmjaogaaGreatDoorW06
set_option maxRecDepth 100000
set_option maxHeartbeats 4000000
set_option linter.unusedVariables false
namespace Go.Proofs.YtpicinjcmjaogaaGreatDoor
section
/-- The nodes below a node, in preorder, XQ Xg. -/
def belowF (A : Ar) : Nat → Int → List Int
  | 0, _ => []
  | n + 1, h => (A.get h).Xc.flatMap (fun k => k :: belowF A n k)
def Ar.below (A : Ar) (h : Int) : List Int := belowF A A.ns.length h
theorem XgG {A:Ar}(hI:A.Inv):∀(f:Nat)(h:Int),A.has h→A.ns.length+1≤f+A.depth h→belowF A f h=belowF A (f+1) h
 |0,h,hh,hf=>by{have:=XbT hI hh;omega}
 |f+1,h,hh,hf=>by{rw[belowF,belowF];refine XaR (fun k hk=>?_);obtain⟨h1,h2,_⟩:=XF hI hh hk;rw[XgG hI f _ h1 (by rw[Jq hI h1 hh h2];omega)]}
theorem ZD {A:Ar}(hI:A.Inv){h:Int}(hh:A.has h):A.below h=(A.get h).Xc.flatMap (fun k=>k::A.below k):=by
 have hd:=XgD hI hh
 unfold Ar.below
 rw[XgG hI _ h hh (by omega),belowF]
theorem Zt {A:Ar}(hI:A.Inv):∀h,A.has h→∀x,x∈A.below h→A.has x∧x∈A.Xi h∧(A.Xi x).length<(A.Xi h).length∧(A.get x).Xd≠0:=by
 refine Jc hI (fun h hh _ hk x hx=>?_)
 rw[ZD hI hh]at hx
 obtain⟨k,hkk,hx⟩:=List.mem_flatMap.1 hx
 obtain⟨h1,h2,h3⟩:=XF hI hh hkk
 have hw:=Ym hI hh
 have hlen:(A.Xi k).length<(A.Xi h).length:=by obtain⟨s,t,e⟩:=List.append_of_mem hkk;rw[hw,e];simp;omega
 have hin:∀y,y∈A.Xi k→y∈A.Xi h:=fun y hy=>by rw[hw];exact List.mem_cons.2 (.inr (List.mem_append.2 (.inr (List.mem_flatMap.2 ⟨k,hkk,hy⟩))))
 rcases List.mem_cons.1 hx with rfl|hx
 ·exact⟨h1,hin _ (by rw[Ym hI h1];simp),hlen,by rw[h3];have:=hh.1;omega⟩
 ·obtain⟨q1,q2,q3,q4⟩:=hk k hkk x hx;exact⟨q1,hin _ q2,Nat.lt_trans q3 hlen,q4⟩
theorem XcR {A:Ar}(hI:A.Inv){h:Int}(hh:A.has h)(hc:(A.get h).Xg≠0):(A.Xi (A.get h).Xg).length<(A.Xi h).length:=by
 rw[Ym hI hh,if_pos hc]
 simp
 omega
theorem YL {A:Ar}(hI:A.Inv){h:Int}(hh:A.has h):0<(A.Xi h).length:=by
 rw[Ym hI hh]
 simp
theorem Xkb {A:Ar}(hI:A.Inv):∀h,A.has h→(A.below h).length<(A.Xi h).length:=by
 refine Jc hI (fun h hh _ hk=>?_)
 rw[ZD hI hh,Ym hI hh]
 have:∀l:List Int,(∀k∈l,(A.below k).length<(A.Xi k).length)→(l.flatMap (fun k=>k::A.below k)).length≤(l.flatMap A.Xi).length:=by intro l;induction l with|nil=>{simp}|cons a l ih=>intro h;have h1:=h a (by simp);have h2:=ih (fun k hk=>h k (by simp[hk]));simp only[List.flatMap_cons,List.length_append,List.length_cons]at h2⊢;omega
 have:=this _ hk
 simp only[List.length_cons,List.length_append]
 omega
/-- B has the nodes of A with the same Xcw and fields, but for node documents; B may have more. -/
structure Ar.Tree (A B : Ar) : Prop where
  le : A.ns.length ≤ B.ns.length
  get : ∀ x, A.has x → ∃ d, B.get x = { A.get x with doc := d }
theorem Ar.Tree.has {A B:Ar}(h:A.Tree B){x:Int}(hx:A.has x):B.has x:=⟨hx.1,by have:=hx.2;have:=h.le;unfold Ar.n at*;omega⟩
theorem Ar.Tree.refl (A:Ar):A.Tree A:=⟨Nat.le_refl _,fun x _=>⟨(A.get x).doc,rfl⟩⟩
theorem Ar.Tree.trans {A B C:Ar}(h:A.Tree B)(k:B.Tree C):A.Tree C:=⟨Nat.le_trans h.le k.le,fun x hx=>by obtain⟨d,e⟩:=h.get x hx;obtain⟨d',e'⟩:=k.get x (h.has hx);exact⟨d',by rw[e',e]⟩⟩
theorem Ar.Tree.Xc {A B:Ar}(h:A.Tree B){x:Int}(hx:A.has x):(B.get x).Xc=(A.get x).Xc:=by
 obtain⟨d,e⟩:=h.get x hx
 rw[e]
theorem Ar.Tree.Xg {A B:Ar}(h:A.Tree B){x:Int}(hx:A.has x):(B.get x).Xg=(A.get x).Xg:=by
 obtain⟨d,e⟩:=h.get x hx
 rw[e]
theorem Ar.Tree.Xa {A B:Ar}(h:A.Tree B){x:Int}(hx:A.has x):(B.get x).Xa=(A.get x).Xa:=by
 obtain⟨d,e⟩:=h.get x hx
 rw[e]
theorem Ar.Tree.Xd {A B:Ar}(h:A.Tree B){x:Int}(hx:A.has x):(B.get x).Xd=(A.get x).Xd:=by
 obtain⟨d,e⟩:=h.get x hx
 rw[e]
theorem Ar.Tree.Xi {A B:Ar}(h:A.Tree B)(hA:A.Inv)(hB:B.Inv):∀x,A.has x→B.Xi x=A.Xi x:=by
 refine Jc hA (fun x hx hc hk=>?_)
 rw[Ym hA hx,Ym hB (h.has hx),h.Xc hx,h.Xg hx]
 congr 1
 congr 1
 ·split;·{rename_i q;exact hc q};·rfl
 ·exact XaR (fun k hkk=>hk k hkk)
theorem Ar.Tree.below {A B:Ar}(h:A.Tree B)(hA:A.Inv)(hB:B.Inv):∀x,A.has x→B.below x=A.below x:=by
 refine Jc hA (fun x hx hc hk=>?_)
 rw[ZD hA hx,ZD hB (h.has hx),h.Xc hx]
 exact XaR (fun k hkk=>by rw[hk k hkk])
theorem Ar.Xal (A:Ar)(d:Int):A.Tree (A.Xq d).2:=⟨(Ar.XaK A d).1,fun x hx=>⟨(A.get x).doc,by rw[(Ar.JS hx).1]⟩⟩
theorem Ar.Xam (A:Ar)(h d:Int):A.Tree (A.Xt h d).2:=by
 unfold Ar.Xt
 split
 ·exact Ar.Tree.refl A
 ·rename_i q;have hh:A.has h:=Classical.not_not.1 (fun e=>q (.inl e));split;·{exact Ar.Tree.refl A};·refine⟨by simp[Ar.mod],fun x hx=>?_⟩;show∃d',(A.mod h fun x=>{x with doc:=d}).get x=_;rw[Ar.Zr _ hh hx];split;·{rename_i e;subst e;exact⟨d,rfl⟩};·exact⟨(A.get x).doc,rfl⟩
theorem J1 {A:Ar}{h:Int}(hp:(A.get h).Xd=0):A.cut h=A:=by
 unfold Ar.cut
 rw[if_pos hp]
theorem XbV {A:Ar}{d:Int}(hd:A.has d)(hl:A.Xh.length=A.ns.length+1):(A.Xq d).1=(A.Xq d).2.Xu d∧(A.Xq d).2.Xu d≠0:=by
 unfold Ar.Xq
 by_cases h0:A.Xu d≠0
 ·rw[if_pos h0];exact⟨rfl,h0⟩
 ·rw[if_neg h0];have hlen:(A.Xn false).Xh.length=A.ns.length+2:=by{simp[Ar.Xn,Ar.add,hl]};have h1:=hd.1;have h2:=hd.2;unfold Ar.n at h2;have e:({A.Xn false with Xh:=((A.Xn false).Xh.set d.toNat (A.n+1)).set (A.n+1).toNat (A.n+1)}:Ar).Xu d=if d.toNat=(A.n+1).toNat then A.n+1 else if d.toNat=d.toNat then A.n+1 else(A.Xn false).Xu d:=Xcv (by omega) (by unfold Ar.n;omega);have e2:({A.Xn false with Xh:=((A.Xn false).Xh.set d.toNat (A.n+1)).set (A.n+1).toNat (A.n+1)}:Ar).Xu d=A.n+1:=by{rw[e];split;·{rfl};·rw[if_pos rfl]};exact⟨e2.symm,by rw[e2];unfold Ar.n;omega⟩
theorem Xbj (A:Ar)(h d:Int):(A.Xt h d).2.Xh=A.Xh∧(A.Xt h d).2.ns.length=A.ns.length:=by
 unfold Ar.Xt
 split
 ·exact⟨rfl,rfl⟩
 ·split;·{exact⟨rfl,rfl⟩};·exact⟨rfl,by simp[Ar.mod]⟩
/-- What a Xn gives to a node: itself as the node Xn, and its Xh Xn to the Xg. -/
def Yf (rec : Ar → Int → Int → Ar) (d : Int) (B : Ar) (x : Int) : Ar :=
  if ((B.Xt x d).2.get x).Xg = 0 then (B.Xt x d).2
  else rec ((B.Xt x d).2.Xq d).2 ((B.Xt x d).2.get x).Xg ((B.Xt x d).2.Xq d).1
/-- Adoption, with fuel. -/
def adoptF : Nat → Ar → Int → Int → Ar
  | 0, A, h, _ => A.cut h
  | n + 1, A, h, d => if ((A.cut h).get h).doc = d then A.cut h else (h :: (A.cut h).below h).foldl (Yf (adoptF n) d) (A.cut h)
def Ar.YM (A : Ar) (h d : Int) : Ar := adoptF A.ns.length A h d
theorem Ze {α β:Type}{f:β→α→β}{P:β→Prop}:∀{l:List α}{b:β},P b→(∀b x,x∈l→P b→P (f b x))→P (l.foldl f b)
 | [],b,hb,_=>hb
 |a::l,b,hb,h=>Ze (l:=l) (h b a (by simp) hb) (fun b x hx=>h b x (by simp[hx]))
theorem XbW {rec:Ar→Int→Int→Ar}{C B:Ar}{d x:Int}(hB:B.Inv)(hT:C.Tree B)(hd:C.has d)(hk:(C.get d).Xa=1)(hx:C.has x)(hrec:∀B' c i,B'.Inv→B'.has c→(B'.get c).Xd=0→B'.has i→(B'.get i).Xa=1→(rec B' c i).Inv∧B'.Tree (rec B' c i)):(Yf rec d B x).Inv∧C.Tree (Yf rec d B x):=by
 have h1:=Ar.Inv.Xt hB x d
 have t1:=hT.trans (Ar.Xam B x d)
 unfold Yf
 split
 ·exact⟨h1,t1⟩
 ·rename_i hc;obtain⟨c1,c2,c3⟩:=ZL h1 (t1.has hx) hc;have hd1:=t1.has hd;have h2:=Ar.XC.Xq h1 hd1;obtain⟨v1,v2⟩:=Ar.XC.Xbb h1 hd1;have t2:=Ar.Xal (B.Xt x d).2 d;obtain⟨r1,r2⟩:=hrec _ _ _ h2 (t2.has c1) (by rw[t2.Xd c1];exact c3) v1 v2;exact⟨r1,(t1.trans t2).trans r2⟩
theorem XaT :∀(n:Nat){A:Ar}{h d:Int},A.Inv→A.has h→A.has d→(A.get d).Xa=1→(adoptF n A h d).Inv∧(A.cut h).Tree (adoptF n A h d)
 |0,A,h,d,hI,hh,hd,hk=>⟨Ar.XC.cut hI hh,Ar.Tree.refl _⟩
 |n+1,A,h,d,hI,hh,hd,hk=>by{have hC:(A.cut h).Inv:=Ar.XC.cut hI hh;have hdC:(A.cut h).has d:=(Ar.X5 _ _ _).2 hd;have hkC:((A.cut h).get d).Xa=1:=by{rw[Ar.Zc hI hh hd];exact hk};have hhC:(A.cut h).has h:=(Ar.X5 _ _ _).2 hh;unfold adoptF;split;·{exact⟨hC,Ar.Tree.refl _⟩};·refine Ze (P:=fun B:Ar=>B.Inv∧(A.cut h).Tree B) ⟨hC,Ar.Tree.refl _⟩ ?_;rintro B x hx⟨hB,hT⟩;have hxC:(A.cut h).has x:=by{rcases List.mem_cons.1 hx with rfl|hx;·{exact hhC};·exact(Zt hC h hhC x hx).1};refine XbW hB hT hdC hkC hxC ?_;intro B' c i hB' hc hp hi hik;have:=XaT n hB' hc hi hik;rw[J1 hp]at this;exact this}
theorem Xer :∀(n:Nat){A:Ar}{h d:Int},A.Inv→A.has h→A.has d→(A.get d).Xa=1→A.Xu d≠0→(adoptF n A h d).Xh=A.Xh∧(adoptF n A h d).ns.length=A.ns.length
 |0,A,h,d,hI,hh,hd,hk,hi=>⟨Ar.Z2 A h,Ar.YY A h⟩
 |n+1,A,h,d,hI,hh,hd,hk,hi=>by{have hC:(A.cut h).Inv:=Ar.XC.cut hI hh;have hdC:(A.cut h).has d:=(Ar.X5 _ _ _).2 hd;have hkC:((A.cut h).get d).Xa=1:=by{rw[Ar.Zc hI hh hd];exact hk};have hhC:(A.cut h).has h:=(Ar.X5 _ _ _).2 hh;unfold adoptF;split;·{exact⟨Ar.Z2 A h,Ar.YY A h⟩};·have:=Ze (f:=Yf (adoptF n) d) (l:=h::(A.cut h).below h) (b:=A.cut h) (P:=fun B:Ar=>(B.Inv∧(A.cut h).Tree B)∧B.Xh=A.Xh∧B.ns.length=A.ns.length) ⟨⟨hC,Ar.Tree.refl _⟩,Ar.Z2 A h,Ar.YY A h⟩ ?_;·{exact this.2};rintro B x hx⟨⟨hB,hT⟩,e1,e2⟩;have hxC:(A.cut h).has x:=by{rcases List.mem_cons.1 hx with rfl|hx;·{exact hhC};·exact(Zt hC h hhC x hx).1};refine⟨XbW hB hT hdC hkC hxC (fun B' c i hB' hc hp hi hik=>by have:=XaT n hB' hc hi hik;rw[J1 hp]at this;exact this),?_⟩;obtain⟨s1,s2⟩:=Xbj B x d;have h1:=Ar.Inv.Xt hB x d;have t1:=hT.trans (Ar.Xam B x d);unfold Yf;split;·{exact⟨s1.trans e1,s2.trans e2⟩};·rename_i hc;obtain⟨c1,c2,c3⟩:=ZL h1 (t1.has hxC) hc;have hd1:=t1.has hdC;have hin:(B.Xt x d).2.Xu d≠0:=by{have:(B.Xt x d).2.Xu d=A.Xu d:=by{unfold Ar.Xu;rw[s1,e1]};rw[this];exact hi};have he:(B.Xt x d).2.Xq d=((B.Xt x d).2.Xu d,(B.Xt x d).2):=by{unfold Ar.Xq;rw[if_pos hin]};obtain⟨q1,q2,q3,q4⟩:=Ar.XC.Xh h1 d hin;rw[he];obtain⟨r1,r2⟩:=Xer n h1 c1 q2 q3 (by rw[q4];exact hin);exact⟨r1.trans (s1.trans e1),r2.trans (s2.trans e2)⟩}
/-- How many nodes there may be when a Xn has got what it wants: one more, if its Xh Xn was missing. -/
def Ar.cap (A : Ar) (d : Int) : Nat := A.ns.length + (if A.Xu d = 0 then 1 else 0)
theorem Ar.Js {A B:Ar}{d:Int}(h1:B.Xh=A.Xh)(h2:B.ns.length=A.ns.length):B.cap d=A.cap d:=by
 unfold Ar.cap Ar.Xu
 rw[h1,h2]
theorem Ar.Yv (A:Ar)(d:Int):A.ns.length≤A.cap d:=by
 unfold Ar.cap
 omega
theorem Ar.Jk (A:Ar)(d:Int):A.cap d≤A.ns.length+1:=by
 unfold Ar.cap
 split<;>omega
theorem XcS {A:Ar}{d:Int}(hd:A.has d)(hl:A.Xh.length=A.ns.length+1):(A.Xq d).2.cap d=A.cap d:=by
 have h:=XbV hd hl
 have h2:=h.2
 unfold Ar.cap
 rw[if_neg h2]
 by_cases q:A.Xu d=0
 ·rw[if_pos q];unfold Ar.Xq;rw[if_neg (fun e=>e q)];simp[Ar.Xn,Ar.add]
 ·rw[if_neg q];unfold Ar.Xq;rw[if_pos q]
theorem Xkc :∀(n:Nat){A:Ar}{h d:Int},A.Inv→A.has h→A.has d→(A.get d).Xa=1→(adoptF n A h d).cap d=A.cap d
 |0,A,h,d,hI,hh,hd,hk=>Ar.Js (Ar.Z2 A h) (Ar.YY A h)
 |n+1,A,h,d,hI,hh,hd,hk=>by{have hC:(A.cut h).Inv:=Ar.XC.cut hI hh;have hdC:(A.cut h).has d:=(Ar.X5 _ _ _).2 hd;have hkC:((A.cut h).get d).Xa=1:=by{rw[Ar.Zc hI hh hd];exact hk};have hhC:(A.cut h).has h:=(Ar.X5 _ _ _).2 hh;have h0:(A.cut h).cap d=A.cap d:=Ar.Js (Ar.Z2 A h) (Ar.YY A h);unfold adoptF;split;·{exact h0};·have:=Ze (f:=Yf (adoptF n) d) (l:=h::(A.cut h).below h) (b:=A.cut h) (P:=fun B:Ar=>(B.Inv∧(A.cut h).Tree B)∧B.cap d=A.cap d) ⟨⟨hC,Ar.Tree.refl _⟩,h0⟩ ?_;·{exact this.2};rintro B x hx⟨⟨hB,hT⟩,e1⟩;have hxC:(A.cut h).has x:=by{rcases List.mem_cons.1 hx with rfl|hx;·{exact hhC};·exact(Zt hC h hhC x hx).1};refine⟨XbW hB hT hdC hkC hxC (fun B' c i hB' hc hp hi hik=>by have:=XaT n hB' hc hi hik;rw[J1 hp]at this;exact this),?_⟩;obtain⟨s1,s2⟩:=Xbj B x d;have s3:(B.Xt x d).2.cap d=A.cap d:=(Ar.Js s1 s2).trans e1;have h1:=Ar.Inv.Xt hB x d;have t1:=hT.trans (Ar.Xam B x d);unfold Yf;split;·{exact s3};·rename_i hc;obtain⟨c1,c2,c3⟩:=ZL h1 (t1.has hxC) hc;have hd1:=t1.has hdC;have h2:=Ar.XC.Xq h1 hd1;obtain⟨v1,v2⟩:=Ar.XC.Xbb h1 hd1;obtain⟨i1,i2⟩:=XbV hd1 h1.wf.Xh;obtain⟨q1,q2,q3,q4⟩:=Ar.XC.Xh h2 d i2;obtain⟨r1,r2⟩:=Xer n h2 ((Ar.Xal _ d).has c1) v1 v2 (by rw[i1,q4];exact i2);rw[Ar.Js r1 r2,XcS hd1 h1.wf.Xh,s3]}
/-- The nodes that are inserted for a node. -/
def Ar.X7 (A : Ar) (h : Int) : List Int := if (A.get h).Xa = 2 then (A.get h).Xc else [h]
/-- The child that follows a node, or 0. -/
def Ar.next (A : Ar) (h : Int) : Int :=
  if 0 < A.index h + 1 ∧ A.index h + 1 < ((A.get (A.get h).Xd).Xc.length : Int) then (A.get (A.get h).Xd).Xc[(A.index h + 1).toNat]?.getD 0 else 0
def Yd (d p c : Int) (B : Ar) (x : Int) : Ar := ((B.YM x d).put p x c).2
def Ar.YD (A : Ar) (p n c : Int) : Ar := (A.X7 n).foldl (Yd (A.get p).doc p c) A
theorem JO (A:Ar)(p x c:Int):(A.put p x c).2.Xh=A.Xh∧(A.put p x c).2.ns.length=A.ns.length:=by
 unfold Ar.put
 split
 ·exact⟨rfl,rfl⟩
 ·exact⟨Ar.XdZ A p x c,by have:=Ar.XaI A p x c;unfold Ar.n at this;dsimp only;omega⟩
theorem XcT {A:Ar}(hI:A.Inv)(p x c:Int){y:Int}(hy:A.has y):(A.put p x c).2.has y∧((A.put p x c).2.get y).Xa=(A.get y).Xa∧((A.put p x c).2.get y).doc=(A.get y).doc:=by
 refine⟨⟨hy.1,by have:=(JO A p x c).2;have:=hy.2;unfold Ar.n at*;omega⟩,?_⟩
 unfold Ar.put
 split
 ·exact⟨rfl,rfl⟩
 ·rename_i q;have q:=Classical.not_not.1 q;obtain⟨h1,h2,h3,h4,h5,h6⟩:=Xem q;have hne:p≠x:=fun e=>by{subst e;have:A.contains p p=true:=by{simp[Ar.contains,h1,Xcx (hI.wf.Zs h1) h1]};rw[this]at h6;exact absurd h6 (by simp)};show((A.place p x c).get y).Xa=_∧((A.place p x c).get y).doc=_;rw[Ar.Xcy h1 h2 hy hne,Ar.Zc hI h2 hy];exact⟨rfl,rfl⟩
theorem Xbk {A:Ar}{h d:Int}(hI:A.Inv)(hh:A.has h)(hd:A.has d)(hk:(A.get d).Xa=1):(A.YM h d).Inv∧(A.cut h).Tree (A.YM h d)∧(A.YM h d).cap d=A.cap d:=⟨(XaT _ hI hh hd hk).1,(XaT _ hI hh hd hk).2,Xkc _ hI hh hd hk⟩
theorem Xkd {A:Ar}{d p c x:Int}(hI:A.Inv)(hx:A.has x)(hd:A.has d)(hk:(A.get d).Xa=1):(Yd d p c A x).Inv∧(Yd d p c A x).cap d=A.cap d∧∀y,A.has y→(Yd d p c A x).has y∧((Yd d p c A x).get y).Xa=(A.get y).Xa:=by
 obtain⟨i1,i2,i3⟩:=Xbk hI hx hd hk
 unfold Yd
 refine⟨Ar.Inv.put i1 _ _ _,by rw[Ar.Js (JO _ _ _ _).1 (JO _ _ _ _).2,i3],fun y hy=>?_⟩
 have hc:(A.cut x).has y:=(Ar.X5 _ _ _).2 hy
 obtain⟨g1,g2,_⟩:=XcT i1 p x c (i2.has hc)
 refine⟨g1,?_⟩
 rw[g2,i2.Xa hc,Ar.Zc hI hx hy]
theorem XbX {A:Ar}{h:Int}(hI:A.Inv)(hh:A.has h):∀x∈A.X7 h,A.has x:=by
 intro x hx
 unfold Ar.X7 at hx
 split at hx
 ·exact(XF hI hh hx).1
 ·simp at hx;subst hx;exact hh
theorem Xes {A:Ar}{d p c:Int}(hd:A.has d)(hk:(A.get d).Xa=1)(hI:A.Inv){l:List Int}(hl:∀x∈l,A.has x):(l.foldl (Yd d p c) A).Inv∧(l.foldl (Yd d p c) A).cap d=A.cap d∧∀y,A.has y→(l.foldl (Yd d p c) A).has y∧((l.foldl (Yd d p c) A).get y).Xa=(A.get y).Xa:=by
 refine Ze (P:=fun B:Ar=>B.Inv∧B.cap d=A.cap d∧∀y,A.has y→B.has y∧(B.get y).Xa=(A.get y).Xa) ⟨hI,rfl,fun y hy=>⟨hy,rfl⟩⟩ ?_
 rintro B x hx⟨h1,h2,h3⟩
 obtain⟨q1,q2,q3⟩:=Xkd (p:=p) (c:=c) h1 (h3 x (hl x hx)).1 (h3 d hd).1 ((h3 d hd).2.trans hk)
 exact⟨q1,q2.trans h2,fun y hy=>⟨(q3 y (h3 y hy).1).1,(q3 y (h3 y hy).1).2.trans (h3 y hy).2⟩⟩
theorem Xet {A:Ar}{p n c:Int}(hI:A.Inv)(hp:A.has p)(hn:A.has n):(A.YD p n c).Inv∧(A.YD p n c).ns.length≤A.ns.length+1:=by
 obtain⟨d1,d2⟩:=hI.ZV p hp
 obtain⟨q1,q2,q3⟩:=Xes (p:=p) (c:=c) d1 d2 hI (XbX hI hn)
 refine⟨q1,?_⟩
 have h1:=Ar.Yv (A.YD p n c) (A.get p).doc
 have h2:=Ar.Jk A (A.get p).doc
 unfold Ar.YD at h1⊢
 omega
/-- The kinds of the children before a child, and behind it. -/
def Zf (A : Ar) (c : Int) (s : Bool × List Int × List Int) (k : Int) : Bool × List Int × List Int :=
  if k = c then (true, s.2.1, s.2.2) else if s.1 = true then (s.1, s.2.1, s.2.2 ++ [(A.get k).Xa]) else (s.1, s.2.1 ++ [(A.get k).Xa], s.2.2)
def Ar.Zn (A : Ar) (p c : Int) : List Int × List Int := ((A.get p).Xc.foldl (Zf A c) (false, [], [])).2
def Ar.Zu (A : Ar) (p c : Int) (r : Bool) : Prop := 4 ∈ (A.Zn p c).1 ∨ 4 ∈ (A.Zn p c).2 ∨ 3 ∈ (A.Zn p c).2 ∨ (r = false ∧ c ≠ 0 ∧ ((A.get c).Xa = 4 ∨ (A.get c).Xa = 3))
instance (A : Ar) (p c : Int) (r : Bool) : Decidable (A.Zu p c r) := inferInstanceAs (Decidable (_ ∨ _))
def Ar.Jd (A : Ar) (p c : Int) (r : Bool) : Prop := 3 ∈ (A.Zn p c).1 ∨ 3 ∈ (A.Zn p c).2 ∨ 4 ∈ (A.Zn p c).1 ∨ (r = false ∧ c ≠ 0 ∧ (A.get c).Xa = 3)
instance (A : Ar) (p c : Int) (r : Bool) : Decidable (A.Jd p c r) := inferInstanceAs (Decidable (_ ∨ _))
def Ar.XbY (A : Ar) (h : Int) : List Int := (A.get h).Xc.map (fun k => (A.get k).Xa)
def Ar.JB (A : Ar) (p n c : Int) (r : Bool) : Prop := 5 ∈ A.XbY n ∨ 1 < (A.XbY n).count 4 ∨ ((A.XbY n).count 4 = 1 ∧ A.Zu p c r)
instance (A : Ar) (p n c : Int) (r : Bool) : Decidable (A.JB p n c r) := inferInstanceAs (Decidable (_ ∨ _))
/-- A Xn would have too many children, or in a wrong order. -/
def Ar.Xan (A : Ar) (p n c : Int) (r : Bool) : Prop := ((A.get n).Xa = 2 ∧ A.JB p n c r) ∨ ((A.get n).Xa = 4 ∧ A.Zu p c r) ∨ ((A.get n).Xa = 3 ∧ A.Jd p c r)
instance (A : Ar) (p n c : Int) (r : Bool) : Decidable (A.Xan p n c r) := inferInstanceAs (Decidable (_ ∨ _))
/-- The rules of an insertion, one by one. -/
def Ar.rule (A : Ar) (p n c : Int) (r : Bool) : Nat → Prop
  | 0 => ¬ ((A.get p).Xa = 1 ∨ (A.get p).Xa = 2 ∨ (A.get p).Xa = 4)
  | 1 => A.contains n p = true
  | 2 => c ≠ 0 ∧ (A.get c).Xd ≠ p
  | 3 => (A.get n).Xa = 1
  | 4 => ((A.get p).Xa = 1 ∧ (A.get n).Xa = 5) ∨ ((A.get p).Xa ≠ 1 ∧ (A.get n).Xa = 3)
  | 5 => (A.get p).Xa = 1 ∧ A.Xan p n c r
  | _ => False
instance (A : Ar) (p n c : Int) (r : Bool) : ∀ i, Decidable (A.rule p n c r i)
  | 0 => inferInstanceAs (Decidable (¬ _))
  | 1 => inferInstanceAs (Decidable (_ = _))
  | 2 => inferInstanceAs (Decidable (_ ∧ _))
  | 3 => inferInstanceAs (Decidable (_ = _))
  | 4 => inferInstanceAs (Decidable (_ ∨ _))
  | 5 => inferInstanceAs (Decidable (_ ∧ _))
  | _ + 6 => inferInstanceAs (Decidable False)
def Xao (i : Nat) : Int := if i = 2 then 5 else 4
/-- The error of the first rule from i on that applies. -/
def Ar.ruleFrom (A : Ar) (p n c : Int) (r : Bool) : Nat → Nat → Int
  | _, 0 => 0
  | i, m + 1 => if A.rule p n c r i then Xao i else A.ruleFrom p n c r (i + 1) m
def Ar.Ya (A : Ar) (p n c : Int) (r : Bool) : Int := A.ruleFrom p n c r 0 6
def Ar.Y4 (A : Ar) (p n c : Int) : Int := if A.has p ∧ A.has n ∧ (c ≠ 0 → A.has c) then A.Ya p n c false else 3
def Ar.XX (A : Ar) (p n c : Int) : Int × Ar := if A.Y4 p n c ≠ 0 then (A.Y4 p n c, A) else (0, A.YD p n (if c = n then A.next n else c))
def Ar.YU (A : Ar) (p n c : Int) : Int × Ar :=
  if A.has p ∧ A.has n ∧ A.has c then
    if A.Ya p n c true ≠ 0 then (A.Ya p n c true, A) else (0, (A.cut c).YD p n (if A.next c = n then A.next n else A.next c))
  else (3, A)
def Ar.Zo (A : Ar) (p c : Int) : Int × Ar := if A.has p ∧ A.has c then (if (A.get c).Xd ≠ p then (5, A) else (0, A.cut c)) else (3, A)
def Ar.empty (A : Ar) (p : Int) : Ar := (A.get p).Xc.foldl (fun B k => B.cut k) A
def Ar.Yq (A : Ar) (p n : Int) : Int × Ar :=
  if A.has p ∧ (n ≠ 0 → A.has n) then
    if (A.get p).Xa ≠ 4 ∧ (A.get p).Xa ≠ 2 then (9, A)
    else if n ≠ 0 ∧ ((A.get n).Xa ≠ 2 ∨ A.contains n p = true) then (4, A)
    else (0, if n ≠ 0 then (A.empty p).YD p n 0 else A.empty p)
  else (3, A)
def Ar.YV (A : Ar) (n d : Int) : Int × Ar :=
  if A.has n ∧ A.has d then (if (A.get d).Xa ≠ 1 ∨ (A.get n).Xa = 1 ∨ (A.get n).host ≠ 0 then (9, A) else (0, A.YM n d)) else (3, A)
end
end Go.Proofs.YtpicinjcmjaogaaGreatDoor
