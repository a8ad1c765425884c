import Derived.Test.YtpicinjcmjaogaaGreatDoorW11
import Derived.Test.YtpicinjcmjaogaaGreatDoorW14
set_option maxRecDepth 100000
set_option maxHeartbeats 4000000
set_option linter.unusedVariables false
namespace Go.Proofs.YtpicinjcmjaogaaGreatDoor
section
theorem Xcg {A:Ar}{p:Int}(hI:A.Inv)(hp:A.has p):(A.empty p).Inv∧(A.empty p).n=A.n∧(A.empty p).Xh=A.Xh∧∀x,A.has x→((A.empty p).get x).Xa=(A.get x).Xa∧((A.empty p).get x).doc=(A.get x).doc:=by
 refine Ze (P:=fun B:Ar=>B.Inv∧B.n=A.n∧B.Xh=A.Xh∧∀x,A.has x→(B.get x).Xa=(A.get x).Xa∧(B.get x).doc=(A.get x).doc) ⟨hI,rfl,rfl,fun _ _=>⟨rfl,rfl⟩⟩ ?_
 rintro B x hx⟨q1,q2,q3,q4⟩
 have hx':=(XF hI hp hx).1
 have hhas:∀y,B.has y↔A.has y:=fun y=>by unfold Ar.has;rw[q2]
 refine⟨Ar.XC.cut q1 ((hhas x).2 hx'),(Ar.XaG B x).trans q2,(Ar.Z2 B x).trans q3,fun y hy=>?_⟩
 rw[Ar.Zc q1 ((hhas x).2 hx') ((hhas y).2 hy)]
 exact q4 y hy
theorem Xbw {A B:Ar}(h:A.n=B.n):A.ns.length=B.ns.length:=by
 unfold Ar.n at h
 omega
theorem XhJ (A:Ar)(p x c:Int):(A.put p x c).2.ns.length=A.ns.length:=(JO A p x c).2
theorem Xfk {A:Ar}(hI:A.Inv)(hT:A.XB 900)(x:OpD)(hx:x.Xb.length≤20):(A.Xo x).2.Inv∧(A.Xo x).2.ns.length≤(if x.Xa=31∨x.Xa=32 then 2*A.ns.length+1 else A.ns.length+3):=by
 have ins:∀p n c:Int,(A.XX p n c).2.Inv∧(A.XX p n c).2.ns.length≤A.ns.length+3:=by intro p n c;unfold Ar.XX;by_cases hv:A.Y4 p n c=0;·{rw[if_neg (fun e=>e hv)];unfold Ar.Y4 at hv;by_cases hh:A.has p∧A.has n∧(c≠0→A.has c);·{obtain⟨q1,q2⟩:=Xet (c:=if c=n then A.next n else c) hI hh.1 hh.2.1;exact⟨q1,by dsimp only;omega⟩};·rw[if_neg hh]at hv;exact absurd hv (by decide)};·rw[if_pos hv];exact⟨hI,by dsimp only;omega⟩
 have triv:A.Inv∧A.ns.length≤A.ns.length+3:=⟨hI,by omega⟩
 refine XcX (P:=fun r=>r.2.Inv∧r.2.ns.length≤(if x.Xa=31∨x.Xa=32 then 2*A.ns.length+1 else A.ns.length+3)) ?_ ?_ ?_ ?_ ?_ ?_ ?_ ?_ ?_ ?_ ?_ ?_ ?_ ?_ ?_ ?_<;>intro e
 ·rw[if_neg (by omega)];exact ins _ _ _
 ·rw[if_neg (by omega)];exact ins _ _ _
 ·rw[if_neg (by omega)];dsimp only;unfold Ar.YU;split;·{rename_i hh;split;·{exact triv};·obtain⟨q1,q2⟩:=Xet (p:=x.a) (n:=x.b) (c:=if A.next x.c=x.b then A.next x.b else A.next x.c) (Ar.XC.cut hI hh.2.2) ((Ar.X5 _ _ _).2 hh.1) ((Ar.X5 _ _ _).2 hh.2.1);exact⟨q1,by rw[Ar.YY]at q2;dsimp only;omega⟩};·exact triv
 ·rw[if_neg (by omega)];dsimp only;unfold Ar.Zo;split;·{rename_i hh;split;·{exact triv};·exact⟨Ar.XC.cut hI hh.2,by dsimp only;rw[Ar.YY];omega⟩};·exact triv
 ·rw[if_neg (by omega)];dsimp only;unfold Ar.XR;split;·{rename_i hh;exact⟨Ar.XC.cut hI hh,by dsimp only;rw[Ar.YY];omega⟩};·exact triv
 ·rw[if_neg (by omega)];dsimp only;unfold Ar.Yq;split;·{rename_i hh;split;·{exact triv};·split;·{exact triv};·obtain⟨q1,q2,q3,q4⟩:=Xcg hI hh.1;have hl:=Xbw q2;dsimp only;split;·{rename_i hn;have hhas:∀y,(A.empty x.a).has y↔A.has y:=fun y=>by{unfold Ar.has;rw[q2]};obtain⟨r1,r2⟩:=Xet (p:=x.a) (n:=x.b) (c:=0) q1 ((hhas _).2 hh.1) ((hhas _).2 (hh.2 hn));exact⟨r1,by omega⟩};·exact⟨q1,by omega⟩};·exact triv
 ·rw[if_neg (by omega)];dsimp only;unfold Ar.YV;split;·{rename_i hh;split;·{exact triv};·rename_i hk;obtain⟨q1,q2,q3⟩:=Xbk hI hh.1 hh.2 (Classical.not_not.1 (fun z=>hk (.inl z)));refine⟨q1,?_⟩;have g1:=Ar.Yv (A.YM x.a x.b) x.b;have g2:=Ar.Jk A x.b;dsimp only;omega};·exact triv
 ·rw[if_neg (by omega)];unfold Ar.Y0;split;·{exact triv};·split;·{exact triv};·exact⟨hI.element _ _ _ _ (by simp),Xkp _ _ _ _ _⟩
 ·rw[if_neg (by omega)];dsimp only;unfold Ar.YO;split;·{exact triv};·split;·{exact triv};·refine⟨hI.X0 _ _ (Nat.le_trans (XgL hT _ _ _ _) (by omega)),?_⟩;unfold Ar.X0;(repeat' split);all_goals first|(exact Nat.le_add_right _ _)|(dsimp only;rw[Xaj];omega)
 ·rw[if_neg (by omega)];dsimp only;unfold Ar.Yy;split;·{exact triv};·split;·{exact triv};·refine⟨hI.X0 _ _ (Nat.le_trans (List.length_eraseIdx_le _ _) (Nat.le_trans (Xc2 hT _) (by omega))),?_⟩;dsimp only;unfold Ar.X0;(repeat' split);all_goals first|(exact Nat.le_add_right _ _)|(dsimp only;rw[Xaj];omega)
 ·rw[if_pos (.inl e)];unfold Ar.Zx;split;·{rename_i hh;obtain⟨d1,d2⟩:=hI.ZV x.a hh;obtain⟨q1,q2⟩:=Xhh (deep:=x.Xe) hI hI d1 d2 hh (Z3 hI x.a);have:=Z3 hI x.a;exact⟨q1,by dsimp only;omega⟩};·exact⟨hI,by dsimp only;omega⟩
 ·rw[if_pos (.inr e)];unfold Ar.Zp;split;·{rename_i hh;split;·{exact⟨hI,by dsimp only;omega⟩};·rename_i hk;obtain⟨q1,q2⟩:=Xhh (deep:=true) hI hI hh.1 (Classical.not_not.1 (fun z=>hk (.inl z))) hh.2 (Z3 hI x.b);have:=Z3 hI x.b;exact⟨q1,by dsimp only;omega⟩};·exact⟨hI,by dsimp only;omega⟩
 ·rw[if_neg (by omega)];dsimp only;unfold Ar.YE;split;·{exact triv};·rename_i hh;have hh:=Classical.not_not.1 hh;split;·{exact⟨hI.XG _ _,by rw[(J7 _ _ _).2.1];omega⟩};·split;·{obtain⟨q1,q2,q3,q4⟩:=Xcg hI hh;have hl:=Xbw q2;split;·{exact⟨q1,by dsimp only;omega⟩};·dsimp only;refine⟨Ar.Inv.put (q1.make rfl rfl rfl rfl (JX _) (by simp[Xs]) (by simp[Xs])) _ _ _,?_⟩;rw[XhJ];have:=JM (A.empty x.a) ((A.empty x.a).get x.a).doc (Xs x.s);omega};·exact triv
 ·rw[if_neg (by omega)];obtain⟨q1,q2,-,-⟩:=Xfj hI x.a;exact⟨q1,by dsimp only;omega⟩
 ·rw[if_neg (by omega)];unfold Ar.split;split;·{exact triv};·split;·{exact triv};·split;·{exact triv};·dsimp only;have m1:(A.make (A.get x.a).doc (Xs ⟨((A.get x.a).data.toList.drop x.b.toNat).toArray⟩)).2.Inv:=hI.make rfl rfl rfl rfl (JX _) (by simp[Xs]) (by simp[Xs]);have m2:=JM A (A.get x.a).doc (Xs ⟨((A.get x.a).data.toList.drop x.b.toNat).toArray⟩);split;·{exact⟨Ar.Inv.put (m1.XG _ _) _ _ _,by rw[XhJ,(J7 _ _ _).2.1];exact m2⟩};·exact⟨m1.XG _ _,by rw[(J7 _ _ _).2.1];exact m2⟩
 ·rw[if_neg (by omega)];exact⟨hI.step x hx,XgA A x⟩
end
section
/-- A call that XfU at most two trees, and makes or sets at most one text of at most 400 bytes. -/
def Quiet (A A' : Ar) : Prop := ∃ p nd g z : Int, (p = nd ∨ A.has p ∧ A.has nd ∧ z = 0) ∧ (A.has g ∨ A.ns.length = 0) ∧
  ∀ ρ : Int → Int, Lab ρ A → ρ p = ρ nd → NewL ρ A.ns.length → (∀ i : Nat, A.ns.length ≤ i → ρ ((i : Int) + 1) = ρ g) → Kp ρ z A A'
theorem has_one (A:Ar):A.has 1∨A.ns.length=0:=by
 unfold Ar.has Ar.n
 omega
theorem Quiet.plain {A A':Ar}(z:Int)(h:∀ρ:Int→Int,Lab ρ A→NewL ρ A.ns.length→Kp ρ z A A'):Quiet A A':=⟨0,0,1,z,.inl rfl,has_one A,fun ρ h1 _ h3 _=>h ρ h1 h3⟩
theorem Quiet.same (A:Ar):Quiet A A:= .plain 0 (fun ρ h _=>Kp.refl 0 h)
theorem Quiet.two {A A':Ar}{p n:Int}(hp:A.has p)(hn:A.has n)(h:∀ρ:Int→Int,Lab ρ A→ρ p=ρ n→Kp ρ 0 A A'):Quiet A A':=⟨p,n,1,0,.inr ⟨hp,hn,rfl⟩,has_one A,fun ρ h1 h2 _ _=>h ρ h1 h2⟩
theorem q_put {A:Ar}(p n c:Int):Quiet A (A.put p n c).2:=by
 by_cases h:A.has p∧A.has n
 ·exact .two h.1 h.2 (fun ρ h1 h2=>kp_put h1 c (fun _=>h2.symm))
 ·have:(A.put p n c).2=A:=by{unfold Ar.put;rw[if_pos];intro e;have:=Xem e;exact h ⟨this.1,this.2.1⟩};rw[this];exact .same A
theorem q_cut {A:Ar}(x:Int):Quiet A (A.cut x):= .plain 0 (fun ρ h _=>kp_cut h x)
theorem q_insertAt {A:Ar}(hI:A.Inv){p n:Int}(c:Int)(hp:A.has p)(hn:A.has n):Quiet A (A.YD p n c):= .two hp hn (fun ρ h1 h2=>kp_insertAt h1 p n c (fun x hx=>(nodes_lab hI h1 hn x hx).trans h2.symm))
theorem q_insertCall {A:Ar}(hI:A.Inv)(p n c:Int):Quiet A (A.XX p n c).2:=by
 unfold Ar.XX
 split
 ·exact .same A
 ·rename_i hv;have hv:=Classical.not_not.1 hv;unfold Ar.Y4 at hv;split at hv;·{rename_i h;exact q_insertAt hI _ h.1 h.2.1};·exact absurd hv (by decide)
theorem q_replaceCall {A:Ar}(hI:A.Inv)(p n c:Int):Quiet A (A.YU p n c).2:=by
 unfold Ar.YU
 split
 ·rename_i h;split;·{exact .same A};·refine .two h.1 h.2.1 (fun ρ h1 h2=>?_);have k:=kp_cut (z:=0) h1 c;exact k.trans (kp_insertAt k.lab p n _ (fun x hx=>(nodes_lab (Ar.XC.cut hI h.2.2) k.lab ((Ar.X5 _ _ _).2 h.2.1) x hx).trans h2.symm))
 ·exact .same A
theorem q_removeCall {A:Ar}(p c:Int):Quiet A (A.Zo p c).2:=by
 unfold Ar.Zo
 repeat' split
 all_goals first|(exact .same A)|exact q_cut c
theorem q_cutCall {A:Ar}(h:Int):Quiet A (A.XR h).2:=by
 unfold Ar.XR
 split
 ·exact q_cut h
 ·exact .same A
theorem q_replaceAllCall {A:Ar}(hI:A.Inv)(p n:Int):Quiet A (A.Yq p n).2:=by
 unfold Ar.Yq
 split
 ·rename_i h;split;·{exact .same A};·split;·{exact .same A};·dsimp only;split;·{rename_i hn;obtain⟨f1,f2,-,-⟩:=Xcg hI h.1;refine .two h.1 (h.2 hn) (fun ρ h1 h2=>?_);have k:=kp_empty (z:=0) h1 p;exact k.trans (kp_insertAt k.lab p n _ (fun x hx=>(nodes_lab f1 k.lab (by have:=h.2 hn;unfold Ar.has at this⊢;rw[f2];exact this) x hx).trans h2.symm))};·exact .plain 0 (fun ρ h1 _=>kp_empty h1 p)
 ·exact .same A
theorem q_adoptCall {A:Ar}(n d:Int):Quiet A (A.YV n d).2:=by
 unfold Ar.YV
 repeat' split
 all_goals first|(exact .same A)|exact .plain 0 (fun ρ h1 _=>kp_adoptF _ h1 _ _)
theorem q_element {A:Ar}(d s:Int)(name:ByteArray)(l:List Xm):Quiet A (A.element d s name l).2:= .plain 0 (fun ρ h1 h2=>kp_element h1 h2 (Nat.le_refl _) d s name l)
theorem q_createElement {A:Ar}(d:Int)(name:ByteArray):Quiet A (A.Y0 d name).2:=by
 unfold Ar.Y0
 repeat' split
 all_goals first|(exact .same A)|exact q_element _ _ _ _
theorem q_setAttrs {A:Ar}(x:Int)(l:List Xm):Quiet A (A.X0 x l).2:= .plain 0 (fun ρ h1 _=>kp_setAttrs h1 x l)
theorem q_setAttr {A:Ar}(el s:Int)(name val:ByteArray):Quiet A (A.YO el s name val).2:=by
 unfold Ar.YO
 repeat' split
 all_goals first|(exact .same A)|exact q_setAttrs _ _
theorem q_removeAttr {A:Ar}(el s:Int)(name:ByteArray):Quiet A (A.Yy el s name).2:=by
 unfold Ar.Yy
 repeat' split
 all_goals first|(exact .same A)|exact q_setAttrs _ _
theorem q_setData {A:Ar}(x:Int){s:ByteArray}(hs:s.size≤400):Quiet A (A.XG x s).2:= .plain x (fun ρ h1 _=>kp_setData h1 x hs)
theorem q_setText {A:Ar}(hI:A.Inv)(h:Int){s:ByteArray}(hs:s.size≤400):Quiet A (A.YE h s).2:=by
 unfold Ar.YE
 split
 ·exact .same A
 ·rename_i hh;have hh:=Classical.not_not.1 hh;split;·{exact q_setData h hs};·split;·{split;·{exact .plain 0 (fun ρ h1 _=>kp_empty h1 h)};·dsimp only;obtain⟨f1,f2,-,-⟩:=Xcg hI hh;refine⟨0,0,h,A.n+1,.inl rfl,.inl hh,fun ρ h1 _ _ h4=>?_⟩;have k:=kp_empty (z:=A.n+1) h1 h;have k2:=k.trans (kp_make (z:=A.n+1) k.lab ((A.empty h).get h).doc (n:=Xs s) rfl rfl (.inr ⟨by rw[f2],by show(if(5:Int)=5 then s.size else 0)≤400;rw[if_pos rfl];exact hs⟩));refine k2.trans (kp_put k2.lab 0 (fun hz=>?_));unfold Ar.make at hz⊢;split;·{rename_i he;rw[if_pos he]at hz;exact absurd hz (Za _)};·rw[f2];exact h4 A.ns.length (Nat.le_refl _)};·exact .same A
theorem q_step {A:Ar}{x:OpD}(hx:ZC x):Quiet A (A.step x).2:=by
 obtain⟨s1,s2,s3,-⟩:=hx
 have hm:∀(d:Int)(n:Nd),n.Xd=0→n.host=0→tx n=0→Quiet A (A.make d n).2:=fun d n h1 h2 h3=> .plain 0 (fun ρ h _=>kp_make h d h1 h2 (.inl h3))
 refine XbS (P:=fun r=>Quiet A r.2) ?_ ?_ ?_ ?_ ?_ ?_ ?_ ?_ ?_ ?_ ?_ ?_ ?_ ?_<;>intro _
 ·exact .plain 0 (fun ρ h _=>kp_document h _)
 ·exact hm _ _ rfl rfl rfl
 ·exact q_element _ _ _ _
 ·exact .plain (A.n+1) (fun ρ h _=>kp_make h _ rfl rfl (.inr ⟨rfl,by show(if(5:Int)=5 then x.s.size else 0)≤400;rw[if_pos rfl];exact s2⟩))
 ·exact hm _ _ rfl rfl rfl
 ·exact hm _ _ rfl rfl rfl
 ·exact .plain 0 (fun ρ h _=>kp_inertCall h _)
 ·exact q_put _ _ _
 ·exact q_cutCall _
 ·exact q_setData _ s2
 ·exact q_setAttrs _ _
 ·exact .plain 0 (fun ρ h _=>kp_setQuirks h _ _)
 ·exact .plain 0 (fun ρ h _=>kp_setDoc h _ _)
 ·exact .same A
theorem q_step5 {A:Ar}(hI:A.Inv){x:OpD}(hx:ZC x)(h31:x.Xa≠31)(h32:x.Xa≠32)(h34:x.Xa≠34)(h35:x.Xa≠35):Quiet A (A.Xo x).2:=by
 refine XcX (P:=fun r=>Quiet A r.2) ?_ ?_ ?_ ?_ ?_ ?_ ?_ ?_ ?_ ?_ ?_ ?_ ?_ ?_ ?_ ?_<;>intro hk
 ·exact q_insertCall hI _ _ _
 ·exact q_insertCall hI _ _ _
 ·exact q_replaceCall hI _ _ _
 ·exact q_removeCall _ _
 ·exact q_cutCall _
 ·exact q_replaceAllCall hI _ _
 ·exact q_adoptCall _ _
 ·exact q_createElement _ _
 ·exact q_setAttr _ _ _ _
 ·exact q_removeAttr _ _ _
 ·exact absurd hk h31
 ·exact absurd hk h32
 ·exact q_setText hI _ hx.2.1
 ·exact absurd hk h34
 ·exact absurd hk h35
 ·exact q_step hx
end
section
/-- While nodes of C are copied: the nodes of A0 are as they were. -/
structure Yr (A0 B : Ar) (d : Int) (X : Nat) : Prop where
  inv : B.Inv
  has : B.has d
  Xa : (B.get d).Xa = 1
  old : ∀ x, A0.has x → B.has x ∧ B.get x = A0.get x
  cap : B.cap d ≤ X
theorem Yr.step {C A0 B:Ar}(hC:C.Inv){d:Int}{X m:Nat}(hI:Yr A0 B d X){k c:Int}(hk:C.has k∧(C.get k).Xa≠1∧(C.get k).Xa≠2)(hw:(C.Xi k).length≤m)(hc:¬A0.has c)(hcB:B.has c)(hck:(B.get c).Xa=1∨(B.get c).Xa=2∨(B.get c).Xa=4):Yr A0 (XP (fun B k=>dupF C true m B d k) c B k) d (X+(C.Xi k).length)∧(XP (fun B k=>dupF C true m B d k) c B k).has c∧((XP (fun B k=>dupF C true m B d k) c B k).get c).Xa=(B.get c).Xa∧(∀x,B.Xu x≠0→(XP (fun B k=>dupF C true m B d k) c B k).Xu x≠0):=by
 obtain⟨K2,S⟩:=Xbv hC (rec:=fun B k=>dupF C true m B d k) (d:=d) (c:=c) [k] (B:=B) (fun B' k' hk' hB hd hkd=>by simp at hk';subst hk';exact Xaw hC m hB hd hkd hk.1 hk.2.1 hw) (fun k' hk'=>by simp at hk';subst hk';exact hk.2) hI.inv hI.has hI.Xa hcB (fun _=>hck)
 obtain⟨f1,f2⟩:=Xat (C:=C) (rec:=fun B k=>dupF C true m B d k) (d:=d) (c:=c) [k] (A:=B) (fun B' k' hk' hB hd hkd=>by simp at hk';subst hk';exact Jf hC m true hB hd hkd hk.1 hk.2.1 hw) hI.inv hI.has hI.Xa
 have e: [k].foldl (XP (fun B k=>dupF C true m B d k) c) B=XP (fun B k=>dupF C true m B d k) c B k:=rfl
 rw[e]at S f1 f2
 refine⟨⟨f1.inv,f1.has d hI.has,(f1.Xa d hI.has).trans hI.Xa,fun x hx=>?_,?_⟩,f1.has c hcB,f1.Xa c hcB,f1.Xh⟩
 ·obtain⟨h1,h2⟩:=hI.old x hx;obtain⟨s1,s2⟩:=S.old x h1;have hne:x≠c:=fun e=>hc (by rw[←e];exact hx);rw[if_neg hne]at s2;exact⟨s1,s2.trans h2⟩
 ·have:=hI.cap;simp at f2;omega
theorem Yr.fold {C A0 B:Ar}(hC:C.Inv){d:Int}{X m:Nat}(hI:Yr A0 B d X){c:Int}(hc:¬A0.has c)(hcB:B.has c)(ks:List Int)(hck:ks≠ []→(B.get c).Xa=1∨(B.get c).Xa=2∨(B.get c).Xa=4)(hk:∀k∈ks,C.has k∧(C.get k).Xa≠1∧(C.get k).Xa≠2∧(C.Xi k).length≤m):∀i,i≤ks.length→Yr A0 ((ks.take i).foldl (XP (fun B k=>dupF C true m B d k) c) B) d (X+((ks.take i).flatMap C.Xi).length)∧((ks.take i).foldl (XP (fun B k=>dupF C true m B d k) c) B).has c∧(((ks.take i).foldl (XP (fun B k=>dupF C true m B d k) c) B).get c).Xa=(B.get c).Xa∧(∀x,B.Xu x≠0→((ks.take i).foldl (XP (fun B k=>dupF C true m B d k) c) B).Xu x≠0)
 |0,_=>⟨by simpa using hI,hcB,rfl,fun _ h=>h⟩
 |i+1,hi=>by{obtain⟨k,hx⟩:∃k,ks[i]?=some k:=⟨_,List.getElem?_eq_getElem (by omega)⟩;have hkm:=List.mem_of_getElem? hx;have hne:ks≠ []:=fun e=>by{rw[e]at hkm;simp at hkm};obtain⟨p1,p2,p3,p4⟩:=Yr.fold hC hI hc hcB ks hck hk i (by omega);obtain⟨q1,q2,q3,q4⟩:=hk k hkm;obtain⟨r1,r2,r3,r4⟩:=p1.step hC ⟨q1,q2,q3⟩ q4 hc p2 (by rw[p3];exact hck hne);rw[List.take_add_one,hx];simp only[Option.toList_some,List.foldl_append,List.foldl_cons,List.foldl_nil,List.flatMap_append,List.flatMap_cons,List.flatMap_nil,List.append_nil,List.length_append];refine⟨?_,r2,r3.trans p3,fun x hx=>r4 x (p4 x hx)⟩;rw[←Nat.add_assoc];exact r1}
theorem Xch {C:Ar}{ks:List Int}{i:Nat}{k:Int}(hx:ks[i]?=some k):((ks.take i).flatMap C.Xi).length+(C.Xi k).length≤(ks.flatMap C.Xi).length:=by
 have:ks.take (i+1)=ks.take i++ [k]:=by rw[List.take_add_one,hx];rfl
 conv=>rhs;rw[←List.take_append_drop (i+1) ks,List.flatMap_append,this,List.flatMap_append]
 simp<;>omega
theorem ZO {C:Ar}(hC:C.Inv){h:Int}(hh:C.has h):((C.get h).Xc.flatMap C.Xi).length+1≤(C.Xi h).length:=by
 rw[Ym hC hh]
 simp<;>omega
theorem ZF {C:Ar}(hC:C.Inv){h:Int}{m:Nat}(hh:C.has h)(hw:(C.Xi h).length≤m+1):∀k∈(C.get h).Xc,C.has k∧(C.get k).Xa≠1∧(C.get k).Xa≠2∧(C.Xi k).length≤m:=fun k hk=>by{obtain⟨q1,q2,q3⟩:=XF hC hh hk;have h1:=hC.par k q1 (by rw[q3];have:=hh.1;omega);obtain⟨i,hi⟩:=List.getElem?_of_mem hk;have h2:=Xch (C:=C) hi;have h3:=ZO hC hh;exact⟨q1,h1.1,h1.2,by omega⟩}
theorem Yr.Xj {A C:Ar}{d h:Int}(hA:A.Inv)(hC:C.Inv)(hd:A.has d)(hk:(A.get d).Xa=1)(hh:C.has h)(h1:(C.get h).Xa≠1):Yr A (A.Xj d (C.get h)).2 d (A.cap d+(if(C.get h).Xg≠0 then 2 else 1))∧(A.Xj d (C.get h)).1=A.n+1∧(A.Xj d (C.get h)).2.has (A.n+1)∧((A.Xj d (C.get h)).2.get (A.n+1)).Xa=(C.get h).Xa:=by
 obtain⟨a1,a2,a3⟩:=Xbs hA hC hd hk hh h1
 obtain⟨n1,n2,n3⟩:=Xbu hA hC hd hk hh h1
 refine⟨⟨a1.inv,a1.has d hd,(a1.Xa d hd).trans hk,n2.old,?_⟩,n1,n2.has,n2.Xcc.1.symm⟩
 have:XN (C.get h)↔(C.get h).Xg≠0:=⟨fun q=>by have:=(hC.cont h hh (by have:=hh.1;omega) q).1.1;omega,fun q=>Classical.byContradiction fun t=>q (hC.YG h hh (.inr t))⟩
 by_cases q:(C.get h).Xg=0
 ·rw[if_neg (fun e=>e q)];rw[if_neg (fun e=>this.1 e q)]at a2;exact a2
 ·rw[if_pos q];rw[if_pos (this.2 q)]at a2;exact a2
theorem Yr.Xn {A:Ar}(hA:A.Inv)(q:Bool):Yr A (A.Xn q) (A.n+1) (A.ns.length+2)∧(A.Xn q).has (A.n+1)∧((A.Xn q).get (A.n+1)).Xa=1:=by
 have hnew:(A.Xn q).has (A.n+1):=(Ar.XO _ _ _).2 (.inr rfl)
 have hk:((A.Xn q).get (A.n+1)).Xa=1:=by unfold Ar.Xn;rw[Ar.YS]
 refine⟨⟨Ar.XC.Xn hA q,hnew,hk,fun x hx=>⟨(Ar.XO _ _ _).2 (.inl hx),Ar.Zb _ hx⟩,?_⟩,hnew,hk⟩
 have:=Ar.Jk (A.Xn q) (A.n+1)
 have h2:(A.Xn q).ns.length=A.ns.length+1:=by simp[Ar.Xn,Ar.add]
 omega
theorem JH {A:Ar}:¬A.has (A.n+1):=Ar.Xba A
end
section
/-- The Xh documents that A knows stay. -/
def Ar.KI (A B : Ar) : Prop := ∀ x, A.Xu x ≠ 0 → B.Xu x = A.Xu x
theorem Ar.KI.refl (A:Ar):A.KI A:=fun _ _=>rfl
theorem Ar.KI.trans {A B C:Ar}(h:A.KI B)(k:B.KI C):A.KI C:=fun x hx=>(k x (by rw[h x hx];exact hx)).trans (h x hx)
theorem XhK {A B:Ar}(h:B.Xh=A.Xh):A.KI B:=fun x _=>by{unfold Ar.Xu;rw[h]}
theorem Xci {A:Ar}(hl:A.Xh.length=A.ns.length+1)(n:Nd):A.KI (A.add n):=fun x _=>Ar.JA hl n x
theorem Xl8 (A:Ar)(x:Int)(f:Nd→Nd):A.KI (A.mod x f):=XhK (Xkr A x f)
theorem Xl9 {A:Ar}(hl:A.Xh.length=A.ns.length+1){d:Int}(hd:A.has d):A.KI (A.Xq d).2:=fun y hy=>by{unfold Ar.Xq;split;·{rfl};·rename_i q;have q:=Classical.not_not.1 q;have hlen:(A.Xn false).Xh.length=A.ns.length+2:=by{simp[Ar.Xn,Ar.add,hl]};have hd1:=hd.1;have hd2:=hd.2;unfold Ar.n at hd2;have e:({A.Xn false with Xh:=((A.Xn false).Xh.set d.toNat (A.n+1)).set (A.n+1).toNat (A.n+1)}:Ar).Xu y=if y.toNat=(A.n+1).toNat then A.n+1 else if y.toNat=d.toNat then A.n+1 else(A.Xn false).Xu y:=Xcv (by omega) (by unfold Ar.n;omega);show({A.Xn false with Xh:=((A.Xn false).Xh.set d.toNat (A.n+1)).set (A.n+1).toNat (A.n+1)}:Ar).Xu y=_;rw[e];have h1:y.toNat≠(A.n+1).toNat:=fun z=>by{apply hy;unfold Ar.Xu;rw[z,List.getElem?_eq_none (by unfold Ar.n;omega)];rfl};have h2:y.toNat≠d.toNat:=fun z=>by{apply hy;unfold Ar.Xu at q⊢;rw[z];exact q};rw[if_neg h1,if_neg h2,Ar.Xn,Ar.JA hl]}
end
end Go.Proofs.YtpicinjcmjaogaaGreatDoor
