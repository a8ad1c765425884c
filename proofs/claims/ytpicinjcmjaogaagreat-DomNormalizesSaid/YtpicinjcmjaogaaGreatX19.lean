import Derived.BigQuiet
import Derived.Test.YtpicinjcmjaogaaGreatX07
set_option maxRecDepth 100000
set_option maxHeartbeats 4000000
set_option linter.unusedVariables false
namespace Go.Proofs.YtpicinjcmjaogaaGreat
section
open Go.RowKit
def Y1 (x y : Nd) : Prop := x.Xa = y.Xa ∧ x.space = y.space ∧ x.name = y.name ∧ x.Xb = y.Xb ∧ x.data = y.data ∧ x.pub = y.pub ∧ x.sys = y.sys ∧ x.XI = y.XI
instance (x y : Nd) : Decidable (Y1 x y) := inferInstanceAs (Decidable (_ ∧ _ ∧ _ ∧ _ ∧ _ ∧ _ ∧ _ ∧ _))
theorem XaY (w:World)(n:Nd)(kv av:Value)(t:TypeId):YB (w.alloc (.cells (n.cells kv av).toArray t)) w.heap.size 0 n kv av:=⟨Yi rfl rfl,Yi rfl rfl,Yi rfl rfl,Yi rfl rfl,Yi rfl rfl,Yi rfl rfl,Yi rfl rfl,Yi rfl rfl,Yi rfl rfl,Yi rfl rfl,Yi rfl rfl,Yi rfl rfl,Yi rfl rfl⟩
theorem J8 (w:World)(o o':Obj):Below w.heap.size w ((w.alloc o).alloc o'):=(Xw w o).alloc (by simp) _
theorem Xlg (x y:Nd)(kv av kv' av':Value)(w:World)(hx:XE w av x.Xb)(hy:XE w av' y.Xb):Calls Tryz.prog 136 #[.agg (x.cells kv av).toArray,.agg (y.cells kv' av').toArray] w fun e w'=>e= .returned (.bool (decide (Y1 x y)))∧Below w.heap.size w w':=by
 have F1:=(XaY w x kv av 46).below (Xw _ (.cells (y.cells kv' av').toArray 46))
 have F2:=XaY (w.alloc (.cells (x.cells kv av).toArray 46)) y kv' av' 46
 obtain⟨x0,x1,x2,x3,x4,x5,x6,x7,x8,x9,x10,x11,x12⟩:=x
 obtain⟨y0,y1,y2,y3,y4,y5,y6,y7,y8,y9,y10,y11,y12⟩:=y
 unfold Nd.cells at F1 F2⊢
 dsimp only at hx hy F1 F2⊢
 simp only[World.size_alloc]at F2
 have HF:=Xqh (And.intro F1 F2)
 have HX:=Xqh (show∀o o',XE ((w.alloc o).alloc o') av x6∧XE ((w.alloc o).alloc o') av' y6 from fun o o'=>⟨XE.below hx (J8 w _ _),XE.below hy (J8 w _ _)⟩)
 clear hx hy F1 F2
 go_enter Tryz.func136,Tryz.ntmps136
 go_wp2_with fail
 ·have q0:x0=y0:=‹_›;have q4:x4=y4:=‹_›;subst q0;subst q4;refine(Xlf av av' _ _ _ (HX.out _ _).1 (HX.out _ _).2).mono ?_;rintro e w2⟨rfl,hB2⟩;have G1:=HF.out.1.below hB2;have G2:=HF.out.2.below hB2;have g17:=G1.c7;have g18:=G1.c8;have g19:=G1.c9;have g1a:=G1.c10;have g27:=G2.c7;have g28:=G2.c8;have g29:=G2.c9;have g2a:=G2.c10;(try dsimp only at g17 g18 g19 g1a g27 g28 g29 g2a);simp only[Nat.zero_add]at g17 g18 g19 g1a g27 g28 g29 g2a;have HB:=Xqh ((J8 w _ _).trans (hB2.mono (by simp;omega)));clear G1 G2 HF HX hB2;by_cases ha:x6=y6;·{have hd:decide (x6=y6)=true:=by{simp[ha]};rw[hd];clear hd;go_wp2;(all_goals go_ret;refine⟨XW ?_,HB.out⟩);all_goals first|(refine(decide_eq_false (fun h=>?_)).symm;obtain⟨q0,q1,q2,q3,q4,q5,q6,q7⟩:=h;simp_all;done)|(have s5:=str_inj ‹x5.toList=y5.toList›;have s7:=str_inj ‹x7.toList=y7.toList›;have s8:=str_inj ‹x8.toList=y8.toList›;have s9:=str_inj ‹x9.toList=y9.toList›;rw[Bool.eq_iff_iff];simp[Y1,s5,s7,s8,s9,ha];done)};·have hd:decide (x6=y6)=false:=by{simp[ha]};rw[hd];clear hd;go_wp2;go_ret;exact⟨XW (decide_eq_false (fun h=>ha h.2.2.2.1)).symm,HB.out⟩
 all_goals go_ret;refine⟨XW (decide_eq_false (fun h=>?_)).symm,J8 w _ _⟩;obtain⟨q0,q1,q2,q3,q4,q5,q6,q7⟩:=h;simp_all
def Xdb (x y : Nd) : Prop := Y1 x y ∧ x.Xc = y.Xc ∧ x.Xd = y.Xd ∧ x.doc = y.doc ∧ x.Xg = y.Xg ∧ x.host = y.host
theorem Xhk (x y:Nd):Xdb x y↔x=y:=by
 obtain⟨x0,x1,x2,x3,x4,x5,x6,x7,x8,x9,x10,x11,x12⟩:=x
 obtain⟨y0,y1,y2,y3,y4,y5,y6,y7,y8,y9,y10,y11,y12⟩:=y
 simp only[Xdb,Y1,Nd.mk.injEq]
 constructor
 ·rintro⟨⟨a,b,c,d,e,f,g,h⟩,i,j,k,l,m⟩;exact⟨a,j,i,k,b,c,d,e,f,g,h,l,m⟩
 ·rintro⟨a,j,i,k,b,c,d,e,f,g,h,l,m⟩;exact⟨⟨a,b,c,d,e,f,g,h⟩,i,j,k,l,m⟩
instance (x y : Nd) : Decidable (Xdb x y) := inferInstanceAs (Decidable (_ ∧ _ ∧ _ ∧ _ ∧ _ ∧ _))
instance (x y : Nd) : Decidable (x = y) := decidable_of_decidable_of_iff (Xhk x y)
theorem Xlh (x y:Nd)(kv av kv' av':Value)(w:World)(hk:Xy w kv x.Xc)(hk':Xy w kv' y.Xc)(hx:XE w av x.Xb)(hy:XE w av' y.Xb):Calls Tryz.prog 53 #[.agg (x.cells kv av).toArray,.agg (y.cells kv' av').toArray] w fun e w'=>e= .returned (.bool (decide (x=y)))∧Below w.heap.size w w':=by
 have F1:=(XaY w x kv av 46).below (Xw _ (.cells (y.cells kv' av').toArray 46))
 have F2:=XaY (w.alloc (.cells (x.cells kv av).toArray 46)) y kv' av' 46
 have HA:Hid (∀W:World,Below w.heap.size w W→Calls Tryz.prog 136 #[.agg (x.cells kv av).toArray,.agg (y.cells kv' av').toArray] W fun e w'=>e= .returned (.bool (decide (Y1 x y)))∧Below W.heap.size W w'):=Xqh (fun W hW=>Xlg x y kv av kv' av' W (XE.below hx hW) (XE.below hy hW))
 have HI:Hid (∀W:World,Below w.heap.size w W→Calls Tryz.prog 36 #[kv,kv'] W fun e w'=>e= .returned (.bool (decide (x.Xc=y.Xc)))∧Below W.heap.size W w'):=Xqh (fun W hW=>XcU kv kv' _ _ W (Xy.below hk hW) (Xy.below hk' hW))
 have hsame:=Xhk x y
 unfold Xdb at hsame
 by_cases hal:Y1 x y
 ·have hd:decide (Y1 x y)=true:=decide_eq_true hal;have HS:=Xqh (And.intro hsame hal);have HD:=Xqh hd;clear hk hk' hx hy hsame hal hd;obtain⟨x0,x1,x2,x3,x4,x5,x6,x7,x8,x9,x10,x11,x12⟩:=x;obtain⟨y0,y1,y2,y3,y4,y5,y6,y7,y8,y9,y10,y11,y12⟩:=y;unfold Nd.cells at*;dsimp only at F1 F2 HA HI HS⊢;simp only[World.size_alloc]at F2;have HF:=Xqh (And.intro F1 F2);clear F1 F2;go_enter Tryz.func53,Tryz.ntmps53;go_wp2_with fail;refine(HA.out _ (J8 w _ _)).mono ?_;rintro e w2⟨rfl,hB2⟩;rw[HD.out];have G1:=HF.out.1.below hB2;have G2:=HF.out.2.below hB2;have g12:=G1.c2;have g22:=G2.c2;(try dsimp only at g12 g22);simp only[Nat.zero_add]at g12 g22;have HB:=Xqh ((J8 w _ _).trans (hB2.mono (by simp;omega)));have HG:=Xqh (And.intro G1 G2);clear G1 G2 HF hB2;go_wp2_with fail;refine(HI.out _ HB.out).mono ?_;rintro e w3⟨rfl,hB3⟩;have G1:=HG.out.1.below hB3;have G2:=HG.out.2.below hB3;have g11:=G1.c1;have g13:=G1.c3;have g1b:=G1.c11;have g1c:=G1.c12;have g21:=G2.c1;have g23:=G2.c3;have g2b:=G2.c11;have g2c:=G2.c12;(try dsimp only at g11 g13 g1b g1c g21 g23 g2b g2c);simp only[Nat.zero_add]at g11 g13 g1b g1c g21 g23 g2b g2c;have HB3:=Xqh (HB.out.trans (hB3.mono HB.out.size));clear G1 G2 HG hB3 g12 g22;by_cases hki:x2=y2;·{have hd2:decide (x2=y2)=true:=decide_eq_true hki;rw[hd2];have HKI:=Xqh hki;clear hd2 hki;go_wp2;(all_goals go_ret;refine⟨XW ?_,HB3.out⟩);all_goals first|(refine(decide_eq_false (fun h=>?_)).symm;rw[←HS.out.1]at h;obtain⟨q0,q1,q2,q3,q4,q5⟩:=h;simp_all;done)|(have e1:x1=y1:=‹_›;have e3:x3=y3:=‹_›;have eb:x11=y11:=‹_›;subst e1;subst e3;subst eb;have q1:=HS.out.2;have q2:=HKI.out;have q3:=HS.out.1;rw[Bool.eq_iff_iff];simp only[decide_eq_true_eq,beq_iff_eq];rw[←q3];exact⟨fun e=>⟨q1,q2,rfl,rfl,rfl,e⟩,fun h=>h.2.2.2.2.2⟩)};·have hd2:decide (x2=y2)=false:=decide_eq_false hki;rw[hd2];have HKI:=Xqh hki;clear hd2 hki;go_wp2;go_ret;exact⟨XW (decide_eq_false (fun h=>HKI.out (HS.out.1.2 h).2.1)).symm,HB3.out⟩
 ·have hd:decide (Y1 x y)=false:=decide_eq_false hal;have HS:=Xqh (show decide (x=y)=false from decide_eq_false (fun h=>hal (hsame.2 h).1));have HD:=Xqh hd;clear hk hk' hx hy hsame hal hd F1 F2 HI;obtain⟨x0,x1,x2,x3,x4,x5,x6,x7,x8,x9,x10,x11,x12⟩:=x;obtain⟨y0,y1,y2,y3,y4,y5,y6,y7,y8,y9,y10,y11,y12⟩:=y;unfold Nd.cells at*;dsimp only at HA HS⊢;go_enter Tryz.func53,Tryz.ntmps53;go_wp2_with fail;refine(HA.out _ (J8 w _ _)).mono ?_;rintro e w2⟨rfl,hB2⟩;rw[HD.out];have HB:=Xqh ((J8 w _ _).trans (hB2.mono (by simp;omega)));clear hB2;go_wp2;go_ret;exact⟨XW HS.out.symm,HB.out⟩
theorem J5.at {w:World}{a:Option Addr}{n c:Nat}{ns:List Nd}(h:J5 w (.slice a n c) ns)(hp:0<ns.length):∃b o,a=some ⟨b,o,none⟩∧n=ns.length∧∀i m,ns[i]?=some m→∃kv av,YB w b (o+i*13) m kv av∧Xy w kv m.Xc∧XE w av m.Xb:=by
 obtain⟨a',c',e,h2,h3,h4⟩:=h
 simp at e
 obtain⟨rfl,rfl,rfl⟩:=e
 obtain⟨b,o,h5,h6⟩:=h4 hp
 exact⟨b,o,h5,rfl,h6⟩
end
section
open Go.RowKit
theorem XlF (v1 v2:Value)(l1 l2:List Nd)(w:World)(h1:J5 w v1 l1)(h2:J5 w v2 l2):Calls Tryz.prog 46 #[v1,v2] w fun e w'=>e= .returned (.bool (decide (l1=l2)))∧Below w.heap.size w w':=by
 have H1:=Xqh h1
 have H2:=Xqh h2
 obtain⟨a1,c1,rfl,p1,p2,-⟩:=h1
 obtain⟨a2,c2,rfl,q1,q2,-⟩:=h2
 by_cases hl:l1.length=l2.length
 ·have hl1:((l1.length:Int)!=l2.length)=false:=by{simp[hl]};have HL:=Xqh hl;clear hl;go_enter Tryz.func46,Tryz.ntmps46;go_wp2;go_loopw [5](fun i wr=>∃k:Nat,k≤l1.length∧i= .int .i64 k∧Hid (∀j:Nat,j<k→l1[j]?=l2[j]?)∧Below w.heap.size w wr)(fun i _=>l1.length-(intOf i).toNat);(case atStart=>exact⟨0,Nat.zero_le _,rfl,fun j hj=>by omega,Below.refl _ _⟩);case round=>obtain⟨k,hk,rfl,hT,hB⟩:=hrel;by_cases hlt:k<l1.length;·{have hlt2:k<l2.length:=by{have:=HL.out;omega};obtain⟨b1,o1,rfl,-,hcs1⟩:=(H1.out.below hB).at (by omega);obtain⟨b2,o2,rfl,-,hcs2⟩:=(H2.out.below hB).at (by omega);obtain⟨x,hx⟩:∃x,l1[k]?=some x:=⟨_,List.getElem?_eq_getElem hlt⟩;obtain⟨y,hy⟩:∃y,l2[k]?=some y:=⟨_,List.getElem?_eq_getElem hlt2⟩;obtain⟨kv,av,F,hK,hA⟩:=hcs1 k x hx;obtain⟨kv',av',F',hK',hA'⟩:=hcs2 k y hy;have HS:Hid (∀W:World,Below wr.heap.size wr W→Calls Tryz.prog 53 #[.agg (x.cells kv av).toArray,.agg (y.cells kv' av').toArray] W fun e w'=>e= .returned (.bool (decide (x=y)))∧Below W.heap.size W w'):=Xqh (fun W hW=>Xlh x y kv av kv' av' W (Xy.below hK hW) (Xy.below hK' hW) (XE.below hA hW) (XE.below hA' hW));have HX:=Xqh (And.intro hx hy);have c0:=F.c0;have c1:=F.c1;have c2:=F.c2;have c3:=F.c3;have c4:=F.c4;have c5:=F.c5;have c6:=F.c6;have c7:=F.c7;have c8:=F.c8;have c9:=F.c9;have c10:=F.c10;have c11:=F.c11;have c12:=F.c12;have d0:=F'.c0;have d1:=F'.c1;have d2:=F'.c2;have d3:=F'.c3;have d4:=F'.c4;have d5:=F'.c5;have d6:=F'.c6;have d7:=F'.c7;have d8:=F'.c8;have d9:=F'.c9;have d10:=F'.c10;have d11:=F'.c11;have d12:=F'.c12;clear hcs1 hcs2 hx hy F F' hK hA hK' hA';unfold Nd.cells at HS;go_wp2;go_region_with(refine(HS.out _ (Below.drewN (Below.refl _ _) _)).mono ?_;rintro e w2⟨rfl,hB2⟩);all_goals have HB2:Hid (Below w.heap.size w w2):=Xqh (hB.trans (((Below.drewN (Below.refl wr.heap.size wr) _).trans (hB2.mono (by simp))).mono hB.size));clear hB2 HS c0 c1 c2 c3 c4 c5 c6 c7 c8 c9 c10 c11 c12 d0 d1 d2 d3 d4 d5 d6 d7 d8 d9 d10 d11 d12;by_cases he:x=y;·{have hd:decide (x=y)=true:=decide_eq_true he;rw[hd];have HE:=Xqh he;clear hd he;go_wp2;go_roundw;(case rel=>exact⟨k+1,hlt,by go_num,fun j hj=>by by_cases hjk:j<k;·{exact hT.out j hjk};·have:j=k:=by{omega};rw[this,HX.out.1,HX.out.2,HE.out],HB2.out⟩);case measure=>simp[intOf];omega};·have hd:decide (x=y)=false:=decide_eq_false he;rw[hd];have HE:=Xqh he;clear hd he;go_wp2;go_ret;exact⟨XW (decide_eq_false (fun h=>HE.out (by have a:=HX.out.1;have b:=HX.out.2;rw[h,b]at a;simp at a;exact a.symm))).symm,HB2.out⟩};·have hfin:l1=l2:=by{apply List.ext_getElem?;intro j;by_cases hj:j<k;·{exact hT.out j hj};·have:=HL.out;rw[List.getElem?_eq_none (by omega),List.getElem?_eq_none (by omega)]};have HF:=Xqh hfin;clear hfin;go_wp2;go_ret;exact⟨XW (decide_eq_true HF.out).symm,hB⟩
 ·have hl1:((l1.length:Int)!=l2.length)=true:=by{simp;omega};have HL:=Xqh hl;clear hl;go_enter Tryz.func46,Tryz.ntmps46;go_wp2;go_ret;exact⟨XW (decide_eq_false (fun h=>HL.out (by rw[h]))).symm,Below.refl _ _⟩
theorem Xhv {w0 w:World}{B:Nat}{v1 v2:Value}{x y:List Nd}{l:List Xf}(o:Own w0 B l w)(h1:Xf.nlist v1 x∈l)(h2:Xf.nlist v2 y∈l):Calls Tryz.prog 46 #[v1,v2] w fun e w'=>e= .returned (.bool (decide (x=y)))∧Own w0 B l w':=by
 refine(XlF v1 v2 x y w (o.nlist h1) (o.nlist h2)).mono ?_
 rintro e w'⟨rfl,hB⟩
 exact⟨rfl,o.read hB⟩
end
section
/-- Two nodes, with all that hangs below them, are alike. -/
inductive ZJ (A B : Ar) : Int → Int → Prop
  | mk {h k : Int} (ha : A.has h) (hb : B.has k) (h1 : Y1 (A.get h) (B.get k)) (h2 : (A.get h).Xc.length = (B.get k).Xc.length) (h3 : (A.get h).Xg = 0 ↔ (B.get k).Xg = 0)
      (h4 : (A.get h).Xg ≠ 0 → ZJ A B (A.get h).Xg (B.get k).Xg) (h5 : ∀ (i : Nat) (x y : Int), (A.get h).Xc[i]? = some x → (B.get k).Xc[i]? = some y → ZJ A B x y) : ZJ A B h k
theorem ZJ.inv {A B:Ar}{h k:Int}(q:ZJ A B h k):A.has h∧B.has k∧Y1 (A.get h) (B.get k)∧(A.get h).Xc.length=(B.get k).Xc.length∧((A.get h).Xg=0↔(B.get k).Xg=0)∧((A.get h).Xg≠0→ZJ A B (A.get h).Xg (B.get k).Xg)∧∀(i:Nat)(x y:Int),(A.get h).Xc[i]?=some x→(B.get k).Xc[i]?=some y→ZJ A B x y:=by
 cases q with|mk ha hb h1 h2 h3 h4 h5=>exact⟨ha,hb,h1,h2,h3,h4,h5⟩
end
section
open Go.RowKit
theorem EqualAttrs_any (v1 v2:Value)(l1 l2:List Xm)(w:World)(h1:XE w v1 l1)(h2:XE w v2 l2):Calls Tryz.prog 205 #[v1,v2] w fun e w'=>e= .returned (.bool (decide (l1=l2)))∧∃m,w'=w.drewN m:=by
 obtain⟨a1,c1,rfl,p1,p2,p3⟩:=h1.form
 obtain⟨a2,c2,rfl,q1,q2,q3⟩:=h2.form
 have H1:=Xqh h1
 have H2:=Xqh h2
 clear h1 h2 p3 q3
 by_cases hl:l1.length=l2.length
 ·have hl1:((l1.length:Int)!=l2.length)=false:=by{simp[hl]};have HL:=Xqh hl;go_enter Tryz.func205,Tryz.ntmps205;go_wp2;go_loopw [13](fun i wr=>∃k:Nat,k≤l1.length∧i= .int .i64 k∧Hid (∀j:Nat,j<k→l1[j]?=l2[j]?)∧∃m,wr=w.drewN m)(fun i _=>l1.length-(intOf i).toNat);(case atStart=>exact⟨0,Nat.zero_le _,rfl,fun j hj=>by omega,0,rfl⟩);case round=>obtain⟨k,hk,rfl,hT,m0,rfl⟩:=hrel;by_cases hlt:k<l1.length;·{have hlt2:k<l2.length:=by{have:=HL.out;omega};obtain⟨b1,o1,rfl,-,hcs1⟩:=H1.out.cells (by omega);obtain⟨b2,o2,rfl,-,hcs2⟩:=H2.out.cells (by omega);obtain⟨x,hx⟩:∃x,l1[k]?=some x:=⟨_,List.getElem?_eq_getElem hlt⟩;obtain⟨y,hy⟩:∃y,l2[k]?=some y:=⟨_,List.getElem?_eq_getElem hlt2⟩;obtain⟨d1,d2,d3⟩:=hcs1 k x hx;obtain⟨e1,e2,e3⟩:=hcs2 k y hy;have HX:=Xqh (And.intro hx hy);clear hcs1 hcs2 hx hy;obtain⟨xs,xn,xv⟩:=x;obtain⟨ys,yn,yv⟩:=y;dsimp only at d1 d2 d3 e1 e2 e3;by_cases t1:xs=ys;·{have u1:(xs==ys)=true:=by{simp[t1]};by_cases t2:xn=yn;·{have u2:(xn.toList==yn.toList)=true:=by{simp[t2]};by_cases t3:xv=yv;·{have u3:(xv.toList==yv.toList)=true:=by{simp[t3]};have HT:=Xqh (And.intro t1 (And.intro t2 t3));clear t1 t2 t3;go_wp2_with(go_quiet(fail));go_wp2;go_roundw;(case rel=>exact⟨k+1,hlt,by go_num,fun j hj=>by by_cases hjk:j<k;·{exact hT.out j hjk};·have:j=k:=by{omega};rw[this,HX.out.1,HX.out.2,HT.out.1,HT.out.2.1,HT.out.2.2],(m0+nq),by first|(rfl)|rw[World.drewN_drewN]⟩);case measure=>simp[intOf];omega};·have u3:(xv.toList==yv.toList)=false:=by{rw[Xa7];simp[t3]};have HT:=Xqh t3;clear t1 t2 t3;go_wp2_with(go_quiet(fail));go_wp2;go_ret;exact⟨XW (decide_eq_false (fun h=>HT.out (by have a:=HX.out.1;have b:=HX.out.2;rw[h,b]at a;simp at a;exact a.2.2.symm))).symm,(m0+nq),by first|(rfl)|rw[World.drewN_drewN]⟩};·have u2:(xn.toList==yn.toList)=false:=by{rw[Xa7];simp[t2]};have HT:=Xqh t2;clear t1 t2;go_wp2_with(go_quiet(fail));go_wp2;go_ret;exact⟨XW (decide_eq_false (fun h=>HT.out (by have a:=HX.out.1;have b:=HX.out.2;rw[h,b]at a;simp at a;exact a.2.1.symm))).symm,(m0+nq),by first|(rfl)|rw[World.drewN_drewN]⟩};·have u1:(xs==ys)=false:=by{simp[t1]};have HT:=Xqh t1;clear t1;go_wp2_with(go_quiet(fail));go_wp2;go_ret;exact⟨XW (decide_eq_false (fun h=>HT.out (by have a:=HX.out.1;have b:=HX.out.2;rw[h,b]at a;simp at a;exact a.1.symm))).symm,(m0+nq),by first|(rfl)|rw[World.drewN_drewN]⟩};·have hfin:l1=l2:=by{apply List.ext_getElem?;intro j;by_cases hj:j<k;·{exact hT.out j hj};·have:=HL.out;rw[List.getElem?_eq_none (by omega),List.getElem?_eq_none (by omega)]};have HF:=Xqh hfin;clear hfin;go_wp2;go_ret;exact⟨XW (decide_eq_true HF.out).symm,m0,rfl⟩
 ·have hl1:((l1.length:Int)!=l2.length)=true:=by{simp;omega};have HL:=Xqh hl;clear hl;go_enter Tryz.func205,Tryz.ntmps205;go_wp2;go_ret;exact⟨XW (decide_eq_false (fun h=>HL.out (by rw[h]))).symm,0,rfl⟩
theorem arenaAlike_any (x y:Nd)(kv av kv' av':Value)(nb1 o1 nb2 o2:Nat)(w:World)(F1:YB w nb1 o1 x kv av)(F2:YB w nb2 o2 y kv' av')(hx:XE w av x.Xb)(hy:XE w av' y.Xb):Calls Tryz.prog 146 #[.pointer (some ⟨nb1,o1,none⟩),.pointer (some ⟨nb2,o2,none⟩)] w fun e w'=>e= .returned (.bool (decide (Y1 x y)))∧∃m,w'=w.drewN m:=by
 obtain⟨x0,x1,x2,x3,x4,x5,x6,x7,x8,x9,x10,x11,x12⟩:=x
 obtain⟨y0,y1,y2,y3,y4,y5,y6,y7,y8,y9,y10,y11,y12⟩:=y
 dsimp only at hx hy
 have HX:=Xqh (And.intro hx hy)
 have g10:=F1.c0
 have g14:=F1.c4
 have g15:=F1.c5
 have g16:=F1.c6
 have g17:=F1.c7
 have g18:=F1.c8
 have g19:=F1.c9
 have g1a:=F1.c10
 have g20:=F2.c0
 have g24:=F2.c4
 have g25:=F2.c5
 have g26:=F2.c6
 have g27:=F2.c7
 have g28:=F2.c8
 have g29:=F2.c9
 have g2a:=F2.c10
 dsimp only at g10 g14 g15 g16 g17 g18 g19 g1a g20 g24 g25 g26 g27 g28 g29 g2a
 clear hx hy F1 F2
 obtain⟨aa,ac,rfl,-⟩:=HX.out.1.form
 obtain⟨ba,bc,rfl,-⟩:=HX.out.2.form
 have HE:=Xqh (fun n=>EqualAttrs_any _ _ _ _ (w.drewN n) (XE.below HX.out.1 (Below.drewN (Below.refl _ _) n)) (XE.below HX.out.2 (Below.drewN (Below.refl _ _) n)))
 clear HX
 have HE0:=HE
 clear HE
 go_enter Tryz.func146,Tryz.ntmps146
 go_wp2_with fail
 simp only[List.append_eq,List.cons_append,List.nil_append]
 refine wp_region_quiet_lit (by kernel_rfl) (by kernel_rfl) ?_
 by_cases b0:x0=y0
 ·have u0:(x0==y0)=true:=by{simp[b0]};have HB0:=Xqh b0;clear b0;by_cases b1:x4=y4;·{have u1:(x4==y4)=true:=by{simp[b1]};have HB1:=Xqh b1;clear b1;by_cases b2:x5=y5;·{have u2:(x5.toList==y5.toList)=true:=by{simp[b2]};have HB2:=Xqh b2;clear b2;by_cases b3:x6=y6;·{have HE:=Xqh (fun n=>(HE0.out n).mono (fun e w' hh=>show e= .returned (.bool true)∧_ from⟨by rw[hh.1,decide_eq_true b3],hh.2⟩));have HB3:=Xqh b3;clear b3;by_cases b4:x7=y7;·{have u4:(x7.toList==y7.toList)=true:=by{simp[b4]};have HB4:=Xqh b4;clear b4;by_cases b5:x8=y8;·{have u5:(x8.toList==y8.toList)=true:=by{simp[b5]};have HB5:=Xqh b5;clear b5;by_cases b6:x9=y9;·{have u6:(x9.toList==y9.toList)=true:=by{simp[b6]};have HB6:=Xqh b6;clear b6;by_cases b7:x10=y10;·{have u7:(x10==y10)=true:=by{simp[b7]};have HB7:=Xqh b7;clear b7;(repeat(go_big_quiet_step((first|(go_at_call 205;exact Calls.quiet_of (HE.out _))))));refine wpQuiet_nil ?_;intro _ hw';obtain⟨nq,hw''⟩:=hw';subst hw'';go_wp2;go_ret;exact⟨XW (decide_eq_true ⟨HB0.out,HB1.out,HB2.out,HB3.out,HB4.out,HB5.out,HB6.out,HB7.out⟩).symm,_,rfl⟩};·have u7:(x10==y10)=false:=by{simp[b7]};have HB7:=Xqh b7;clear b7;(repeat(go_big_quiet_step((first|(go_at_call 205;exact Calls.quiet_of (HE.out _))))));refine wpQuiet_nil ?_;intro _ hw';obtain⟨nq,hw''⟩:=hw';subst hw'';go_wp2;go_ret;exact⟨XW (decide_eq_false (fun h=>HB7.out h.2.2.2.2.2.2.2)).symm,_,rfl⟩};·have u6:(x9.toList==y9.toList)=false:=by{rw[Xa7];simp[b6]};have HB6:=Xqh b6;clear b6;(repeat(go_big_quiet_step((first|(go_at_call 205;exact Calls.quiet_of (HE.out _))))));refine wpQuiet_nil ?_;intro _ hw';obtain⟨nq,hw''⟩:=hw';subst hw'';go_wp2;go_ret;exact⟨XW (decide_eq_false (fun h=>HB6.out h.2.2.2.2.2.2.1)).symm,_,rfl⟩};·have u5:(x8.toList==y8.toList)=false:=by{rw[Xa7];simp[b5]};have HB5:=Xqh b5;clear b5;(repeat(go_big_quiet_step((first|(go_at_call 205;exact Calls.quiet_of (HE.out _))))));refine wpQuiet_nil ?_;intro _ hw';obtain⟨nq,hw''⟩:=hw';subst hw'';go_wp2;go_ret;exact⟨XW (decide_eq_false (fun h=>HB5.out h.2.2.2.2.2.1)).symm,_,rfl⟩};·have u4:(x7.toList==y7.toList)=false:=by{rw[Xa7];simp[b4]};have HB4:=Xqh b4;clear b4;(repeat(go_big_quiet_step((first|(go_at_call 205;exact Calls.quiet_of (HE.out _))))));refine wpQuiet_nil ?_;intro _ hw';obtain⟨nq,hw''⟩:=hw';subst hw'';go_wp2;go_ret;exact⟨XW (decide_eq_false (fun h=>HB4.out h.2.2.2.2.1)).symm,_,rfl⟩};·have HE:=Xqh (fun n=>(HE0.out n).mono (fun e w' hh=>show e= .returned (.bool false)∧_ from⟨by rw[hh.1,decide_eq_false b3],hh.2⟩));have HB3:=Xqh b3;clear b3;(repeat(go_big_quiet_step((first|(go_at_call 205;exact Calls.quiet_of (HE.out _))))));refine wpQuiet_nil ?_;intro _ hw';obtain⟨nq,hw''⟩:=hw';subst hw'';go_wp2;go_ret;exact⟨XW (decide_eq_false (fun h=>HB3.out h.2.2.2.1)).symm,_,rfl⟩};·have u2:(x5.toList==y5.toList)=false:=by{rw[Xa7];simp[b2]};have HB2:=Xqh b2;clear b2;(repeat(go_big_quiet_step((fail))));refine wpQuiet_nil ?_;intro _ hw';obtain⟨nq,hw''⟩:=hw';subst hw'';go_wp2;go_ret;exact⟨XW (decide_eq_false (fun h=>HB2.out h.2.2.1)).symm,_,rfl⟩};·have u1:(x4==y4)=false:=by{simp[b1]};have HB1:=Xqh b1;clear b1;(repeat(go_big_quiet_step((fail))));refine wpQuiet_nil ?_;intro _ hw';obtain⟨nq,hw''⟩:=hw';subst hw'';go_wp2;go_ret;exact⟨XW (decide_eq_false (fun h=>HB1.out h.2.1)).symm,_,rfl⟩
 ·have u0:(x0==y0)=false:=by{simp[b0]};have HB0:=Xqh b0;clear b0;(repeat(go_big_quiet_step((fail))));refine wpQuiet_nil ?_;intro _ hw';obtain⟨nq,hw''⟩:=hw';subst hw'';go_wp2;go_ret;exact⟨XW (decide_eq_false (fun h=>HB0.out h.1)).symm,_,rfl⟩
end
end Go.Proofs.YtpicinjcmjaogaaGreat
