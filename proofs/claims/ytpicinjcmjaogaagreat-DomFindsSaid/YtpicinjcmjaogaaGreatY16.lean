import Derived.Laws.StructEq
import Derived.Test.YtpicinjcmjaogaaGreatY11
set_option maxRecDepth 100000
set_option maxHeartbeats 4000000
set_option linter.unusedVariables false
namespace Go.Proofs.YtpicinjcmjaogaaGreat
variable{w w1:World}{c b:Nat}{ρ:Nat->Nat}{A:Ar}{nv iv v':Value}{ns:List Nd}{I:List Int}{x:Int}
section
open Go.RowKit
theorem Xle (v:Value)(l:List Int)(n:Int)(w:World)(hv:Xy w v l):Calls Tryz.prog 141 #[v,.int .i64 n] w λe w'=>e= .returned (.int .i64 (Yt (λy=>decide (y=n)) l))/\w=w':=by
 obtain⟨a,c,rfl,hc1,hc2,hc3⟩:=hv.form
 have HV:=Xqh hv
 clear hc3 hv
 go_enter Tryz.func141,Tryz.ntmps141
 go_wp2
 go_loop [5](λi=>∃k:Nat,k<=l.length/\i= .int .i64 k/\Hid (∀j x,j<k->l[j]?=some x->x≠n))(λi=>l.length-(intOf i).toNat)
 case atStart=>exact⟨0,Nat.zero_le _,rfl,λj x hj=>by omega⟩
 case round=>obtain⟨k,hk,rfl,hT⟩:=hrel;by_cases hlt:k<l.length;{obtain⟨b1,o1,rfl,-,hcs⟩:=HV.out.cells (by omega);obtain⟨x,hx⟩:∃x,l[k]?=some x:=⟨_,List.getElem?_eq_getElem hlt⟩;have d1:=hcs k x hx;have HX:=Xqh hx;clear hcs hx;by_cases he:x=n;{have he1:(x==n)=true:=by{simp[he]};have HE:=Xqh he;clear he;go_wp2;go_ret;exact⟨Zd (Xbc HX.out (by simp[HE.out]) (λj y hj hy=>by simpa using hT.out j y hj hy)).symm,rfl⟩};·have he1:(x==n)=false:=by{simp[he]};have HE:=Xqh he;clear he;go_wp2;go_round;(case rel=>exact⟨k+1,hlt,by go_num,λj y hj hy=>by by_cases hjk:j<k;{exact hT.out j y hjk hy};·have:j=k:=by{omega};rw[this,HX.out]at hy;simp at hy;rw[<-hy];exact HE.out⟩);case measure=>simp[intOf];omega};·have hfin:Yt (λy=>decide (y=n)) l= -1:=JT (λj y hy=>by have:=hT.out j y (by have:=(List.getElem?_eq_some_iff.1 hy).1;omega) hy;simpa using this);have HF:=Xqh hfin;clear hfin;go_wp2;go_ret;exact⟨Zd HF.out.symm,rfl⟩
theorem XE.cells {a:Option Addr}{n:Nat}{l:List Xm}(h:XE w (.slice a n c) l)(hp:0<l.length):∃b o,a=some ⟨b,o,none⟩/\n=l.length/\∀j x,l[j]?=some x->w.cell? ⟨b,o+j*3,none⟩=some (.int .i64 x.1)/\w.cell? ⟨b,o+j*3+1,none⟩=some (.string x.2.1)/\w.cell? ⟨b,o+j*3+2,none⟩=some (.string x.2.2):=by
 obtain⟨a',c',e,h2,h3,h4⟩:=h.form
 simp at e
 obtain⟨rfl,rfl,rfl⟩:=e
 obtain⟨b,o,h5,h6⟩:=h4 hp
 exact⟨b,o,h5,rfl,h6⟩
theorem Xlf (v1 v2:Value)(l1 l2:List Xm)(w:World)(h1:XE w v1 l1)(h2:XE w v2 l2):Calls Tryz.prog 60 #[v1,v2] w λe w'=>e= .returned (.bool (decide (l1=l2)))/\Below w.heap.size w w':=by
 obtain⟨a1,c1,rfl,p1,p2,p3⟩:=h1.form
 obtain⟨a2,c2,rfl,q1,q2,q3⟩:=h2.form
 have H1:=Xqh h1
 have H2:=Xqh h2
 clear h1 h2 p3 q3
 by_cases hl:l1.length=l2.length
 ·have hl1:((l1.length:Int)!=l2.length)=false:=by{simp[hl]};have HL:=Xqh hl;go_enter Tryz.func60,Tryz.ntmps60;go_wp2;go_loopw [5](λi wr=>∃k:Nat,k<=l1.length/\i= .int .i64 k/\Hid (∀j:Nat,j<k->l1[j]?=l2[j]?)/\Below w.heap.size w wr)(λi _=>l1.length-(intOf i).toNat);(case atStart=>exact⟨0,Nat.zero_le _,rfl,λj hj=>by omega,Below.refl _ _⟩);case round=>obtain⟨k,hk,rfl,hT,hB⟩:=hrel;by_cases hlt:k<l1.length;{have hlt2:k<l2.length:=by{have:=HL.out;omega};obtain⟨b1,o1,rfl,-,hcs1⟩:=H1.out.cells (by omega);obtain⟨b2,o2,rfl,-,hcs2⟩:=H2.out.cells (by omega);obtain⟨x,hx⟩:∃x,l1[k]?=some x:=⟨_,List.getElem?_eq_getElem hlt⟩;obtain⟨y,hy⟩:∃y,l2[k]?=some y:=⟨_,List.getElem?_eq_getElem hlt2⟩;obtain⟨d1,d2,d3⟩:=hcs1 k x hx;obtain⟨e1,e2,e3⟩:=hcs2 k y hy;have d1:=Below.old hB d1;have d2:=Below.old hB d2;have d3:=Below.old hB d3;have e1:=Below.old hB e1;have e2:=Below.old hB e2;have e3:=Below.old hB e3;have HX:=Xqh (And.intro hx hy);clear hcs1 hcs2 hx hy;obtain⟨xs,xn,xv⟩:=x;obtain⟨ys,yn,yv⟩:=y;dsimp only at d1 d2 d3 e1 e2 e3;by_cases t1:xs=ys;{have u1:(xs==ys)=true:=by{simp[t1]};by_cases t2:xn=yn;{have u2:(xn.toList==yn.toList)=true:=by{simp[t2]};by_cases t3:xv=yv;{have u3:(xv.toList==yv.toList)=true:=by{simp[t3]};have HT:=Xqh (And.intro t1 (And.intro t2 t3));clear t1 t2 t3;go_wp2_with(go_quiet(fail));go_wp2;go_roundw;(case rel=>exact⟨k+1,hlt,by go_num,λj hj=>by by_cases hjk:j<k;{exact hT.out j hjk};·have:j=k:=by{omega};rw[this,HX.out.1,HX.out.2,HT.out.1,HT.out.2.1,HT.out.2.2],Below.drewN hB _⟩);case measure=>simp[intOf];omega};·have u3:(xv.toList==yv.toList)=false:=by{rw[Xa7];simp[t3]};have HT:=Xqh t3;clear t1 t2 t3;go_wp2_with(go_quiet(fail));go_wp2;go_ret;exact⟨XW (decide_eq_false (λh=>HT.out (by have a:=HX.out.1;have b:=HX.out.2;rw[h,b]at a;simp at a;exact a.2.2.symm))).symm,Below.drewN hB _⟩};·have u2:(xn.toList==yn.toList)=false:=by{rw[Xa7];simp[t2]};have HT:=Xqh t2;clear t1 t2;go_wp2_with(go_quiet(fail));go_wp2;go_ret;exact⟨XW (decide_eq_false (λh=>HT.out (by have a:=HX.out.1;have b:=HX.out.2;rw[h,b]at a;simp at a;exact a.2.1.symm))).symm,Below.drewN hB _⟩};·have u1:(xs==ys)=false:=by{simp[t1]};have HT:=Xqh t1;clear t1;go_wp2_with(go_quiet(fail));go_wp2;go_ret;exact⟨XW (decide_eq_false (λh=>HT.out (by have a:=HX.out.1;have b:=HX.out.2;rw[h,b]at a;simp at a;exact a.1.symm))).symm,Below.drewN hB _⟩};·have hfin:l1=l2:=by{apply List.ext_getElem?;intro j;by_cases hj:j<k;{exact hT.out j hj};·have:=HL.out;rw[List.getElem?_eq_none (by omega),List.getElem?_eq_none (by omega)]};have HF:=Xqh hfin;clear hfin;go_wp2;go_ret;exact⟨XW (decide_eq_true HF.out).symm,hB⟩
 ·have hl1:((l1.length:Int)!=l2.length)=true:=by{simp;omega};have HL:=Xqh hl;clear hl;go_enter Tryz.func60,Tryz.ntmps60;go_wp2;go_ret;exact⟨XW (decide_eq_false (λh=>HL.out (by rw[h]))).symm,Below.refl _ _⟩
end
section
open Go.RowKit
def Y1 (x y : Nd) : Prop := x.Xa = y.Xa /\ x.space = y.space /\ x.name = y.name /\ x.Xb = y.Xb /\ x.data = y.data /\ x.pub = y.pub /\ x.sys = y.sys /\ x.XI = y.XI
instance (x y : Nd) : Decidable (Y1 x y) := inferInstanceAs (Decidable (_ /\ _ /\ _ /\ _ /\ _ /\ _ /\ _ /\ _))
theorem XaY (w:World)(n:Nd)(kv av:Value)(t:TypeId):YB (w.alloc (.cells (n.cells kv av).toArray t)) w.heap.size 0 n kv av:=⟨Yi rfl rfl,Yi rfl rfl,Yi rfl rfl,Yi rfl rfl,Yi rfl rfl,Yi rfl rfl,Yi rfl rfl,Yi rfl rfl,Yi rfl rfl,Yi rfl rfl,Yi rfl rfl,Yi rfl rfl,Yi rfl rfl⟩
theorem J8 (w:World)(o o':Obj):Below w.heap.size w ((w.alloc o).alloc o'):=(Xw w o).alloc (by simp) _
theorem Xlg (x y:Nd)(kv av kv' av':Value)(w:World)(hx:XE w av x.Xb)(hy:XE w av' y.Xb):Calls Tryz.prog 136 #[.agg (x.cells kv av).toArray,.agg (y.cells kv' av').toArray] w λe w'=>e= .returned (.bool (decide (Y1 x y)))/\Below w.heap.size w w':=by
 have F1:=(XaY w x kv av 46).below (Xw _ (.cells (y.cells kv' av').toArray 46))
 have F2:=XaY (w.alloc (.cells (x.cells kv av).toArray 46)) y kv' av' 46
 obtain⟨x0,x1,x2,x3,x4,x5,x6,x7,x8,x9,x10,x11,x12⟩:=x
 obtain⟨y0,y1,y2,y3,y4,y5,y6,y7,y8,y9,y10,y11,y12⟩:=y
 unfold Nd.cells at F1 F2⊢
 dsimp only at hx hy F1 F2⊢
 simp only[World.size_alloc]at F2
 have HF:=Xqh (And.intro F1 F2)
 have HX:=Xqh (show∀o o',XE ((w.alloc o).alloc o') av x6/\XE ((w.alloc o).alloc o') av' y6 from λo o'=>⟨XE.below hx (J8 w _ _),XE.below hy (J8 w _ _)⟩)
 clear hx hy F1 F2
 go_enter Tryz.func136,Tryz.ntmps136
 go_wp2_with fail
 ·have q0:x0=y0:=‹_›;have q4:x4=y4:=‹_›;subst q0;subst q4;refine(Xlf av av' _ _ _ (HX.out _ _).1 (HX.out _ _).2).mono ?_;rintro e w2⟨rfl,hB2⟩;have G1:=HF.out.1.below hB2;have G2:=HF.out.2.below hB2;have g17:=G1.c7;have g18:=G1.c8;have g19:=G1.c9;have g1a:=G1.c10;have g27:=G2.c7;have g28:=G2.c8;have g29:=G2.c9;have g2a:=G2.c10;(try dsimp only at g17 g18 g19 g1a g27 g28 g29 g2a);simp only[Nat.zero_add]at g17 g18 g19 g1a g27 g28 g29 g2a;have HB:=Xqh ((J8 w _ _).trans (hB2.mono (by simp;omega)));clear G1 G2 HF HX hB2;by_cases ha:x6=y6;{have hd:decide (x6=y6)=true:=by{simp[ha]};rw[hd];clear hd;go_wp2;(all_goals go_ret;refine⟨XW ?_,HB.out⟩);all_goals first|(refine(decide_eq_false (λh=>?_)).symm;obtain⟨q0,q1,q2,q3,q4,q5,q6,q7⟩:=h;simp_all;done)|(have s5:=str_inj ‹x5.toList=y5.toList›;have s7:=str_inj ‹x7.toList=y7.toList›;have s8:=str_inj ‹x8.toList=y8.toList›;have s9:=str_inj ‹x9.toList=y9.toList›;rw[Bool.eq_iff_iff];simp[Y1,s5,s7,s8,s9,ha];done)};·have hd:decide (x6=y6)=false:=by{simp[ha]};rw[hd];clear hd;go_wp2;go_ret;exact⟨XW (decide_eq_false (λh=>ha h.2.2.2.1)).symm,HB.out⟩
 all_goals go_ret;refine⟨XW (decide_eq_false (λh=>?_)).symm,J8 w _ _⟩;obtain⟨q0,q1,q2,q3,q4,q5,q6,q7⟩:=h;simp_all
def Xdb (x y : Nd) : Prop := Y1 x y /\ x.Xc = y.Xc /\ x.Xd = y.Xd /\ x.doc = y.doc /\ x.Xg = y.Xg /\ x.host = y.host
theorem Xhk (x y:Nd):Xdb x y↔x=y:=by
 obtain⟨x0,x1,x2,x3,x4,x5,x6,x7,x8,x9,x10,x11,x12⟩:=x
 obtain⟨y0,y1,y2,y3,y4,y5,y6,y7,y8,y9,y10,y11,y12⟩:=y
 simp only[Xdb,Y1,Nd.mk.injEq]
 constructor
 ·rintro⟨⟨a,b,c,d,e,f,g,h⟩,i,j,k,l,m⟩;exact⟨a,j,i,k,b,c,d,e,f,g,h,l,m⟩
 ·rintro⟨a,j,i,k,b,c,d,e,f,g,h,l,m⟩;exact⟨⟨a,b,c,d,e,f,g,h⟩,i,j,k,l,m⟩
instance (x y : Nd) : Decidable (Xdb x y) := inferInstanceAs (Decidable (_ /\ _ /\ _ /\ _ /\ _ /\ _))
instance (x y : Nd) : Decidable (x = y) := decidable_of_decidable_of_iff (Xhk x y)
theorem Xlh (x y:Nd)(kv av kv' av':Value)(w:World)(hk:Xy w kv x.Xc)(hk':Xy w kv' y.Xc)(hx:XE w av x.Xb)(hy:XE w av' y.Xb):Calls Tryz.prog 53 #[.agg (x.cells kv av).toArray,.agg (y.cells kv' av').toArray] w λe w'=>e= .returned (.bool (decide (x=y)))/\Below w.heap.size w w':=by
 have F1:=(XaY w x kv av 46).below (Xw _ (.cells (y.cells kv' av').toArray 46))
 have F2:=XaY (w.alloc (.cells (x.cells kv av).toArray 46)) y kv' av' 46
 have HA:Hid (∀W:World,Below w.heap.size w W->Calls Tryz.prog 136 #[.agg (x.cells kv av).toArray,.agg (y.cells kv' av').toArray] W λe w'=>e= .returned (.bool (decide (Y1 x y)))/\Below W.heap.size W w'):=Xqh (λW hW=>Xlg x y kv av kv' av' W (XE.below hx hW) (XE.below hy hW))
 have HI:Hid (∀W:World,Below w.heap.size w W->Calls Tryz.prog 36 #[kv,kv'] W λe w'=>e= .returned (.bool (decide (x.Xc=y.Xc)))/\Below W.heap.size W w'):=Xqh (λW hW=>XcU kv kv' _ _ W (Xy.below hk hW) (Xy.below hk' hW))
 have hsame:=Xhk x y
 unfold Xdb at hsame
 by_cases hal:Y1 x y
 ·have hd:decide (Y1 x y)=true:=decide_eq_true hal;have HS:=Xqh (And.intro hsame hal);have HD:=Xqh hd;clear hk hk' hx hy hsame hal hd;obtain⟨x0,x1,x2,x3,x4,x5,x6,x7,x8,x9,x10,x11,x12⟩:=x;obtain⟨y0,y1,y2,y3,y4,y5,y6,y7,y8,y9,y10,y11,y12⟩:=y;unfold Nd.cells at*;dsimp only at F1 F2 HA HI HS⊢;simp only[World.size_alloc]at F2;have HF:=Xqh (And.intro F1 F2);clear F1 F2;go_enter Tryz.func53,Tryz.ntmps53;go_wp2_with fail;refine(HA.out _ (J8 w _ _)).mono ?_;rintro e w2⟨rfl,hB2⟩;rw[HD.out];have G1:=HF.out.1.below hB2;have G2:=HF.out.2.below hB2;have g12:=G1.c2;have g22:=G2.c2;(try dsimp only at g12 g22);simp only[Nat.zero_add]at g12 g22;have HB:=Xqh ((J8 w _ _).trans (hB2.mono (by simp;omega)));have HG:=Xqh (And.intro G1 G2);clear G1 G2 HF hB2;go_wp2_with fail;refine(HI.out _ HB.out).mono ?_;rintro e w3⟨rfl,hB3⟩;have G1:=HG.out.1.below hB3;have G2:=HG.out.2.below hB3;have g11:=G1.c1;have g13:=G1.c3;have g1b:=G1.c11;have g1c:=G1.c12;have g21:=G2.c1;have g23:=G2.c3;have g2b:=G2.c11;have g2c:=G2.c12;(try dsimp only at g11 g13 g1b g1c g21 g23 g2b g2c);simp only[Nat.zero_add]at g11 g13 g1b g1c g21 g23 g2b g2c;have HB3:=Xqh (HB.out.trans (hB3.mono HB.out.size));clear G1 G2 HG hB3 g12 g22;by_cases hki:x2=y2;{have hd2:decide (x2=y2)=true:=decide_eq_true hki;rw[hd2];have HKI:=Xqh hki;clear hd2 hki;go_wp2;(all_goals go_ret;refine⟨XW ?_,HB3.out⟩);all_goals first|(refine(decide_eq_false (λh=>?_)).symm;rw[<-HS.out.1]at h;obtain⟨q0,q1,q2,q3,q4,q5⟩:=h;simp_all;done)|(have e1:x1=y1:=‹_›;have e3:x3=y3:=‹_›;have eb:x11=y11:=‹_›;subst e1;subst e3;subst eb;have q1:=HS.out.2;have q2:=HKI.out;have q3:=HS.out.1;rw[Bool.eq_iff_iff];simp only[decide_eq_true_eq,beq_iff_eq];rw[<-q3];exact⟨λe=>⟨q1,q2,rfl,rfl,rfl,e⟩,λh=>h.2.2.2.2.2⟩)};·have hd2:decide (x2=y2)=false:=decide_eq_false hki;rw[hd2];have HKI:=Xqh hki;clear hd2 hki;go_wp2;go_ret;exact⟨XW (decide_eq_false (λh=>HKI.out (HS.out.1.2 h).2.1)).symm,HB3.out⟩
 ·have hd:decide (Y1 x y)=false:=decide_eq_false hal;have HS:=Xqh (show decide (x=y)=false from decide_eq_false (λh=>hal (hsame.2 h).1));have HD:=Xqh hd;clear hk hk' hx hy hsame hal hd F1 F2 HI;obtain⟨x0,x1,x2,x3,x4,x5,x6,x7,x8,x9,x10,x11,x12⟩:=x;obtain⟨y0,y1,y2,y3,y4,y5,y6,y7,y8,y9,y10,y11,y12⟩:=y;unfold Nd.cells at*;dsimp only at HA HS⊢;go_enter Tryz.func53,Tryz.ntmps53;go_wp2_with fail;refine(HA.out _ (J8 w _ _)).mono ?_;rintro e w2⟨rfl,hB2⟩;rw[HD.out];have HB:=Xqh ((J8 w _ _).trans (hB2.mono (by simp;omega)));clear hB2;go_wp2;go_ret;exact⟨XW HS.out.symm,HB.out⟩
theorem J5.at {w:World}{a:Option Addr}{n c:Nat}{ns:List Nd}(h:J5 w (.slice a n c) ns)(hp:0<ns.length):∃b o,a=some ⟨b,o,none⟩/\n=ns.length/\∀i m,ns[i]?=some m->∃kv av,YB w b (o+i*13) m kv av/\Xy w kv m.Xc/\XE w av m.Xb:=by
 obtain⟨a',c',e,h2,h3,h4⟩:=h
 simp at e
 obtain⟨rfl,rfl,rfl⟩:=e
 obtain⟨b,o,h5,h6⟩:=h4 hp
 exact⟨b,o,h5,rfl,h6⟩
end
section
open Go.RowKit
/-- What lies in memory of an arena of the Xn whose two lists may not yet fit together. -/
def Jg (w : World) (ρ : Nat -> Nat) (b : Nat) (nv iv : Value) (ns : List Nd) (I : List Int) : Prop :=
  (∀ k, ρ k ≠ 0 -> k < w.heap.size) /\ ρ b = 1 /\ w.heap[b]? = some (.cells #[nv, iv] 112 (0, 0)) /\ YX w ρ 46 132 nv ns /\ XT w ρ 3 3 1 iv I.length (I.map Xp)
theorem Xx.part (h:Xx w ρ b A):A.Xh.length=A.ns.length+1/\∃nv iv,Jg w ρ b nv iv (XL::A.ns) A.Xh:=by
 obtain⟨h1,h2,h3,nv,iv,h4,h5,h6⟩:=h
 exact⟨h3,nv,iv,h1,h2,h4,h5,by rw[h3];exact h6⟩
theorem Jg.mem (h:Jg w ρ b nv iv (XL::A.ns) A.Xh)(hl:A.Xh.length=A.ns.length+1):Xx w ρ b A:=by
 obtain⟨h1,h2,h3,h4,h5⟩:=h
 exact⟨h1,h2,hl,nv,iv,h3,h4,by rw[<-hl];exact h5⟩
theorem Jg.Xli {av:Value}{n:Nd}{rows:List (List Value)}(h:Jg w ρ b nv iv ns I)(hrl:rows.length=ns.length)(hrows:∀i n,ns[i]?=some n->∃r,rows[i]?=some r/\ZP w ρ 132 i n r)(hk:n.Xc= [])(hav:XT w ρ (2*ns.length+5) 132 3 av n.Xb.length (n.Xb.flatMap Xv))(hrole:∀g,nv.ownBlock=some g->ρ g=2)(hU:Upd (λk=>nv.ownBlock=some k) w w1)(hown:w1.ownsRow 0 46 13 v' (ns.length+1) (rows.flatten++n.cells (.slice none 0 0) av))(hat:v'.ownBlock=nv.ownBlock\/∃g,v'.ownBlock=some g/\w.heap.size<=g):∃ρ',Jg (w1.setCell ⟨b,0,none⟩ v') ρ' b v' iv (ns++ [n]) I/\Xr ρ ρ' w (w1.setCell ⟨b,0,none⟩ v'):=by
 obtain⟨h1,h2,h3,h4,h5⟩:=h
 have hbl:=lt_of_block h3
 rcases hown.2 with⟨hv,h0⟩|⟨gg,cap,cur,hv,hb0,hg,hn,hc,hs,ht⟩
 ·omega
 subst hv
 have hat':nv.ownBlock=some gg\/w.heap.size<=gg:=by rcases hat with hat|⟨g,q1,q2⟩;{left;rw[<-hat];rfl};·simp[Value.ownBlock]at q1;subst q1;exact .inr q2
 have hnb:∀k,nv.ownBlock=some k->k≠b:=λk hk e=>by have:=hrole k hk;rw[e]at this;omega
 have hgb:gg≠b:=by rcases hat' with q|q;{exact hnb gg q};·omega
 obtain⟨hr',hN⟩:=YX.added h1 hrole hrl hrows hk hav hU hown hat'
 have hUb:Upd (λk=>k=b) w1 (w1.setCell ⟨b,0,none⟩ (.slice (some ⟨gg,0,none⟩) (ns.length+1) cap)):=(Upd.refl (λk=>k=b) w1).setCell (p:=⟨b,0,none⟩) (.inr rfl) _
 have hF:∀k r,(λk=>if k=gg then 2 else ρ k) k=r->r≠1->¬k=b:=by rintro k r hk hk1 rfl;dsimp only at hk;rw[if_neg (Ne.symm hgb)]at hk;omega
 obtain⟨rows',hN1,hN2,hN3⟩:=hN
 refine⟨λk=>if k=gg then 2 else ρ k,⟨λk hk=>?_,?_,?_,⟨rows',hN1.upd hUb (λk hk=>hF k _ hk (by omega)),hN2,λi m hm=>?_⟩,?_⟩,⟨?_,hr'⟩⟩
 ·dsimp only at hk;have hsz:(w1.setCell ⟨b,0,none⟩ (.slice (some ⟨gg,0,none⟩) (ns.length+1) cap)).heap.size=w1.heap.size:=by{simp};rw[hsz];split at hk;{rename_i e;rw[e];exact lt_of_block hg};·exact Nat.lt_of_lt_of_le (h1 k hk) hU.size
 ·dsimp only;rw[if_neg (Ne.symm hgb)];exact h2
 ·exact Xf1 ((hU.block b hbl (λe=>hnb b e rfl)).trans h3)
 ·obtain⟨r,q1,q2⟩:=hN3 i m hm;exact⟨r,q1,q2.upd hUb (λk hk=>by rcases hk with hk|hk<;>exact hF k _ hk (by omega))⟩
 ·refine((h5.role hr').upd hU (λk hk hf=>?_)).upd hUb (λk hk=>hF k _ hk (by omega));have:=hrole k hf;split at hk<;>omega
 ·refine(hU.mono (λk _ hk=>?_)).trans (hUb.mono (λk _ hk=>?_));{rw[hrole k hk];omega};·rw[hk];omega
theorem Jg.Xlj (h:Jg w ρ b nv iv ns I)(hU:Upd (λk=>iv.ownBlock=some k) w w1)(hown:w1.ownsRow 0 3 1 v' (I.length+1) (I.map Xp++ [Xp x]))(hat:v'.ownBlock=iv.ownBlock\/∃g,v'.ownBlock=some g/\w.heap.size<=g):∃ρ',Jg (w1.setCell ⟨b,1,none⟩ v') ρ' b nv v' ns (I++ [x])/\Xr ρ ρ' w (w1.setCell ⟨b,1,none⟩ v'):=by
 obtain⟨h1,h2,h3,h4,h5⟩:=h
 have hbl:=lt_of_block h3
 rcases hown.2 with⟨hv,h0⟩|⟨gg,cap,cur,hv,hb0,hg,hn,hc,hs,ht⟩
 ·omega
 subst hv
 have hat':iv.ownBlock=some gg\/w.heap.size<=gg:=by rcases hat with hat|⟨g,q1,q2⟩;{left;rw[<-hat];rfl};·simp[Value.ownBlock]at q1;subst q1;exact .inr q2
 have hrole:=h5.2
 have hnb:∀k,iv.ownBlock=some k->k≠b:=λk hk e=>by have:=hrole k hk;rw[e]at this;omega
 have hgb:gg≠b:=by rcases hat' with q|q;{exact hnb gg q};·omega
 have hr':∀k,k<w.heap.size->(if k=gg then 3 else ρ k)=ρ k:=λk hk=>by split;{rename_i e;subst e;rcases hat' with q|q;{exact(hrole _ q).symm};·omega};·rfl
 have hUb:Upd (λk=>k=b) w1 (w1.setCell ⟨b,1,none⟩ (.slice (some ⟨gg,0,none⟩) (I.length+1) cap)):=(Upd.refl (λk=>k=b) w1).setCell (p:=⟨b,1,none⟩) (.inr rfl) _
 have hUU:Upd (λk=>k=b\/iv.ownBlock=some k) w (w1.setCell ⟨b,1,none⟩ (.slice (some ⟨gg,0,none⟩) (I.length+1) cap)):=(hU.mono (λk _ hk=> .inr hk)).trans (hUb.mono (λk _ hk=> .inl hk))
 have hF:∀k r,(λk=>if k=gg then 3 else ρ k) k=r->r≠0->r≠1->r≠3->¬(k=b\/iv.ownBlock=some k):=by rintro k r hk q0 q1 q3(rfl|hf);{dsimp only at hk;rw[if_neg (Ne.symm hgb)]at hk;omega};·dsimp only at hk;have:=hrole k hf;split at hk<;>omega
 refine⟨λk=>if k=gg then 3 else ρ k,⟨λk hk=>?_,?_,?_,?_,⟨?_,?_⟩⟩,⟨?_,hr'⟩⟩
 ·dsimp only at hk;have hsz:(w1.setCell ⟨b,1,none⟩ (.slice (some ⟨gg,0,none⟩) (I.length+1) cap)).heap.size=w1.heap.size:=by{simp};rw[hsz];split at hk;{rename_i e;rw[e];exact lt_of_block hg};·exact Nat.lt_of_lt_of_le (h1 k hk) hU.size
 ·dsimp only;rw[if_neg (Ne.symm hgb)];exact h2
 ·exact Xf2 ((hU.block b hbl (λe=>hnb b e rfl)).trans h3)
 ·obtain⟨rows,q1,q2,q3⟩:=h4.role hr';exact⟨rows,q1.upd hUU (λk hk=>hF k _ hk (by omega) (by omega) (by omega)),q2,λi m hm=>by obtain⟨r,p1,p2⟩:=q3 i m hm;exact⟨r,p1,p2.upd hUU (λk hk=>by rcases hk with hk|hk<;>exact hF k _ hk (by omega) (by omega) (by omega))⟩⟩
 ·have:=ZS hown hUb (λk hk e=>by simp[Value.ownBlock]at hk;exact hgb (hk.trans e));simpa using this
 ·intro g hg';simp[Value.ownBlock]at hg';simp[hg']
 ·refine hUU.mono (λk _ hk=>?_);rcases hk with rfl|hk;{omega};·rw[hrole k hk];omega
theorem Jg.Xhl {ib:Nat}{i:Nat}(h:Jg w ρ b nv (.slice (some ⟨ib,0,none⟩) I.length c) ns I):Jg (w.setCell ⟨ib,i,none⟩ (.int .i64 x)) ρ b nv (.slice (some ⟨ib,0,none⟩) I.length c) ns (I.set i x)/\Xr ρ ρ w (w.setCell ⟨ib,i,none⟩ (.int .i64 x)):=by
 obtain⟨h1,h2,h3,h4,h5⟩:=h
 have hib:ρ ib=3:=h5.2 ib rfl
 have hne:ib≠b:=λe=>by rw[e]at hib;omega
 have hU:Upd (λk=>k=ib) w (w.setCell ⟨ib,i,none⟩ (.int .i64 x)):=(Upd.refl (λk=>k=ib) w).setCell (p:=⟨ib,i,none⟩) (.inr rfl) _
 refine⟨⟨λk hk=>by simpa using h1 k hk,h2,by rw[Z1 _ _ _ _ (Ne.symm hne)];exact h3,?_,⟨?_,λg hg=>by simp[Value.ownBlock]at hg;rw[<-hg];exact hib⟩⟩,hU.mono (λk _ hk=>by rw[hk];omega),λ_ _=>rfl⟩
 ·obtain⟨rows,q1,q2,q3⟩:=h4;have hF:∀k,ρ k≠3->¬k=ib:=λk hk e=>hk (by rw[e];exact hib);exact⟨rows,q1.upd hU (λk hk=>hF k (by omega)),q2,λi m hm=>by obtain⟨r,p1,p2⟩:=q3 i m hm;exact⟨r,p1,p2.upd hU (λk hk=>hF k (by omega))⟩⟩
 ·have:=XbI h5.1 i (.int .i64 x);rw[List.length_set,List.map_set];exact this
theorem Xx.XdS (h:Xx w ρ b A)(g r:Nat)(hg:ρ g=0)(hlt:g<w.heap.size):Xx w (λk=>if k=g then r else ρ k) b A:=by
 have key:∀k r',r'≠0->ρ k=r'->(if k=g then r else ρ k)=r':=λk r' hr' hk=>by rw[if_neg (by intro e;subst e;omega)];exact hk
 have hown:∀{r' e size v n xs},r'≠0->XT w ρ r' e size v n xs->XT w (λk=>if k=g then r else ρ k) r' e size v n xs:=λhr' ho=>⟨ho.1,λk hk=>key k _ hr' (ho.2 k hk)⟩
 obtain⟨h1,h2,h3,nv,iv,h4,⟨rows,h5,h6,h7⟩,h8⟩:=h
 refine⟨λk hk=>?_,key b 1 (by omega) h2,h3,nv,iv,h4,⟨rows,hown (by omega) h5,h6,λi n hn=>?_⟩,hown (by omega) h8⟩
 ·dsimp only at hk;split at hk;{rename_i e;rw[e];exact hlt};·exact h1 k hk
 ·obtain⟨r',hr',kv,av,hrc,hk,ha⟩:=h7 i n hn;exact⟨r',hr',kv,av,hrc,hown (by omega) hk,hown (by omega) ha⟩
end
section
open Go.RowKit
theorem Xhm (A:Ar)(b:Nat)(a:Option Addr)(c:Nat)(h:Int)(w:World)(h0:w.cell? ⟨b,0,none⟩=some (.slice a (A.ns.length+1) c))(hm:(A.ns.length:Int)+1<=9223372036854775807):Calls Tryz.prog 64 #[.pointer (some ⟨b,0,none⟩),.int .i64 h] w λe w'=>e= .returned (.bool (decide (A.has h)))/\w=w':=by
 by_cases h1:0<h
 ·go_enter Tryz.func64,Tryz.ntmps64;go_wp2;go_ret;exact⟨XW (decide_eq_decide.2 ⟨λq=>⟨by omega,by unfold Ar.n;omega⟩,λq=>by have:=q.2;unfold Ar.n at this;omega⟩),rfl⟩
 ·go_enter Tryz.func64,Tryz.ntmps64;go_wp2;go_ret;exact⟨XW (decide_eq_false (λhc=>by have:=hc.1;omega)).symm,rfl⟩
theorem Xlk (A:Ar)(b:Nat)(a:Option Addr)(c:Nat)(w:World)(h0:w.cell? ⟨b,0,none⟩=some (.slice a (A.ns.length+1) c))(hm:(A.ns.length:Int)+1<=9223372036854775807):Calls Tryz.prog 96 #[.pointer (some ⟨b,0,none⟩)] w λe w'=>e= .returned (.int .i64 A.ns.length)/\w=w':=by
 go_enter Tryz.func96,Tryz.ntmps96
 go_wp2
 go_ret
 exact⟨Zd (by omega),rfl⟩
theorem Xb9 (A:Ar)(ρ:Nat->Nat)(b:Nat)(d:Int)(w:World)(hA:Xx w ρ b A):Calls Tryz.prog 93 #[.pointer (some ⟨b,0,none⟩),.int .i64 d] w λe w'=>e= .returned (.int .i64 (A.XA d))/\w=w':=by
 obtain⟨nb,c,ib,ic,h0,h1,hf,hlt,hm,hc,-,-,-,-,-,-,-,-,-,hN⟩:=hA.head
 have HH:=Xqh (λW h0'=>Xhm A b (some ⟨nb,0,none⟩) c d W h0' hm)
 by_cases hh:A.has d
 ·obtain⟨kv,av,F,-,-⟩:=hN d hh;have c0:=F.c0;have hp:=hh.1;have hq:=hh.2;unfold Ar.n at hq;have hd:decide (A.has d)=true:=by{simp[hh]};have hdn:d.toNat*13=d.toNat*13:=rfl;by_cases hk:(A.get d).Xa=1;{have hk1:((A.get d).Xa !=1)=false:=by{simp[hk]};have Hfin:=Xqh (show A.XA d=0 by simp[Ar.XA,hh,hk]);clear hk F hN hh;go_enter Tryz.func93,Tryz.ntmps93;go_wp2_with fail;refine(HH.out _ h0).mono ?_;rintro e w'⟨rfl,rfl⟩;rw[hd];go_wp2;go_ret;exact⟨Zd Hfin.out.symm,rfl⟩};·have hk1:((A.get d).Xa !=1)=true:=by{simp[hk]};have Hfin:=Xqh (show A.XA d=9 by simp[Ar.XA,hh,hk]);clear hk F hN hh;go_enter Tryz.func93,Tryz.ntmps93;go_wp2_with fail;refine(HH.out _ h0).mono ?_;rintro e w'⟨rfl,rfl⟩;rw[hd];go_wp2;go_ret;exact⟨Zd Hfin.out.symm,rfl⟩
 ·have hd:decide (A.has d)=false:=by{simp[hh]};have Hfin:=Xqh (show A.XA d=3 by simp[Ar.XA,hh]);clear hN hh;go_enter Tryz.func93,Tryz.ntmps93;go_wp2_with fail;refine(HH.out _ h0).mono ?_;rintro e w'⟨rfl,rfl⟩;rw[hd];go_wp2;go_ret;exact⟨Zd Hfin.out.symm,rfl⟩
theorem Xdc (s:Int)(w:World):Calls Tryz.prog 103 #[.int .i64 s] w λe w'=>e= .returned (.bool (decide (XS s)))/\w=w':=by
 by_cases h0:0<=s
 ·go_enter Tryz.func103,Tryz.ntmps103;go_wp2;go_ret;exact⟨XW (by rw[Bool.eq_iff_iff];simp[XS,h0]),rfl⟩
 ·go_enter Tryz.func103,Tryz.ntmps103;go_wp2;go_ret;exact⟨XW (decide_eq_false (λh=>by have:=h.1;omega)).symm,rfl⟩
theorem Xe2 (v:Value)(l:List Xm)(w:World)(hv:XE w v l):Calls Tryz.prog 104 #[v] w λe w'=>e= .returned (.bool (decide (Ys l)))/\w=w':=by
 have HV:=Xqh hv
 obtain⟨a,c,rfl,hc1,hc2,-⟩:=hv.form
 clear hv
 go_enter Tryz.func104,Tryz.ntmps104
 go_wp2
 go_loop [3](λi=>∃k:Nat,k<=l.length/\i= .int .i64 k/\Hid (∀j x,j<k->l[j]?=some x->XS x.1))(λi=>l.length-(intOf i).toNat)
 case atStart=>exact⟨0,Nat.zero_le _,rfl,λj x hj=>by omega⟩
 case round=>obtain⟨k,hk,rfl,hT⟩:=hrel;by_cases hlt:k<l.length;{obtain⟨b1,o1,rfl,-,hcs⟩:=HV.out.cells (by omega);obtain⟨x,hx⟩:∃x,l[k]?=some x:=⟨_,List.getElem?_eq_getElem hlt⟩;obtain⟨d0,-,-⟩:=hcs k x hx;have HX:=Xqh hx;clear hcs hx;go_wp2_with fail;refine(Xdc x.1 _).mono ?_;rintro e w'⟨rfl,rfl⟩;by_cases hs:XS x.1;{have hd:decide (XS x.1)=true:=decide_eq_true hs;rw[hd];have HSS:=Xqh hs;clear hs hd;go_wp2;go_round;(case rel=>exact⟨k+1,hlt,by go_num,λj y hj hy=>by by_cases hjk:j<k;{exact hT.out j y hjk hy};·have:j=k:=by{omega};rw[this,HX.out]at hy;simp at hy;rw[<-hy];exact HSS.out⟩);case measure=>simp[intOf];omega};·have hd:decide (XS x.1)=false:=decide_eq_false hs;rw[hd];have HSS:=Xqh hs;clear hs hd;go_wp2;go_ret;exact⟨XW (decide_eq_false (λh=>HSS.out (h x (List.mem_of_getElem? HX.out)))).symm,rfl⟩};·go_wp2;go_ret;exact⟨XW (decide_eq_true (λx hx=>by obtain⟨j,hj,rfl⟩:=List.getElem_of_mem hx;exact hT.out j _ (by omega) (List.getElem?_eq_getElem hj))).symm,rfl⟩
theorem Xll (n:Nd)(kv av:Value)(w:World):Calls Tryz.prog 106 #[.agg (n.cells kv av).toArray] w λe w'=>e= .returned (.bool (decide (XN n)))/\Below w.heap.size w w':=by
 have F:=XaY w n kv av 46
 obtain⟨x0,x1,x2,x3,x4,x5,x6,x7,x8,x9,x10,x11,x12⟩:=n
 unfold Nd.cells at F⊢
 dsimp only at F⊢
 clear F
 go_enter Tryz.func106,Tryz.ntmps106
 go_wp2
 all_goals go_ret;refine⟨XW ?_,Xw _ _⟩
 all_goals first|(refine(decide_eq_false (λh=>?_)).symm;obtain⟨q0,q1,q2⟩:=h;dsimp only at q0 q1 q2;simp_all;done)|(rw[Bool.eq_iff_iff];simp_all[XN,Xa8];done)
end
section
open Go.RowKit
/-- What a call on the document's arena leaves. -/
def Yu (A' : Ar) (ρ : Nat -> Nat) (b : Nat) (w : World) (v : Value) (e : Ending) (w' : World) : Prop := e = .returned v /\ ∃ ρ', Xx w' ρ' b A' /\ Xr ρ ρ' w w'
theorem Xdd (A:Ar)(ρ:Nat->Nat)(b:Nat)(n:Nd)(aa:Option Addr)(ac:Nat)(w:World)(hA:Xx w ρ b A)(hsmall:A.ns.length<=1000000)(hkids:n.Xc= [])(hav:XT w ρ (2*(A.ns.length+1)+5) 132 3 (.slice aa n.Xb.length ac) n.Xb.length (n.Xb.flatMap Xv)):Calls Tryz.prog 88 #[.pointer (some ⟨b,0,none⟩),.agg (n.cells (.slice none 0 0) (.slice aa n.Xb.length ac)).toArray] w (Yu (A.add n) ρ b w (.int .i64 (A.n+1))):=by
 obtain⟨i0,hi,hz0,hz1,hz2⟩:=info_parts XcW
 obtain⟨j0,hj,hy0,hy1,hy2⟩:=info_parts Xaf
 obtain⟨hil,nv,iv,hP⟩:=hA.part
 obtain⟨h1,h2,h4,⟨rows,⟨hown,hrole⟩,hN2,hN3⟩,h6⟩:=id hP
 have hlt:=lt_of_block h4
 have hne:some b≠nv.ownBlock:=λh=>by have:=hrole b h.symm;omega
 have c0:w.cell? ⟨b,0,none⟩=some nv:=by rw[cell_of_row w b _ _ _ _ h4];rfl
 have f0:w.frozen? ⟨b,0,none⟩=false:=frozen_of_row w b _ _ _ h4
 have hone:=JU n (.slice none 0 0) (.slice aa n.Xb.length ac) rfl rfl
 have hfrom:∀(W:World),W.heap[w.heap.size+1]?=some (.cells (n.cells (.slice none 0 0) (.slice aa n.Xb.length ac)).toArray 46 (0,0))->∀(j:Nat)(u:Value),(n.cells (.slice none 0 0) (.slice aa n.Xb.length ac))[j]?=some u->W.cell? ((⟨w.heap.size+1,0,none⟩:Addr).add j)=some u:=by intro W hW j u hu;rw[Addr.add_mid,Nat.zero_add,cell_of_row W _ _ _ _ _ hW];simpa using hu
 have hend:∀(w1:World)(gg cap:Nat),w1.ownsRow 0 46 13 (.slice (some ⟨gg,0,none⟩) (A.ns.length+1+1) cap) (A.ns.length+1+1) (rows.flatten++n.cells (.slice none 0 0) (.slice aa n.Xb.length ac))->(((w.alloc (.cells (n.cells (.slice none 0 0) (.slice aa n.Xb.length ac)).toArray 46)).alloc (.cells (n.cells (.slice none 0 0) (.slice aa n.Xb.length ac)).toArray 46)).drew).grownBy w1 nv.ownBlock->(nv.ownBlock=some gg\/gg=w.heap.size+2)->∃ρ',Jg (w1.setCell ⟨b,0,none⟩ (.slice (some ⟨gg,0,none⟩) (A.ns.length+1+1) cap)) ρ' b (.slice (some ⟨gg,0,none⟩) (A.ns.length+1+1) cap) iv ((XL::A.ns)++ [n]) A.Xh/\Xr ρ ρ' w (w1.setCell ⟨b,0,none⟩ (.slice (some ⟨gg,0,none⟩) (A.ns.length+1+1) cap)):=by intro w1 gg cap ho hg hat;refine hP.Xli hN2 hN3 hkids (by simpa using hav) hrole ?_ (by simpa using ho) ?_;{exact((((Upd.refl _ w).alloc _).alloc _).drew).trans (Upd.grown hg (λk hk=>hk))};·rcases hat with hat|hat;{exact .inl (by rw[hat];rfl)};·exact .inr ⟨gg,rfl,by omega⟩
 have HFROM:=Xqh hfrom
 have HONE:=Xqh hone
 have HOWN:=Xqh hown
 have HI:=Xqh hi
 have HJ:=Xqh hj
 have HEND:=Xqh hend
 have HIL:=Xqh hil
 clear hend hfrom hone hN2 hN3 hrole h6 h1 h2 hown hi hj hkids hav hP hil hA
 unfold Nd.cells
 go_enter Tryz.func88,Tryz.ntmps88
 go_wp2_with fail
 go_region_law(first|(refine step_append_lies _ (by rfl) _ _ 60 (by rfl) 0 46 i0 _ 13 168 Tryz.underlying60 HI.out hz0 hz1 hz2 rfl (by omega) nv (A.ns.length+1) rows.flatten (by rfl) ?_ ⟨w.heap.size+1,0,none⟩ 1 1 (n.cells (.slice none 0 0) (.slice aa n.Xb.length ac)) (by rfl) (by rfl) (HFROM.out _ (heap_alloc2_new w _ _)) HONE.out (by omega) (by unfold maxLen;omega) (by omega) (by omega) (w.heap.size+2) (by simp) ?_;{exact((HOWN.out.alloc _).alloc _).drew};intro gg cap w1 hown1 hgrow hat hlt1;have gb:w1.heap[b]?=some (.cells #[nv,iv] 112 (0,0)):=(hgrow.block b (by simp;omega) hne).trans ((Below.heap_alloc _ _ b (by simp;omega)).trans ((Below.heap_alloc _ _ b hlt).trans h4));have g0:w1.cell? ⟨b,0,none⟩=some nv:=by{rw[cell_of_row w1 b _ _ _ _ gb];rfl};have gf:w1.frozen? ⟨b,0,none⟩=false:=frozen_of_row w1 b _ _ _ gb))
 all_goals obtain⟨ρ1,hP1,hT1⟩:=HEND.out w1 gg cap hown1 hgrow hat;generalize hw2:World.setCell w1 _ _=w2 at hP1 hT1⊢;clear hw2 hown1 hgrow hat gb g0 gf c0 f0 h4;obtain⟨p1,p2,p4,-,p6⟩:=id hP1;have HP1:=Xqh hP1;have hbl:=lt_of_block p4;have hbne:some b≠iv.ownBlock:=λh=>by{have:=p6.2 b h.symm;omega};have d0:w2.cell? ⟨b,0,none⟩=some (.slice (some ⟨gg,0,none⟩) (A.ns.length+1+1) cap):=by{rw[cell_of_row w2 b _ _ _ _ p4];rfl};have d1:w2.cell? ⟨b,1,none⟩=some iv:=by{rw[cell_of_row w2 b _ _ _ _ p4];rfl};have HOW:=Xqh p6.1;have H4:=Xqh p4;have hil:A.Xh.length<=1000001:=by{have:=HIL.out;omega};clear p1 p2 p4 p6 hP1;go_wp2_with(at_builtin;refine wpList_append_own_at _ rfl _ _ 41 rfl 0 3 j0 _ 1 8 Tryz.underlying41 HJ.out hy0 hy1 hy2 rfl (by decide) _ _ _ rfl (HOW.out.alloc _) ⟨w2.heap.size,0,none⟩ 1 1 [Xp 0] rfl rfl ?_ ?_ ?_ ?_ ?_ ?_);{intro j u hj;rw[Addr.add_mid,Nat.zero_add];exact Yi rfl (by simpa[Xp]using hj)};{intro u hu;simp at hu;subst hu;rfl};{unfold maxLen;omega};{omega};{simp};intro v3 w3 hown3 hgrow3 _ hat3;obtain⟨va3,vc3,rfl⟩:=X6 hown3;have gb3:w3.heap[b]?=some (.cells #[.slice (some ⟨gg,0,none⟩) (A.ns.length+1+1) cap,iv] 112 (0,0)):=(hgrow3.block b (by simp;omega) hbne).trans ((Below.heap_alloc _ _ b hbl).trans H4.out);have g30:w3.cell? ⟨b,0,none⟩=some (.slice (some ⟨gg,0,none⟩) (A.ns.length+1+1) cap):=by{rw[cell_of_row w3 b _ _ _ _ gb3];rfl};have g31:w3.cell? ⟨b,1,none⟩=some iv:=by{rw[cell_of_row w3 b _ _ _ _ gb3];rfl};have g3f:w3.frozen? ⟨b,1,none⟩=false:=frozen_of_row w3 b _ _ _ gb3;obtain⟨ρ2,hP2,hT2⟩:=HP1.out.Xlj (w1:=w3) (v':= .slice va3 (A.Xh.length+1) vc3) (x:=0) (((Upd.refl _ w2).alloc _).trans (Upd.grown hgrow3 (λk hk=>hk))) hown3 (hat3.imp id (λh=>⟨_,h,by simp⟩));have HF:=Xqh (And.intro (hP2.mem (A:=A.add n) (by simp[Ar.add,HIL.out])) (hT1.trans hT2));clear hP2 hT2 hown3 hgrow3 hat3 gb3 H4 HOW HP1 hT1 d0 d1;go_wp2;go_ret;exact⟨Zd (by unfold Ar.n;omega),ρ2,HF.out.1,HF.out.2⟩
end
end Go.Proofs.YtpicinjcmjaogaaGreat
