import Derived.Test.YtpicinjcmjaogaaGreatY19
set_option maxRecDepth 100000
set_option maxHeartbeats 4000000
set_option linter.unusedVariables false
namespace Go.Proofs.YtpicinjcmjaogaaGreat
variable{w0 w:World}{B b:Nat}{l:List Xf}{A:Ar}{v:Value}{P:Program}{ops:Array Oper}{a:Act}{Q:Exit->Act->World->Prop}
section
open Go.RowKit
theorem XlF (v1 v2:Value)(l1 l2:List Nd)(w:World)(h1:J5 w v1 l1)(h2:J5 w v2 l2):Calls Tryz.prog 46 #[v1,v2] w λe w'=>e= .returned (.bool (decide (l1=l2)))/\Below w.heap.size w w':=by
 have H1:=Xqh h1
 have H2:=Xqh h2
 obtain⟨a1,c1,rfl,p1,p2,-⟩:=h1
 obtain⟨a2,c2,rfl,q1,q2,-⟩:=h2
 by_cases hl:l1.length=l2.length
 ·have hl1:((l1.length:Int)!=l2.length)=false:=by{simp[hl]};have HL:=Xqh hl;clear hl;go_enter Tryz.func46,Tryz.ntmps46;go_wp2;go_loopw [5](λi wr=>∃k:Nat,k<=l1.length/\i= .int .i64 k/\Hid (∀j:Nat,j<k->l1[j]?=l2[j]?)/\Below w.heap.size w wr)(λi _=>l1.length-(intOf i).toNat);(case atStart=>exact⟨0,Nat.zero_le _,rfl,λj hj=>by omega,Below.refl _ _⟩);case round=>obtain⟨k,hk,rfl,hT,hB⟩:=hrel;by_cases hlt:k<l1.length;{have hlt2:k<l2.length:=by{have:=HL.out;omega};obtain⟨b1,o1,rfl,-,hcs1⟩:=(H1.out.below hB).at (by omega);obtain⟨b2,o2,rfl,-,hcs2⟩:=(H2.out.below hB).at (by omega);obtain⟨x,hx⟩:∃x,l1[k]?=some x:=⟨_,List.getElem?_eq_getElem hlt⟩;obtain⟨y,hy⟩:∃y,l2[k]?=some y:=⟨_,List.getElem?_eq_getElem hlt2⟩;obtain⟨kv,av,F,hK,hA⟩:=hcs1 k x hx;obtain⟨kv',av',F',hK',hA'⟩:=hcs2 k y hy;have HS:Hid (∀W:World,Below wr.heap.size wr W->Calls Tryz.prog 53 #[.agg (x.cells kv av).toArray,.agg (y.cells kv' av').toArray] W λe w'=>e= .returned (.bool (decide (x=y)))/\Below W.heap.size W w'):=Xqh (λW hW=>Xlh x y kv av kv' av' W (Xy.below hK hW) (Xy.below hK' hW) (XE.below hA hW) (XE.below hA' hW));have HX:=Xqh (And.intro hx hy);have c0:=F.c0;have c1:=F.c1;have c2:=F.c2;have c3:=F.c3;have c4:=F.c4;have c5:=F.c5;have c6:=F.c6;have c7:=F.c7;have c8:=F.c8;have c9:=F.c9;have c10:=F.c10;have c11:=F.c11;have c12:=F.c12;have d0:=F'.c0;have d1:=F'.c1;have d2:=F'.c2;have d3:=F'.c3;have d4:=F'.c4;have d5:=F'.c5;have d6:=F'.c6;have d7:=F'.c7;have d8:=F'.c8;have d9:=F'.c9;have d10:=F'.c10;have d11:=F'.c11;have d12:=F'.c12;clear hcs1 hcs2 hx hy F F' hK hA hK' hA';unfold Nd.cells at HS;go_wp2;go_region_with(refine(HS.out _ (Below.drewN (Below.refl _ _) _)).mono ?_;rintro e w2⟨rfl,hB2⟩);all_goals have HB2:Hid (Below w.heap.size w w2):=Xqh (hB.trans (((Below.drewN (Below.refl wr.heap.size wr) _).trans (hB2.mono (by simp))).mono hB.size));clear hB2 HS c0 c1 c2 c3 c4 c5 c6 c7 c8 c9 c10 c11 c12 d0 d1 d2 d3 d4 d5 d6 d7 d8 d9 d10 d11 d12;by_cases he:x=y;{have hd:decide (x=y)=true:=decide_eq_true he;rw[hd];have HE:=Xqh he;clear hd he;go_wp2;go_roundw;(case rel=>exact⟨k+1,hlt,by go_num,λj hj=>by by_cases hjk:j<k;{exact hT.out j hjk};·have:j=k:=by{omega};rw[this,HX.out.1,HX.out.2,HE.out],HB2.out⟩);case measure=>simp[intOf];omega};·have hd:decide (x=y)=false:=decide_eq_false he;rw[hd];have HE:=Xqh he;clear hd he;go_wp2;go_ret;exact⟨XW (decide_eq_false (λh=>HE.out (by have a:=HX.out.1;have b:=HX.out.2;rw[h,b]at a;simp at a;exact a.symm))).symm,HB2.out⟩};·have hfin:l1=l2:=by{apply List.ext_getElem?;intro j;by_cases hj:j<k;{exact hT.out j hj};·have:=HL.out;rw[List.getElem?_eq_none (by omega),List.getElem?_eq_none (by omega)]};have HF:=Xqh hfin;clear hfin;go_wp2;go_ret;exact⟨XW (decide_eq_true HF.out).symm,hB⟩
 ·have hl1:((l1.length:Int)!=l2.length)=true:=by{simp;omega};have HL:=Xqh hl;clear hl;go_enter Tryz.func46,Tryz.ntmps46;go_wp2;go_ret;exact⟨XW (decide_eq_false (λh=>HL.out (by rw[h]))).symm,Below.refl _ _⟩
theorem Xhv {v1 v2:Value}{x y:List Nd}(o:Own w0 B l w)(h1:Xf.nlist v1 x∈l)(h2:Xf.nlist v2 y∈l):Calls Tryz.prog 46 #[v1,v2] w λe w'=>e= .returned (.bool (decide (x=y)))/\Own w0 B l w':=by
 refine(XlF v1 v2 x y w (o.nlist h1) (o.nlist h2)).mono ?_
 rintro e w'⟨rfl,hB⟩
 exact⟨rfl,o.read hB⟩
end
section
/-- Two nodes, with all that hangs below them, are alike. -/
inductive ZJ (A B : Ar) : Int -> Int -> Prop
  | mk {h k : Int} (ha : A.has h) (hb : B.has k) (h1 : Y1 (A.get h) (B.get k)) (h2 : (A.get h).Xc.length = (B.get k).Xc.length) (h3 : (A.get h).Xg = 0 ↔ (B.get k).Xg = 0)
      (h4 : (A.get h).Xg ≠ 0 -> ZJ A B (A.get h).Xg (B.get k).Xg) (h5 : ∀ (i : Nat) (x y : Int), (A.get h).Xc[i]? = some x -> (B.get k).Xc[i]? = some y -> ZJ A B x y) : ZJ A B h k
theorem ZJ.inv {B:Ar}{h k:Int}(q:ZJ A B h k):A.has h/\B.has k/\Y1 (A.get h) (B.get k)/\(A.get h).Xc.length=(B.get k).Xc.length/\((A.get h).Xg=0↔(B.get k).Xg=0)/\((A.get h).Xg≠0->ZJ A B (A.get h).Xg (B.get k).Xg)/\∀(i:Nat)(x y:Int),(A.get h).Xc[i]?=some x->(B.get k).Xc[i]?=some y->ZJ A B x y:=by
 cases q with|mk ha hb h1 h2 h3 h4 h5=>exact⟨ha,hb,h1,h2,h3,h4,h5⟩
end
section
open Go.RowKit
theorem XlG (A:Ar)(ρ:Nat->Nat)(b:Nat)(a b2 c:Int)(Xe:Bool)(space:Int)(name s t:ByteArray)(Xb:List Xm)(av:Value)(w:World)(hA:Xx w ρ b A)(hW:A.WF)(hv:XE w av Xb)(hsmall:A.ns.length+3<=1000000)(hl:Xb.length<=1000000):Calls Tryz.prog 195 #[.pointer (some ⟨b,0,none⟩),.agg (OpD.cells ⟨1,a,b2,c,Xe,space,name,s,t,Xb⟩ av).toArray] w (Yu (A.step ⟨1,a,b2,c,Xe,space,name,s,t,Xb⟩).2 ρ b w (Xl (A.step ⟨1,a,b2,c,Xe,space,name,s,t,Xb⟩).1)):=by
 have hs1:A.ns.length<=1000000:=by omega
 obtain⟨aa,ac,rfl,-⟩:=hv.form
 have hB:=Xw w (.cells (OpD.cells ⟨1,a,b2,c,Xe,space,name,s,t,Xb⟩ (.slice aa Xb.length ac)).toArray 92)
 have hA1:=hA.below hB
 have hv1:=hv.below hB
 unfold OpD.cells at*
 have HC:=Xqh (Xe4 A ρ b Xe _ hA1 hs1)
 have HB:=Xqh hB
 clear hB hA hA1 hv hv1 hW
 go_enter Tryz.func195,Tryz.ntmps195
 go_wp2_with fail
 refine HC.out.mono ?_
 rintro e w2⟨rfl,ρ',hA2,hT2⟩
 clear HC
 go_wp2
 go_ret2
 exact⟨rfl,ρ',hA2,(Xr.below HB.out).trans hT2⟩
theorem XlH (A:Ar)(ρ:Nat->Nat)(b:Nat)(a b2 c:Int)(Xe:Bool)(space:Int)(name s t:ByteArray)(Xb:List Xm)(av:Value)(w:World)(hA:Xx w ρ b A)(hW:A.WF)(hv:XE w av Xb)(hsmall:A.ns.length+3<=1000000)(hl:Xb.length<=1000000):Calls Tryz.prog 195 #[.pointer (some ⟨b,0,none⟩),.agg (OpD.cells ⟨2,a,b2,c,Xe,space,name,s,t,Xb⟩ av).toArray] w (Yu (A.step ⟨2,a,b2,c,Xe,space,name,s,t,Xb⟩).2 ρ b w (Xl (A.step ⟨2,a,b2,c,Xe,space,name,s,t,Xb⟩).1)):=by
 have hs1:A.ns.length<=1000000:=by omega
 obtain⟨aa,ac,rfl,-⟩:=hv.form
 have hB:=Xw w (.cells (OpD.cells ⟨2,a,b2,c,Xe,space,name,s,t,Xb⟩ (.slice aa Xb.length ac)).toArray 92)
 have hA1:=hA.below hB
 have hv1:=hv.below hB
 unfold OpD.cells at*
 have HC:=Xqh (XaZ A ρ b a (YT name s t) _ hA1 hs1 rfl rfl)
 have HB:=Xqh hB
 clear hB hA hA1 hv hv1 hW
 go_enter Tryz.func195,Tryz.ntmps195
 go_wp2_with fail
 refine HC.out.mono ?_
 rintro e w2⟨rfl,ρ',hA2,hT2⟩
 clear HC
 unfold Xl
 go_wp2
 go_ret2
 exact⟨rfl,ρ',hA2,(Xr.below HB.out).trans hT2⟩
theorem XlI (A:Ar)(ρ:Nat->Nat)(b:Nat)(a b2 c:Int)(Xe:Bool)(space:Int)(name s t:ByteArray)(Xb:List Xm)(av:Value)(w:World)(hA:Xx w ρ b A)(hW:A.WF)(hv:XE w av Xb)(hsmall:A.ns.length+3<=1000000)(hl:Xb.length<=1000000):Calls Tryz.prog 195 #[.pointer (some ⟨b,0,none⟩),.agg (OpD.cells ⟨3,a,b2,c,Xe,space,name,s,t,Xb⟩ av).toArray] w (Yu (A.step ⟨3,a,b2,c,Xe,space,name,s,t,Xb⟩).2 ρ b w (Xl (A.step ⟨3,a,b2,c,Xe,space,name,s,t,Xb⟩).1)):=by
 have hs1:A.ns.length<=1000000:=by omega
 obtain⟨aa,ac,rfl,-⟩:=hv.form
 have hB:=Xw w (.cells (OpD.cells ⟨3,a,b2,c,Xe,space,name,s,t,Xb⟩ (.slice aa Xb.length ac)).toArray 92)
 have hA1:=hA.below hB
 have hv1:=hv.below hB
 unfold OpD.cells at*
 have HC:=Xqh (Xe8 A ρ b a space name _ Xb _ hA1 hv1 hsmall hl)
 have HB:=Xqh hB
 clear hB hA hA1 hv hv1 hW
 go_enter Tryz.func195,Tryz.ntmps195
 go_wp2_with fail
 refine HC.out.mono ?_
 rintro e w2⟨rfl,ρ',hA2,hT2⟩
 clear HC
 unfold Xl
 go_wp2
 go_ret2
 exact⟨rfl,ρ',hA2,(Xr.below HB.out).trans hT2⟩
theorem XlJ (A:Ar)(ρ:Nat->Nat)(b:Nat)(a b2 c:Int)(Xe:Bool)(space:Int)(name s t:ByteArray)(Xb:List Xm)(av:Value)(w:World)(hA:Xx w ρ b A)(hW:A.WF)(hv:XE w av Xb)(hsmall:A.ns.length+3<=1000000)(hl:Xb.length<=1000000):Calls Tryz.prog 195 #[.pointer (some ⟨b,0,none⟩),.agg (OpD.cells ⟨4,a,b2,c,Xe,space,name,s,t,Xb⟩ av).toArray] w (Yu (A.step ⟨4,a,b2,c,Xe,space,name,s,t,Xb⟩).2 ρ b w (Xl (A.step ⟨4,a,b2,c,Xe,space,name,s,t,Xb⟩).1)):=by
 have hs1:A.ns.length<=1000000:=by omega
 obtain⟨aa,ac,rfl,-⟩:=hv.form
 have hB:=Xw w (.cells (OpD.cells ⟨4,a,b2,c,Xe,space,name,s,t,Xb⟩ (.slice aa Xb.length ac)).toArray 92)
 have hA1:=hA.below hB
 have hv1:=hv.below hB
 unfold OpD.cells at*
 have HC:=Xqh (XaZ A ρ b a (Xs s) _ hA1 hs1 rfl rfl)
 have HB:=Xqh hB
 clear hB hA hA1 hv hv1 hW
 go_enter Tryz.func195,Tryz.ntmps195
 go_wp2_with fail
 refine HC.out.mono ?_
 rintro e w2⟨rfl,ρ',hA2,hT2⟩
 clear HC
 unfold Xl
 go_wp2
 go_ret2
 exact⟨rfl,ρ',hA2,(Xr.below HB.out).trans hT2⟩
theorem XlK (A:Ar)(ρ:Nat->Nat)(b:Nat)(a b2 c:Int)(Xe:Bool)(space:Int)(name s t:ByteArray)(Xb:List Xm)(av:Value)(w:World)(hA:Xx w ρ b A)(hW:A.WF)(hv:XE w av Xb)(hsmall:A.ns.length+3<=1000000)(hl:Xb.length<=1000000):Calls Tryz.prog 195 #[.pointer (some ⟨b,0,none⟩),.agg (OpD.cells ⟨5,a,b2,c,Xe,space,name,s,t,Xb⟩ av).toArray] w (Yu (A.step ⟨5,a,b2,c,Xe,space,name,s,t,Xb⟩).2 ρ b w (Xl (A.step ⟨5,a,b2,c,Xe,space,name,s,t,Xb⟩).1)):=by
 have hs1:A.ns.length<=1000000:=by omega
 obtain⟨aa,ac,rfl,-⟩:=hv.form
 have hB:=Xw w (.cells (OpD.cells ⟨5,a,b2,c,Xe,space,name,s,t,Xb⟩ (.slice aa Xb.length ac)).toArray 92)
 have hA1:=hA.below hB
 have hv1:=hv.below hB
 unfold OpD.cells at*
 have HC:=Xqh (XaZ A ρ b a (YZ s) _ hA1 hs1 rfl rfl)
 have HB:=Xqh hB
 clear hB hA hA1 hv hv1 hW
 go_enter Tryz.func195,Tryz.ntmps195
 go_wp2_with fail
 refine HC.out.mono ?_
 rintro e w2⟨rfl,ρ',hA2,hT2⟩
 clear HC
 unfold Xl
 go_wp2
 go_ret2
 exact⟨rfl,ρ',hA2,(Xr.below HB.out).trans hT2⟩
theorem XlL (A:Ar)(ρ:Nat->Nat)(b:Nat)(a b2 c:Int)(Xe:Bool)(space:Int)(name s t:ByteArray)(Xb:List Xm)(av:Value)(w:World)(hA:Xx w ρ b A)(hW:A.WF)(hv:XE w av Xb)(hsmall:A.ns.length+3<=1000000)(hl:Xb.length<=1000000):Calls Tryz.prog 195 #[.pointer (some ⟨b,0,none⟩),.agg (OpD.cells ⟨6,a,b2,c,Xe,space,name,s,t,Xb⟩ av).toArray] w (Yu (A.step ⟨6,a,b2,c,Xe,space,name,s,t,Xb⟩).2 ρ b w (Xl (A.step ⟨6,a,b2,c,Xe,space,name,s,t,Xb⟩).1)):=by
 have hs1:A.ns.length<=1000000:=by omega
 obtain⟨aa,ac,rfl,-⟩:=hv.form
 have hB:=Xw w (.cells (OpD.cells ⟨6,a,b2,c,Xe,space,name,s,t,Xb⟩ (.slice aa Xb.length ac)).toArray 92)
 have hA1:=hA.below hB
 have hv1:=hv.below hB
 unfold OpD.cells at*
 have HC:=Xqh (XaZ A ρ b a Zm _ hA1 hs1 rfl rfl)
 have HB:=Xqh hB
 clear hB hA hA1 hv hv1 hW
 go_enter Tryz.func195,Tryz.ntmps195
 go_wp2_with fail
 refine HC.out.mono ?_
 rintro e w2⟨rfl,ρ',hA2,hT2⟩
 clear HC
 unfold Xl
 go_wp2
 go_ret2
 exact⟨rfl,ρ',hA2,(Xr.below HB.out).trans hT2⟩
theorem XlM (A:Ar)(ρ:Nat->Nat)(b:Nat)(a b2 c:Int)(Xe:Bool)(space:Int)(name s t:ByteArray)(Xb:List Xm)(av:Value)(w:World)(hA:Xx w ρ b A)(hW:A.WF)(hv:XE w av Xb)(hsmall:A.ns.length+3<=1000000)(hl:Xb.length<=1000000):Calls Tryz.prog 195 #[.pointer (some ⟨b,0,none⟩),.agg (OpD.cells ⟨7,a,b2,c,Xe,space,name,s,t,Xb⟩ av).toArray] w (Yu (A.step ⟨7,a,b2,c,Xe,space,name,s,t,Xb⟩).2 ρ b w (Xl (A.step ⟨7,a,b2,c,Xe,space,name,s,t,Xb⟩).1)):=by
 have hs1:A.ns.length<=1000000:=by omega
 obtain⟨aa,ac,rfl,-⟩:=hv.form
 have hB:=Xw w (.cells (OpD.cells ⟨7,a,b2,c,Xe,space,name,s,t,Xb⟩ (.slice aa Xb.length ac)).toArray 92)
 have hA1:=hA.below hB
 have hv1:=hv.below hB
 unfold OpD.cells at*
 have HO:=Xqh (Xb9 A ρ b a _ hA1)
 have HIN:=Xqh (fun(h:A.has a)=>Xe5 A ρ b a _ hA1 hs1 h)
 have hfin:A.step ⟨7,a,b2,c,Xe,space,name,s,t,Xb⟩=A.YA a:=rfl
 rw[hfin]
 have HA1:=Xqh hA1
 have HB:=Xqh hB
 by_cases he:A.XA a=0
 ·have e:A.YA a=(((A.Xq a).1,0),(A.Xq a).2):=by{unfold Ar.YA;rw[if_neg (by simp[he])]};rw[e];have HE:=Xqh he;clear hB hA hA1 hv hv1 hW e he hfin;go_enter Tryz.func195,Tryz.ntmps195;go_wp2_with fail;refine HO.out.mono ?_;rintro e w2⟨rfl,rfl⟩;rw[HE.out];go_wp2_with fail;refine(HIN.out (JV HE.out)).mono ?_;rintro e w2⟨rfl,ρ',hA2,hT2⟩;have HF:=Xqh (And.intro hA2 ((Xr.below HB.out).trans hT2));clear hA2 hT2 HIN HO;go_wp2;go_ret2;exact⟨rfl,ρ',HF.out.1,HF.out.2⟩
 ·have e:A.YA a=((0,A.XA a),A):=by{unfold Ar.YA;rw[if_pos he]};rw[e];have he1:(A.XA a !=0)=true:=by{simpa using he};clear hB hA hA1 hv hv1 hW e he hfin HIN;generalize A.XA a=ee at*;go_enter Tryz.func195,Tryz.ntmps195;go_wp2_with fail;refine HO.out.mono ?_;rintro e w2⟨rfl,rfl⟩;go_wp2;go_ret2;exact⟨rfl,ρ,HA1.out,Xr.below HB.out⟩
theorem XlN (A:Ar)(ρ:Nat->Nat)(b:Nat)(a b2 c:Int)(Xe:Bool)(space:Int)(name s t:ByteArray)(Xb:List Xm)(av:Value)(w:World)(hA:Xx w ρ b A)(hW:A.WF)(hv:XE w av Xb)(hsmall:A.ns.length+3<=1000000)(hl:Xb.length<=1000000):Calls Tryz.prog 195 #[.pointer (some ⟨b,0,none⟩),.agg (OpD.cells ⟨8,a,b2,c,Xe,space,name,s,t,Xb⟩ av).toArray] w (Yu (A.step ⟨8,a,b2,c,Xe,space,name,s,t,Xb⟩).2 ρ b w (Xl (A.step ⟨8,a,b2,c,Xe,space,name,s,t,Xb⟩).1)):=by
 have hs1:A.ns.length<=1000000:=by omega
 obtain⟨aa,ac,rfl,-⟩:=hv.form
 have hB:=Xw w (.cells (OpD.cells ⟨8,a,b2,c,Xe,space,name,s,t,Xb⟩ (.slice aa Xb.length ac)).toArray 92)
 have hA1:=hA.below hB
 have hv1:=hv.below hB
 unfold OpD.cells at*
 have HC:=Xqh (Xca A ρ b a b2 c _ hA1 hW hs1)
 have HB:=Xqh hB
 clear hB hA hA1 hv hv1 hW
 go_enter Tryz.func195,Tryz.ntmps195
 go_wp2_with fail
 refine HC.out.mono ?_
 rintro e w2⟨rfl,ρ',hA2,hT2⟩
 clear HC
 go_wp2
 go_ret2
 exact⟨rfl,ρ',hA2,(Xr.below HB.out).trans hT2⟩
theorem XlO (A:Ar)(ρ:Nat->Nat)(b:Nat)(a b2 c:Int)(Xe:Bool)(space:Int)(name s t:ByteArray)(Xb:List Xm)(av:Value)(w:World)(hA:Xx w ρ b A)(hW:A.WF)(hv:XE w av Xb)(hsmall:A.ns.length+3<=1000000)(hl:Xb.length<=1000000):Calls Tryz.prog 195 #[.pointer (some ⟨b,0,none⟩),.agg (OpD.cells ⟨9,a,b2,c,Xe,space,name,s,t,Xb⟩ av).toArray] w (Yu (A.step ⟨9,a,b2,c,Xe,space,name,s,t,Xb⟩).2 ρ b w (Xl (A.step ⟨9,a,b2,c,Xe,space,name,s,t,Xb⟩).1)):=by
 have hs1:A.ns.length<=1000000:=by omega
 obtain⟨aa,ac,rfl,-⟩:=hv.form
 have hB:=Xw w (.cells (OpD.cells ⟨9,a,b2,c,Xe,space,name,s,t,Xb⟩ (.slice aa Xb.length ac)).toArray 92)
 have hA1:=hA.below hB
 have hv1:=hv.below hB
 unfold OpD.cells at*
 have HC:=Xqh (Xde A ρ b a _ hA1 hW hs1)
 have HB:=Xqh hB
 clear hB hA hA1 hv hv1 hW
 go_enter Tryz.func195,Tryz.ntmps195
 go_wp2_with fail
 refine HC.out.mono ?_
 rintro e w2⟨rfl,ρ',hA2,hT2⟩
 clear HC
 go_wp2
 go_ret2
 exact⟨rfl,ρ',hA2,(Xr.below HB.out).trans hT2⟩
theorem XlP (A:Ar)(ρ:Nat->Nat)(b:Nat)(a b2 c:Int)(Xe:Bool)(space:Int)(name s t:ByteArray)(Xb:List Xm)(av:Value)(w:World)(hA:Xx w ρ b A)(hW:A.WF)(hv:XE w av Xb)(hsmall:A.ns.length+3<=1000000)(hl:Xb.length<=1000000):Calls Tryz.prog 195 #[.pointer (some ⟨b,0,none⟩),.agg (OpD.cells ⟨10,a,b2,c,Xe,space,name,s,t,Xb⟩ av).toArray] w (Yu (A.step ⟨10,a,b2,c,Xe,space,name,s,t,Xb⟩).2 ρ b w (Xl (A.step ⟨10,a,b2,c,Xe,space,name,s,t,Xb⟩).1)):=by
 have hs1:A.ns.length<=1000000:=by omega
 obtain⟨aa,ac,rfl,-⟩:=hv.form
 have hB:=Xw w (.cells (OpD.cells ⟨10,a,b2,c,Xe,space,name,s,t,Xb⟩ (.slice aa Xb.length ac)).toArray 92)
 have hA1:=hA.below hB
 have hv1:=hv.below hB
 unfold OpD.cells at*
 have HC:=Xqh (Xlm A ρ b a s _ hA1)
 have HB:=Xqh hB
 clear hB hA hA1 hv hv1 hW
 go_enter Tryz.func195,Tryz.ntmps195
 go_wp2_with fail
 refine HC.out.mono ?_
 rintro e w2⟨rfl,ρ',hA2,hT2⟩
 clear HC
 go_wp2
 go_ret2
 exact⟨rfl,ρ',hA2,(Xr.below HB.out).trans hT2⟩
theorem XlQ (A:Ar)(ρ:Nat->Nat)(b:Nat)(a b2 c:Int)(Xe:Bool)(space:Int)(name s t:ByteArray)(Xb:List Xm)(av:Value)(w:World)(hA:Xx w ρ b A)(hW:A.WF)(hv:XE w av Xb)(hsmall:A.ns.length+3<=1000000)(hl:Xb.length<=1000000):Calls Tryz.prog 195 #[.pointer (some ⟨b,0,none⟩),.agg (OpD.cells ⟨11,a,b2,c,Xe,space,name,s,t,Xb⟩ av).toArray] w (Yu (A.step ⟨11,a,b2,c,Xe,space,name,s,t,Xb⟩).2 ρ b w (Xl (A.step ⟨11,a,b2,c,Xe,space,name,s,t,Xb⟩).1)):=by
 have hs1:A.ns.length<=1000000:=by omega
 obtain⟨aa,ac,rfl,-⟩:=hv.form
 have hB:=Xw w (.cells (OpD.cells ⟨11,a,b2,c,Xe,space,name,s,t,Xb⟩ (.slice aa Xb.length ac)).toArray 92)
 have hA1:=hA.below hB
 have hv1:=hv.below hB
 unfold OpD.cells at*
 have HC:=Xqh (Xlt A ρ b a _ Xb _ hA1 hv1 hl)
 have HB:=Xqh hB
 clear hB hA hA1 hv hv1 hW
 go_enter Tryz.func195,Tryz.ntmps195
 go_wp2_with fail
 refine HC.out.mono ?_
 rintro e w2⟨rfl,ρ',hA2,hT2⟩
 clear HC
 go_wp2
 go_ret2
 exact⟨rfl,ρ',hA2,(Xr.below HB.out).trans hT2⟩
theorem XlR (A:Ar)(ρ:Nat->Nat)(b:Nat)(a b2 c:Int)(Xe:Bool)(space:Int)(name s t:ByteArray)(Xb:List Xm)(av:Value)(w:World)(hA:Xx w ρ b A)(hW:A.WF)(hv:XE w av Xb)(hsmall:A.ns.length+3<=1000000)(hl:Xb.length<=1000000):Calls Tryz.prog 195 #[.pointer (some ⟨b,0,none⟩),.agg (OpD.cells ⟨12,a,b2,c,Xe,space,name,s,t,Xb⟩ av).toArray] w (Yu (A.step ⟨12,a,b2,c,Xe,space,name,s,t,Xb⟩).2 ρ b w (Xl (A.step ⟨12,a,b2,c,Xe,space,name,s,t,Xb⟩).1)):=by
 have hs1:A.ns.length<=1000000:=by omega
 obtain⟨aa,ac,rfl,-⟩:=hv.form
 have hB:=Xw w (.cells (OpD.cells ⟨12,a,b2,c,Xe,space,name,s,t,Xb⟩ (.slice aa Xb.length ac)).toArray 92)
 have hA1:=hA.below hB
 have hv1:=hv.below hB
 unfold OpD.cells at*
 have HC:=Xqh (Xln A ρ b a Xe _ hA1)
 have HB:=Xqh hB
 clear hB hA hA1 hv hv1 hW
 go_enter Tryz.func195,Tryz.ntmps195
 go_wp2_with fail
 refine HC.out.mono ?_
 rintro e w2⟨rfl,ρ',hA2,hT2⟩
 clear HC
 go_wp2
 go_ret2
 exact⟨rfl,ρ',hA2,(Xr.below HB.out).trans hT2⟩
theorem XlS (A:Ar)(ρ:Nat->Nat)(b:Nat)(a b2 c:Int)(Xe:Bool)(space:Int)(name s t:ByteArray)(Xb:List Xm)(av:Value)(w:World)(hA:Xx w ρ b A)(hW:A.WF)(hv:XE w av Xb)(hsmall:A.ns.length+3<=1000000)(hl:Xb.length<=1000000):Calls Tryz.prog 195 #[.pointer (some ⟨b,0,none⟩),.agg (OpD.cells ⟨13,a,b2,c,Xe,space,name,s,t,Xb⟩ av).toArray] w (Yu (A.step ⟨13,a,b2,c,Xe,space,name,s,t,Xb⟩).2 ρ b w (Xl (A.step ⟨13,a,b2,c,Xe,space,name,s,t,Xb⟩).1)):=by
 have hs1:A.ns.length<=1000000:=by omega
 obtain⟨aa,ac,rfl,-⟩:=hv.form
 have hB:=Xw w (.cells (OpD.cells ⟨13,a,b2,c,Xe,space,name,s,t,Xb⟩ (.slice aa Xb.length ac)).toArray 92)
 have hA1:=hA.below hB
 have hv1:=hv.below hB
 unfold OpD.cells at*
 have HC:=Xqh (Xlo A ρ b a b2 _ hA1)
 have HB:=Xqh hB
 clear hB hA hA1 hv hv1 hW
 go_enter Tryz.func195,Tryz.ntmps195
 go_wp2_with fail
 refine HC.out.mono ?_
 rintro e w2⟨rfl,ρ',hA2,hT2⟩
 clear HC
 go_wp2
 go_ret2
 exact⟨rfl,ρ',hA2,(Xr.below HB.out).trans hT2⟩
theorem XlT (A:Ar)(ρ:Nat->Nat)(b:Nat)(Xa a b2 c:Int)(Xe:Bool)(space:Int)(name s t:ByteArray)(Xb:List Xm)(av:Value)(w:World)(hA:Xx w ρ b A)(hW:A.WF)(hv:XE w av Xb)(hsmall:A.ns.length+3<=1000000)(hl:Xb.length<=1000000)(hk:∀j:Int,1<=j->j<=13->Xa≠j):Calls Tryz.prog 195 #[.pointer (some ⟨b,0,none⟩),.agg (OpD.cells ⟨Xa,a,b2,c,Xe,space,name,s,t,Xb⟩ av).toArray] w (Yu A ρ b w (Xl (0,0))):=by
 have hs1:A.ns.length<=1000000:=by omega
 obtain⟨aa,ac,rfl,-⟩:=hv.form
 have hB:=Xw w (.cells (OpD.cells ⟨Xa,a,b2,c,Xe,space,name,s,t,Xb⟩ (.slice aa Xb.length ac)).toArray 92)
 have hA1:=hA.below hB
 have hv1:=hv.below hB
 unfold OpD.cells at*
 have e1:(Xa==1)=false:=by simp[hk 1 (by omega) (by omega)]
 have e2:(Xa==2)=false:=by simp[hk 2 (by omega) (by omega)]
 have e3:(Xa==3)=false:=by simp[hk 3 (by omega) (by omega)]
 have e4:(Xa==4)=false:=by simp[hk 4 (by omega) (by omega)]
 have e5:(Xa==5)=false:=by simp[hk 5 (by omega) (by omega)]
 have e6:(Xa==6)=false:=by simp[hk 6 (by omega) (by omega)]
 have e7:(Xa==7)=false:=by simp[hk 7 (by omega) (by omega)]
 have e8:(Xa==8)=false:=by simp[hk 8 (by omega) (by omega)]
 have e9:(Xa==9)=false:=by simp[hk 9 (by omega) (by omega)]
 have e10:(Xa==10)=false:=by simp[hk 10 (by omega) (by omega)]
 have e11:(Xa==11)=false:=by simp[hk 11 (by omega) (by omega)]
 have e12:(Xa==12)=false:=by simp[hk 12 (by omega) (by omega)]
 have e13:(Xa==13)=false:=by simp[hk 13 (by omega) (by omega)]
 have HB:=Xqh hB
 have HA1:=Xqh hA1
 clear hB hA hA1 hv hv1 hW hk
 go_enter Tryz.func195,Tryz.ntmps195
 go_wp2
 go_ret2
 exact⟨rfl,ρ,HA1.out,Xr.below HB.out⟩
theorem XlU (A:Ar)(ρ:Nat->Nat)(b:Nat)(x:OpD)(av:Value)(w:World)(hA:Xx w ρ b A)(hW:A.WF)(hv:XE w av x.Xb)(hsmall:A.ns.length+3<=1000000)(hl:x.Xb.length<=1000000):Calls Tryz.prog 195 #[.pointer (some ⟨b,0,none⟩),.agg (x.cells av).toArray] w (Yu (A.step x).2 ρ b w (Xl (A.step x).1)):=by
 obtain⟨Xa,a,b2,c,Xe,space,name,s,t,Xb⟩:=x
 by_cases h1:Xa=1
 ·subst h1;exact XlG A ρ b a b2 c Xe space name s t Xb av w hA hW hv hsmall hl
 by_cases h2:Xa=2
 ·subst h2;exact XlH A ρ b a b2 c Xe space name s t Xb av w hA hW hv hsmall hl
 by_cases h3:Xa=3
 ·subst h3;exact XlI A ρ b a b2 c Xe space name s t Xb av w hA hW hv hsmall hl
 by_cases h4:Xa=4
 ·subst h4;exact XlJ A ρ b a b2 c Xe space name s t Xb av w hA hW hv hsmall hl
 by_cases h5:Xa=5
 ·subst h5;exact XlK A ρ b a b2 c Xe space name s t Xb av w hA hW hv hsmall hl
 by_cases h6:Xa=6
 ·subst h6;exact XlL A ρ b a b2 c Xe space name s t Xb av w hA hW hv hsmall hl
 by_cases h7:Xa=7
 ·subst h7;exact XlM A ρ b a b2 c Xe space name s t Xb av w hA hW hv hsmall hl
 by_cases h8:Xa=8
 ·subst h8;exact XlN A ρ b a b2 c Xe space name s t Xb av w hA hW hv hsmall hl
 by_cases h9:Xa=9
 ·subst h9;exact XlO A ρ b a b2 c Xe space name s t Xb av w hA hW hv hsmall hl
 by_cases h10:Xa=10
 ·subst h10;exact XlP A ρ b a b2 c Xe space name s t Xb av w hA hW hv hsmall hl
 by_cases h11:Xa=11
 ·subst h11;exact XlQ A ρ b a b2 c Xe space name s t Xb av w hA hW hv hsmall hl
 by_cases h12:Xa=12
 ·subst h12;exact XlR A ρ b a b2 c Xe space name s t Xb av w hA hW hv hsmall hl
 by_cases h13:Xa=13
 ·subst h13;exact XlS A ρ b a b2 c Xe space name s t Xb av w hA hW hv hsmall hl
 have hz:A.step ⟨Xa,a,b2,c,Xe,space,name,s,t,Xb⟩=((0,0),A):=by simp[Ar.step,h1,h2,h3,h4,h5,h6,h7,h8,h9,h10,h11,h12,h13]
 rw[hz]
 exact XlT A ρ b Xa a b2 c Xe space name s t Xb av w hA hW hv hsmall hl (λj h1 h2 e=>by omega)
end
section
open Go.RowKit
theorem Own.Jh {A':Ar}{f:Nat}{args:Array Value}(h:Own w0 B (.refar b A::l) w)(hc:∀ρ,Xx w ρ b A->Calls Tryz.prog f args w (Yu A' ρ b w v)):Calls Tryz.prog f args w λe w'=>e= .returned v/\Own w0 B (.refar b A'::l) w':=by
 obtain⟨S,⟨ρ,hA,hS⟩,hf⟩:=h.front
 refine(hc ρ hA).mono ?_
 rintro e w'⟨rfl,ρ',hA',hT⟩
 exact⟨rfl,hf w' _ ⟨λk=>ρ' k≠0,⟨ρ',hA',λ_=>Iff.rfl⟩,hT.upd.mono (λk _ hk=>(hS k).2 hk),λk hk hp=>(hS k).2 (by rw[<-hT.role k hk];exact hp)⟩⟩
theorem XlV (o:Own w0 B l w):Calls Tryz.prog 21 #[] w λe w'=>e= .returned (.pointer (some ⟨w.heap.size+2,0,none⟩))/\Own w0 B (.refar (w.heap.size+2) Ar.new::l) w':=by
 refine(Xlp w).mono ?_
 rintro e w'⟨rfl,hB,ρ,hR,hρ⟩
 exact⟨rfl,o.fresh hB ⟨λk=>ρ k≠0,⟨ρ,hR,λ_=>Iff.rfl⟩,λk hk=>hρ k hk⟩⟩
theorem Own.refar (h:Own w0 B l w)(hm:Xf.refar b A∈l):∃ρ,Xx w ρ b A:=by
 obtain⟨S,⟨ρ,h1,_⟩,_⟩:=h.get hm
 exact⟨ρ,h1⟩
end
section
open Go.RowKit
theorem XlW (w:World){rest:List Oper}{o:Oper}(hgd:o.guard=none)(s x:Operand)(t:TypeId)(ho:o.op= .call {callee:= .builtin .append,args:= #[s,x],argTypes:= #[t,t]})(e:TypeId)(i:TypeInfo)(ht:P.underlying t=some (.slice e))(hi:P.info? e=some i)(hs:a.eval s= .slice none 0 0)(hx:a.eval x= .slice none 0 0)(h:wpList P ops Q rest (a.put o.dst (.slice none 0 0)) w):wpList P ops Q (o::rest) a w:=by
 refine wpList_plain hgd λK hK=>?_
 have hr:=run_append_owned_none (P:=P) w 0 t o.type e i 1 ht hi (.slice none 0 0) 0 [] (World.ownsRow_nil _ _ _ _)
 unfold Oper.wp execOp
 simp only[ho,resolve,invoke,builtin,Sem.run_bind,Sem.run_pure,Result.andThen_ok,List.map_toArray,List.map_cons,List.map_nil,hs,hx,hr]
 exact hK _ _ h
theorem XlX {e:TypeId}{size:Nat}{n:Nat}{xs:List Value}(h:w.ownsRow 0 e size v n xs):(v= .slice none 0 0/\n=0/\xs= [])\/∃g c,v= .slice (some ⟨g,0,none⟩) n c/\∀j u,xs[j]?=some u->w.cell? ⟨g,j,none⟩=some u:=by
 rcases h.2 with⟨rfl,rfl⟩|⟨g,cap,cur,rfl,_,hg,_,_,_,ht⟩
 ·exact .inl ⟨rfl,rfl,List.length_eq_zero_iff.1 (by simpa using h.1)⟩
 ·refine .inr ⟨g,cap,rfl,λj u hj=>?_⟩;rw[cell_of_row w g j cur e (0,0) hg];rw[<-ht,List.getElem?_take]at hj;split at hj;{simpa using hj};·simp at hj
theorem Xcb (w:World){rest:List Oper}{o:Oper}(hgd:o.guard=none)(s x:Operand)(t:TypeId)(ho:o.op= .call {callee:= .builtin .append,args:= #[s,x],argTypes:= #[t,t]})(base:Nat)(e:TypeId)(i:TypeInfo)(z:Value)(size bytes:Nat)(ht:P.underlying t=some (.slice e))(hi:P.info? e=some i)(hz:i.zero=some z)(hsize:i.size=size)(hby:i.bytes=bytes)(hzs:z.cells.size=size)(hsz:0<size)(v:Value)(n:Nat)(xs:List Value)(hs:a.eval s= .slice none 0 0)(hx:a.eval x=v)(hown:w.ownsRow 0 e size v n xs)(h1:∀u∈xs,u.oneCell'=true)(hn:n<=1000000)(hbytes:bytes<=1000)(hbase:base<=w.heap.size)(h:∀v' w',w'.ownsRow base e size v' n xs->w.grownBy w' none->wpList P ops Q rest (a.put o.dst v') w'):wpList P ops Q (o::rest) a w:=by
 have hl:=hown.1
 rcases XlX hown with⟨rfl,rfl,rfl⟩|⟨g,c,rfl,hc⟩
 ·exact XlW w hgd s x t ho e i ht hi hs hx (h _ _ (World.ownsRow_nil _ _ _ _) (World.grownBy.refl w none))
 ·refine wpList_append_own w hgd s x t ho base e i z size bytes ht hi hz hsize hby hzs hsz (.slice none 0 0) 0 [] hs (World.ownsRow_nil _ _ _ _) ⟨g,0,none⟩ n c xs hx hl (λj u hj=>by rw[Addr.add_mid,Nat.zero_add];exact hc j u hj) h1 (by unfold maxLen;omega) ?_ hbase (λv' w' q1 q2 _=>h v' w' (by simpa using q1) q2);calc(0+n)*bytes<=1000000*1000:=Nat.mul_le_mul (by omega) hbytes
  _<=140737488355328:=by{omega}
theorem Xhw (n:Nd)(kv av:Value)(w:World)(hk:w.ownsRow 0 3 1 kv n.Xc.length (n.Xc.map Xp))(ha:w.ownsRow 0 132 3 av n.Xb.length (n.Xb.flatMap Xv))(hs1:n.Xc.length<=1000000)(hs2:n.Xb.length<=1000000):Calls Tryz.prog 171 #[.agg (n.cells kv av).toArray] w (Xej n w):=by
 obtain⟨i0,hi,hz0,hz1,hz2⟩:=info_parts Xaf
 obtain⟨j0,hj,hy0,hy1,hy2⟩:=info_parts Xae
 obtain⟨ka,kc,rfl⟩:=X6 hk
 obtain⟨aa,ac,rfl⟩:=X6 ha
 have HK:=Xqh hk
 have HA:=Xqh ha
 have HI:=Xqh (And.intro hi hj)
 clear hi hj hk ha
 go_enter Tryz.func171,Tryz.ntmps171
 unfold Nd.cells
 go_wp2_with(at_builtin;refine Xcb _ rfl _ _ 41 rfl (w.heap.size+2) 3 i0 _ 1 8 Tryz.underlying41 HI.out.1 hz0 hz1 hz2 rfl (by decide) _ _ _ rfl rfl ((HK.out.alloc _).alloc _) (XbQ _) hs1 (by omega) (by simp) ?_)
 intro v1 w1 ho1 hg1
 obtain⟨a1,c1,rfl⟩:=X6 ho1
 have hd1:w1.heap[w.heap.size]?=some (.cells (n.cells (.slice ka n.Xc.length kc) (.slice aa n.Xb.length ac)).toArray 46 (0,0)):=(hg1.block _ (by simp;omega) (by simp)).trans (heap_alloc2_old w _ _)
 have hr1:w1.heap[w.heap.size+1]?=some (.cells JN 46 (0,0)):=(hg1.block _ (by simp) (by simp)).trans (heap_alloc2_new w _ _)
 have hB1:Below w.heap.size w w1:=(J8 w _ _).grown hg1 (by simp;omega) (λk hk=>by simp at hk)
 have k2:w1.cell? ⟨w.heap.size,2,none⟩=some (.slice ka n.Xc.length kc):=by rw[cell_of_row w1 _ _ _ _ _ hd1];rfl
 have k6:w1.cell? ⟨w.heap.size,6,none⟩=some (.slice aa n.Xb.length ac):=by rw[cell_of_row w1 _ _ _ _ _ hd1];rfl
 have kf2:w1.frozen? ⟨w.heap.size,2,none⟩=false:=frozen_of_row w1 _ _ _ _ hd1
 have hU1:Upd (λk=>k=w.heap.size) w1 (w1.setCell ⟨w.heap.size,2,none⟩ (.slice a1 n.Xc.length c1)):=(Upd.refl (λk=>k=w.heap.size) w1).setCell (p:=⟨w.heap.size,2,none⟩) (.inr rfl) _
 have hHA2:=ZS (Z0 HA.out hB1) hU1 (λk hk e=>by have:=(Yx HA.out k hk).2;omega)
 have hd2:(w1.setCell ⟨w.heap.size,2,none⟩ (.slice a1 n.Xc.length c1)).heap[w.heap.size]?=some (.cells (n.cells (.slice a1 n.Xc.length c1) (.slice aa n.Xb.length ac)).toArray 46 (0,0)):=by simp[World.setCell,Array.getElem?_modify,hd1,Nd.cells]
 have hr2:(w1.setCell ⟨w.heap.size,2,none⟩ (.slice a1 n.Xc.length c1)).heap[w.heap.size+1]?=some (.cells JN 46 (0,0)):=(hU1.block _ (lt_of_block hr1) (by omega)).trans hr1
 have hB2:Below w.heap.size w (w1.setCell ⟨w.heap.size,2,none⟩ (.slice a1 n.Xc.length c1)):=hB1.trans (hU1.JL (λk hk e=>by omega) hB1.size)
 have ho1':=ZS ho1 hU1 (λk hk e=>by have:=(Yx ho1 k hk).1;omega)
 have HHA2:=Xqh hHA2
 have HO1:=Xqh ho1'
 have HD2:=Xqh (And.intro hd2 hr2)
 have HB2:=Xqh hB2
 have hs2':w.heap.size+2<=w1.heap.size:=by have:=hg1.size;simp at this;omega
 clear ho1 hg1 hd1 hr1 hHA2 hd2 hr2 hB1 hB2 hU1 ho1'
 go_wp2_with(at_builtin;refine Xcb _ rfl _ _ 44 rfl (w.heap.size+2) 132 j0 _ 3 40 Tryz.underlying44 HI.out.2 hy0 hy1 hy2 rfl (by decide) _ _ _ rfl rfl HHA2.out (Xgq _) hs2 (by omega) (by simp;omega) ?_)
 intro v2 w3 ho2 hg2
 obtain⟨a2,c2,rfl⟩:=X6 ho2
 have hd3:=(hg2.block _ (lt_of_block HD2.out.1) (by simp)).trans HD2.out.1
 have hr3:=(hg2.block _ (lt_of_block HD2.out.2) (by simp)).trans HD2.out.2
 have hB3:=HB2.out.grown hg2 (by simp;omega) (λk hk=>by simp at hk)
 have ho1:w3.ownsRow (w.heap.size+2) 3 1 (.slice a1 n.Xc.length c1) n.Xc.length (n.Xc.map Xp):=ZS HO1.out (Upd.grown (F:=λ_=>False) hg2 (λk hk=>by simp at hk)) (λ_ _=>id)
 have m6:w3.cell? ⟨w.heap.size,6,none⟩=some (.slice aa n.Xb.length ac):=by rw[cell_of_row w3 _ _ _ _ _ hd3];rfl
 have mf6:w3.frozen? ⟨w.heap.size,6,none⟩=false:=frozen_of_row w3 _ _ _ _ hd3
 have hU3:Upd (λk=>k=w.heap.size) w3 (w3.setCell ⟨w.heap.size,6,none⟩ (.slice a2 n.Xb.length c2)):=(Upd.refl (λk=>k=w.heap.size) w3).setCell (p:=⟨w.heap.size,6,none⟩) (.inr rfl) _
 have hX:(w3.setCell ⟨w.heap.size,6,none⟩ (.slice a2 n.Xb.length c2)).heap[w.heap.size]?=some (.cells (n.cells (.slice a1 n.Xc.length c1) (.slice a2 n.Xb.length c2)).toArray 46 (0,0)):=by simp[World.setCell,Array.getElem?_modify,hd3,Nd.cells]
 have hXr:=(hU3.block _ (lt_of_block hr3) (by omega)).trans hr3
 have hBX:=hB3.trans (hU3.JL (λk hk e=>by omega) hB3.size)
 have hoX1:=ZS ho1 hU3 (λk hk e=>by have:=(Yx ho1 k hk).1;omega)
 have hoX2:=ZS ho2 hU3 (λk hk e=>by have:=(Yx ho2 k hk).1;omega)
 have hc:∀(j:Nat)(v:Value),(n.cells (.slice a1 n.Xc.length c1) (.slice a2 n.Xb.length c2))[j]?=some v->(w3.setCell ⟨w.heap.size,6,none⟩ (.slice a2 n.Xb.length c2)).cell? ⟨w.heap.size,j,none⟩=some v:=λj v hv=>by rw[cell_of_row _ _ _ _ _ _ hX];simpa using hv
 have y0:=hc 0 _ rfl
 have y1:=hc 1 _ rfl
 have y2:=hc 2 _ rfl
 have y3:=hc 3 _ rfl
 have y4:=hc 4 _ rfl
 have y5:=hc 5 _ rfl
 have y6:=hc 6 _ rfl
 have y7:=hc 7 _ rfl
 have y8:=hc 8 _ rfl
 have y9:=hc 9 _ rfl
 have y10:=hc 10 _ rfl
 have y11:=hc 11 _ rfl
 have y12:=hc 12 _ rfl
 have HT:=Xqh (And.intro (JU n (.slice a1 n.Xc.length c1) (.slice a2 n.Xb.length c2) rfl rfl) (XcN n (.slice a1 n.Xc.length c1) (.slice a2 n.Xb.length c2) hXr rfl))
 have HB:=Xqh (XcM n (.slice a1 n.Xc.length c1) (.slice a2 n.Xb.length c2) hXr rfl)
 have hUF:=(Upd.refl (λk=>k=w.heap.size+1) (w3.setCell ⟨w.heap.size,6,none⟩ (.slice a2 n.Xb.length c2))).setCells (b:=w.heap.size+1) (.inr rfl) 0 (n.cells (.slice a1 n.Xc.length c1) (.slice a2 n.Xb.length c2))
 have HE:=Xqh (And.intro (hBX.trans (hUF.JL (λk hk e=>by omega) hBX.size)) (And.intro (YP (base':=w.heap.size) (ZS hoX1 hUF (λk hk e=>by have:=(Yx hoX1 k hk).1;omega)) (by omega)) (YP (base':=w.heap.size) (ZS hoX2 hUF (λk hk e=>by have:=(Yx hoX2 k hk).1;omega)) (by omega))))
 clear hc hX hXr hBX hoX1 hoX2 hUF hU3 ho1 ho2 hg2 hd3 hr3 hB3 HD2 HO1 HB2 HHA2 k2 k6 kf2
 go_wp2_with((with_reducible refine wpList_store_mid ?_ 46 (.tmp 2) (.tmp 11) ?_ (w.heap.size+1) 0 (n.cells (.slice a1 n.Xc.length c1) (.slice a2 n.Xb.length c2)).toArray ?_ ?_ ?_ ?_ ?_ ?_);exact rfl;exact rfl;exact rfl;exact rfl;exact HT.out.2;exact XM _ _ _;exact all_oneCell_toArray HT.out.1)
 refine bodyPost_ret (results_cell_row rfl _ _ (w.heap.size+1) 46 _ (0,0) _ rfl HB.out Tryz.underlying46 rfl (XM _ _ _)) rfl ?_
 exact⟨HE.out.1,_,_,rfl,HE.out.2.1,HE.out.2.2⟩
theorem XlY (A:Ar)(ρ:Nat->Nat)(b:Nat)(w:World)(hA:Xx w ρ b A)(hS:A.YC):Calls Tryz.prog 97 #[.pointer (some ⟨b,0,none⟩)] w λe w'=>Below w.heap.size w w'/\∃a c,e= .returned (.slice a A.ns.length c)/\Zw w' w.heap.size (.slice a A.ns.length c) A.ns:=by
 obtain⟨i0,hi,hz0,hz1,hz2⟩:=info_parts XcW
 obtain⟨nb,c,h0,hm,hc,hfn,hnb,HH0,hN⟩:=hA.look
 have HI:=Xqh hi
 have HS:=Xqh hS
 have hsm:=hS.1
 have HN:=Xqh hN
 clear hi hS hN HH0 hfn hA
 go_enter Tryz.func97,Tryz.ntmps97
 go_wp2
 go_loopw [3,4](λout i wr=>∃k:Nat,k<=A.ns.length/\i= .int .i64 (k+1)/\Hid (Zw wr w.heap.size out (A.ns.take k))/\Below w.heap.size w wr)(λ_ i _=>A.ns.length+1-(intOf i).toNat)
 case atStart=>exact⟨0,Nat.zero_le _,rfl,Zw.nil _ _,Below.refl _ _⟩
 case round=>obtain⟨k,hk,rfl,hT,hB⟩:=hrel;have c0:=Below.old hB h0;by_cases hlt:k<A.ns.length;{have hx:A.has ((k:Int)+1):=⟨by omega,by unfold Ar.n;omega⟩;have hkk:((k:Int)+1).toNat=k+1:=by{omega};obtain⟨-,-,kv,av,F,hK,hAt⟩:=HN.out _ hx;have hgn:=Ar.get_some hx;rw[hkk,Nat.add_sub_cancel]at hgn;have HG:=Xqh hgn;have hsh:=HS.out.get hx;rw[hkk]at F;have F:=F.below hB;have d0:=F.c0;have d1:=F.c1;have d2:=F.c2;have d3:=F.c3;have d4:=F.c4;have d5:=F.c5;have d6:=F.c6;have d7:=F.c7;have d8:=F.c8;have d9:=F.c9;have d10:=F.c10;have d11:=F.c11;have d12:=F.c12;have HD:=Xqh (Xhw (A.get ((k:Int)+1)) kv av wr (Z0 hK.1 hB) (Z0 hAt.1 hB) hsh.1 hsh.2);clear F hK hAt hgn hkk hx hsh;generalize A.get ((k:Int)+1)=n at*;unfold Nd.cells at HD;obtain⟨rows,r1,r2,r3⟩:=hT.out;have hkl:(A.ns.take k).length=k:=by{simp;omega};go_wp2_with fail;refine HD.out.mono ?_;rintro e w2⟨hB2,kv',av',rfl,ho1,ho2⟩;clear d0 d1 d2 d3 d4 d5 d6 d7 d8 d9 d10 d11 d12 HD;obtain⟨ka,kc,rfl⟩:=X6 ho1;obtain⟨aa,ac,rfl⟩:=X6 ho2;have hwr:w.heap.size<=wr.heap.size:=hB.size;have hB2':Below w.heap.size w w2:=hB.trans (hB2.mono hwr);have hw2:w.heap.size<=w2.heap.size:=hB2'.size;have hrows:=Z0 r1 hB2;rw[hkl]at hrows;have HR:=Xqh (And.intro r2 r3);have hone:=JU n (.slice ka n.Xc.length kc) (.slice aa n.Xb.length ac) rfl rfl;have HO:=Xqh (And.intro (YP ho1 hwr) (YP ho2 hwr));have HONE:=Xqh hone;have HROW:=Xqh hrows;clear r1 r2 r3 ho1 ho2 hone hrows hT;unfold Nd.cells;go_wp2_with(at_builtin;refine wpList_append_own _ rfl _ _ 60 rfl w.heap.size 46 i0 _ 13 168 Tryz.underlying60 HI.out hz0 hz1 hz2 rfl (by decide) _ k rows.flatten rfl (HROW.out.alloc _) ⟨w2.heap.size,0,none⟩ 1 1 (n.cells (.slice ka n.Xc.length kc) (.slice aa n.Xb.length ac)) rfl rfl ?c1 ?c2 ?c3 ?c4 ?c5 ?_);(case c1=>intro j u hj;rw[Addr.add_mid,Nat.zero_add];exact Yi rfl (by simpa[Nd.cells]using hj));(case c2=>exact HONE.out);(case c3=>unfold maxLen;omega);(case c4=>omega);(case c5=>simp;omega);intro v' w3 hown hgrow _;have hB3:Below w.heap.size w w3:=(hB2'.alloc hw2 _).grown hgrow (by simp;omega) (λq hq=>(Yx HROW.out q hq).1);have hst:A.ns.take (k+1)=A.ns.take k++ [n]:=by{rw[List.take_succ_eq_append_getElem hlt];have:=(List.getElem?_eq_some_iff.1 HG.out).2;rw[this]};have hfin:Zw w3 w.heap.size v' (A.ns.take (k+1)):=by{rw[hst];refine Zw.snoc (w:=w2.alloc (.cells (n.cells (.slice ka n.Xc.length kc) (.slice aa n.Xb.length ac)).toArray 46)) HR.out.1 (by rw[hkl];exact HROW.out.alloc _) (λi m hm=>?_) (HO.out.1.alloc _) (HO.out.2.alloc _) hgrow (by rw[hkl];exact hown);obtain⟨kv1,av1,g1,g2,g3⟩:=HR.out.2 i m hm;exact⟨kv1,av1,g1,(Z0 g2 hB2).alloc _,(Z0 g3 hB2).alloc _⟩};have HFIN:=Xqh hfin;clear hown hgrow hst hfin;go_wp2;go_roundw;(case rel=>exact⟨k+1,hlt,by go_num,HFIN,hB3⟩);case measure=>simp[intOf];omega};·have hkl:A.ns.take k=A.ns:=List.take_of_length_le (by omega);have hfin:=hT.out;rw[hkl]at hfin;obtain⟨fa,fc,hfe⟩:=X6 hfin.choose_spec.1;have HF:=Xqh (And.intro hfin hfe);clear hfin hfe hT;go_wp2;go_ret;obtain⟨g1,g2⟩:=HF.out;subst g2;exact⟨hB,fa,fc,rfl,g1⟩
end
section
open Go.RowKit
theorem XlZ (o:Own w0 B l w)(hm:Xf.refar b A∈l)(hS:A.YC):Calls Tryz.prog 97 #[.pointer (some ⟨b,0,none⟩)] w λe w'=>∃a c,e= .returned (.slice a A.ns.length c)/\Own w0 B (.nlist (.slice a A.ns.length c) A.ns::l) w':=by
 obtain⟨ρ,hA⟩:=o.refar hm
 refine(XlY A ρ b w hA hS).mono ?_
 rintro e w'⟨hB,a,c,rfl,hN⟩
 exact⟨a,c,rfl,o.Xg2 hB (λw'' hk=>⟨_,hN.keep hk⟩)⟩
theorem Xl0 (o:Own w0 B l w)(hm:Xf.refar b A∈l):Calls Tryz.prog 96 #[.pointer (some ⟨b,0,none⟩)] w λe w'=>e= .returned (.int .i64 A.ns.length)/\w=w':=by
 obtain⟨ρ,hA⟩:=o.refar hm
 obtain⟨nb,c,h0,hm,-⟩:=hA.look
 exact Xlk A b _ c w h0 hm
theorem Xl1 {c:Nat}(o:Own w0 B l w)(h1:Xf.arena b A∈l)(h2:Xf.refar c A∈l)(hS:A.YC):Calls Tryz.prog 26 #[.pointer (some ⟨b,0,none⟩),.pointer (some ⟨c,0,none⟩)] w λe w'=>e= .returned (.bool true)/\Own w0 B l w':=by
 go_enter Tryz.func26,Tryz.ntmps26
 go_wp2_with fail
 refine(XkI o (b:=b) (A:=A) h1).mono ?_
 rintro e w1⟨rfl,rfl⟩
 go_wp2_with fail
 refine(Xl0 o (b:=c) (A:=A) h2).mono ?_
 rintro e w1⟨rfl,rfl⟩
 have hnn:((A.ns.length:Int)==A.ns.length)=true:=by simp
 go_wp2_with fail
 refine(XeQ o (b:=b) (A:=A) h1 hS).mono ?_
 rintro e w2⟨a2,c2,rfl,o2⟩
 go_wp2_with fail
 refine(XlZ o2 (b:=c) (A:=A) (by simp[h2]) hS).mono ?_
 rintro e w3⟨a3,c3,rfl,o3⟩
 go_wp2_with fail
 refine(Xhv o3 (x:=A.ns) (y:=A.ns) (by simp) (by simp)).mono ?_
 rintro e w4⟨rfl,o4⟩
 have hd:decide (A.ns=A.ns)=true:=by simp
 rw[hd]
 have HO:=Xqh o4.drop.drop
 clear o o2 o3 o4 hd
 go_wp2
 go_ret
 exact⟨rfl,HO.out⟩
end
end Go.Proofs.YtpicinjcmjaogaaGreat
