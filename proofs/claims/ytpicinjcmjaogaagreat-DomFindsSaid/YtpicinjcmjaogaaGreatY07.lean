import Derived.BigQuiet
import Derived.Deep.MidRow
import Derived.Deep.Slices
import Derived.Deep.Fields
import Derived.ProofKit
import Derived.Test.YtpicinjcmjaogaaGreatY06
set_option maxRecDepth 100000
set_option maxHeartbeats 4000000
set_option linter.unusedVariables false
namespace Go.Proofs.YtpicinjcmjaogaaGreat
variable{w0 w w':World}{B b:Nat}{l:List Xf}{n:Nd}{v v':Value}{A:Ar}{h:Int}
section
open Go.RowKit
end
section
open Go.RowKit
theorem Own.back (h:Own w0 B l w)(hb:Below w.heap.size w w'):Below B w0 w':=h.low.trans (hb.mono h.big)
end
section
open Go.RowKit
theorem XcU (v1 v2:Value)(l1 l2:List Int)(w:World)(h1:Xy w v1 l1)(h2:Xy w v2 l2):Calls Tryz.prog 36 #[v1,v2] w λe w'=>e= .returned (.bool (decide (l1=l2)))/\Below w.heap.size w w':=by
 obtain⟨a1,c1,rfl,p1,p2,p3⟩:=h1.form
 obtain⟨a2,c2,rfl,q1,q2,q3⟩:=h2.form
 clear h1 h2
 by_cases hl:l1.length=l2.length
 ·have hl1:((l1.length:Int)!=l2.length)=false:=by{simp[hl]};have HL:=Xqh hl;go_enter Tryz.func36,Tryz.ntmps36;go_wp2;go_loopw [5](λi wr=>∃k:Nat,k<=l1.length/\i= .int .i64 k/\Hid (∀j:Nat,j<k->l1[j]?=l2[j]?)/\Below w.heap.size w wr)(λi _=>l1.length-(intOf i).toNat);(case atStart=>exact⟨0,Nat.zero_le _,rfl,λj hj=>by omega,Below.refl _ _⟩);case round=>obtain⟨k,hk,rfl,hT,hB⟩:=hrel;by_cases hlt:k<l1.length;{have hlt2:k<l2.length:=by{have:=HL.out;omega};obtain⟨b1,o1,rfl,hcs1⟩:=p3 (by omega);obtain⟨b2,o2,rfl,hcs2⟩:=q3 (by omega);have d1:=Below.old hB (hcs1 k hlt);have d2:=Below.old hB (hcs2 k hlt2);clear hcs1 hcs2 p3 q3;obtain⟨x,hx⟩:∃x,l1[k]?=some x:=⟨_,List.getElem?_eq_getElem hlt⟩;obtain⟨y,hy⟩:∃y,l2[k]?=some y:=⟨_,List.getElem?_eq_getElem hlt2⟩;rw[hx]at d1;rw[hy]at d2;simp only[Option.getD_some]at d1 d2;have HX:=Xqh (And.intro hx hy);clear hx hy;by_cases he:x=y;{have he1:(x !=y)=false:=by{simp[he]};have HE:=Xqh he;clear he;go_wp2_with(go_quiet(fail));go_wp2;go_roundw;(case rel=>exact⟨k+1,hlt,by go_num,λj hj=>by by_cases hjk:j<k;{exact hT.out j hjk};·have:j=k:=by{omega};rw[this,HX.out.1,HX.out.2,HE.out],Below.drewN hB _⟩);case measure=>simp[intOf];omega};·have he1:(x !=y)=true:=by{simp[he]};have HE:=Xqh he;clear he;go_wp2_with(go_quiet(fail));go_wp2;go_ret;exact⟨XW (decide_eq_false (λh=>HE.out (by have a:=HX.out.1;have b:=HX.out.2;rw[h,b]at a;simpa using a.symm))).symm,Below.drewN hB _⟩};·have hfin:l1=l2:=by{apply List.ext_getElem?;intro j;by_cases hj:j<k;{exact hT.out j hj};·have:=HL.out;rw[List.getElem?_eq_none (by omega),List.getElem?_eq_none (by omega)]};have HF:=Xqh hfin;clear hfin;go_wp2;go_ret;exact⟨XW (decide_eq_true HF.out).symm,hB⟩
 ·have hl1:((l1.length:Int)!=l2.length)=true:=by{simp;omega};have HL:=Xqh hl;clear hl;go_enter Tryz.func36,Tryz.ntmps36;go_wp2;go_ret;exact⟨XW (decide_eq_false (λh=>HL.out (by rw[h]))).symm,Below.refl _ _⟩
theorem Xke (l:List Int)(x k:Int):XQ (l++ [x]) k=if x=k then XQ l k else XQ l k++ [x]:=by
 unfold XQ
 rw[List.filter_append]
 by_cases h:x=k
 ·rw[if_pos h];simp[h]
 ·rw[if_neg h];simp[h]
theorem Xkf {l:List Int}{k:Nat}{x n:Int}(hx:l[k]?=some x):XQ (l.take (k+1)) n=if x=n then XQ (l.take k) n else XQ (l.take k) n++ [x]:=by
 have hk:=(List.getElem?_eq_some_iff.1 hx).1
 rw[List.take_succ_eq_append_getElem hk]
 have:=(List.getElem?_eq_some_iff.1 hx).2
 rw[this,Xke]
theorem Xkg (v:Value)(l:List Int)(n:Int)(w:World)(hv:Xy w v l)(hsmall:l.length<=1000000):Calls Tryz.prog 231 #[v,.int .i64 n] w λe w'=>Below w.heap.size w w'/\∃v',e= .returned v'/\w'.ownsRow w.heap.size 3 1 v' (XQ l n).length ((XQ l n).map Xp):=by
 obtain⟨i0,hi,hz0,hz1,hz2⟩:=info_parts Xaf
 obtain⟨av,cv,rfl,hc1,hc2,hc3⟩:=hv.form
 go_enter Tryz.func231,Tryz.ntmps231
 go_wp2
 go_loopw [5,6](λout i wr=>∃k:Nat,k<=l.length/\i= .int .i64 k/\Hid (wr.ownsRow w.heap.size 3 1 out (XQ (l.take k) n).length ((XQ (l.take k) n).map Xp))/\Below w.heap.size w wr)(λ_ i _=>l.length-(intOf i).toNat)
 case atStart=>exact⟨0,Nat.zero_le _,rfl,World.ownsRow_nil _ _ _ _,Below.refl _ _⟩
 case round=>obtain⟨k,hk,rfl,hO,hB⟩:=hrel;by_cases hlt:k<l.length;{obtain⟨b1,o1,rfl,hcs⟩:=hc3 (by omega);have d1:=Below.old hB (hcs k hlt);obtain⟨x,hx⟩:∃x,l[k]?=some x:=⟨_,List.getElem?_eq_getElem hlt⟩;rw[hx]at d1;simp only[Option.getD_some]at d1;have hst:=Xkf (n:=n) hx;have HI:=Xqh hi;clear hc3 hcs hx hi;by_cases he:x=n;{have he1:(x !=n)=false:=by{simp[he]};rw[if_pos he]at hst;have HO:=Xqh (show wr.ownsRow w.heap.size 3 1 u5 (XQ (l.take (k+1)) n).length ((XQ (l.take (k+1)) n).map Xp)by rw[hst];exact hO.out);clear hst he;go_wp2;go_roundw;(case rel=>exact⟨k+1,hlt,by go_num,HO,hB⟩);case measure=>simp[intOf];omega};·have he1:(x !=n)=true:=by{simp[he]};rw[if_neg he]at hst;have HST:=Xqh hst;have hlen:(XQ (l.take k) n).length<=1000000:=Nat.le_trans (Xf5 _ _) (by simp;omega);have hO2:=hO.out;generalize XQ (l.take k) n=L at*;clear hst he hO;have hwi:w.heap.size<=wr.heap.size:=hB.size;go_wp2_with(at_builtin;refine wpList_append_own _ rfl _ _ 41 rfl w.heap.size 3 i0 _ 1 8 Tryz.underlying41 HI.out hz0 hz1 hz2 rfl (by decide) _ _ _ rfl (hO2.alloc _) ⟨wr.heap.size,0,none⟩ 1 1 [Xp x] rfl rfl ?c1 ?c2 ?c3 ?c4 ?c5 ?_);(case c1=>intro j u hj;rw[Addr.add_mid,Nat.zero_add];exact Yi rfl (by simpa[Xp]using hj));(case c2=>intro u hu;simp at hu;subst hu;rfl);(case c3=>unfold maxLen;omega);(case c4=>omega);(case c5=>simp;omega);intro v' w3 hown hgrow _;have hB3:Below w.heap.size w w3:=(hB.alloc hwi _).grown hgrow (by simp;omega) (λk hk=>(Yx hO2 k hk).1);have hown':w3.ownsRow w.heap.size 3 1 v' (L++ [x]).length ((L++ [x]).map Xp):=by{rw[List.map_append,List.length_append];exact hown};have HO3:=Xqh hown';clear hown hown' hgrow hO2;go_wp2;go_roundw;(case rel=>exact⟨k+1,hlt,by go_num,by rw[HST.out];exact HO3.out,hB3⟩);case measure=>simp[intOf];omega};·have hkl:l.take k=l:=List.take_of_length_le (by omega);have HO:=Xqh (by have:=hO.out;rwa[hkl]at this);go_wp2;go_ret;exact⟨hB,_,rfl,HO.out⟩
end
section
open Go.RowKit
def Ar.YN (A : Ar) (h : Int) : List Int := if A.has h then (A.get h).Xc else []
def Ar.parentOf (A : Ar) (h : Int) : Int := if A.has h then (A.get h).Xd else 0
theorem Xeu {l:List Int}(h:w.ownsRow b 3 1 v l.length (l.map Xp)):Xy w v l:=by
 have h':XT w (λk=>if v.ownBlock=some k then 1 else 0) 1 3 1 v l.length (l.map Xp):=by refine⟨⟨h.1,?_⟩,λg hg=>by simp[hg]⟩;rcases h.2 with h2|⟨g,cap,cur,h3,_,h4⟩;{exact .inl h2};·exact .inr ⟨g,cap,cur,h3,Nat.zero_le _,h4⟩
 exact h'.reads
/-- A list of integers in the call's own memory. -/
abbrev Xf.ints (v : Value) (l : List Int) : Xf := .row 3 1 v l.length (l.map Xp)
theorem Own.ints {x:List Int}(h:Own w0 B l w)(hm:Xf.ints v x∈l):Xy w v x:=Xeu (h.row hm)
theorem Xap (o:Own w0 B l w)(hm:Xf.arena b A∈l)(hS:A.YC):Calls Tryz.prog 33 #[.pointer (some ⟨b,0,none⟩),.int .i64 h] w λe w'=>∃a c,e= .returned (.slice a (A.YN h).length c)/\Own w0 B (.ints (.slice a (A.YN h).length c) (A.YN h)::l) w':=by
 obtain⟨ρ,hA⟩:=o.arena hm
 refine(Xgt A ρ b h w hA (λhh=>(hS.get hh).1)).mono ?_
 rintro e w'⟨hB,v,rfl,ho⟩
 obtain⟨a,c,rfl⟩:=X6 ho
 exact⟨a,c,rfl,o.newRow hB ho⟩
theorem Xev (o:Own w0 B l w)(hm:Xf.arena b A∈l):Calls Tryz.prog 37 #[.pointer (some ⟨b,0,none⟩),.int .i64 h] w λe w'=>e= .returned (.int .i64 (A.parentOf h))/\w=w':=by
 obtain⟨ρ,hA⟩:=o.arena hm
 exact Xgs A ρ b h w hA
end
section
open Go.RowKit
theorem XgH {er:Int}(o:Own w0 B l w)(hm:Xf.arena b A∈l)(hS:A.YC)(hn:(if A.has h then A.get h else XL)=n)(he:(if A.has h then(0:Int)else 3)=er):Calls Tryz.prog 34 #[.pointer (some ⟨b,0,none⟩),.int .i64 h] w λe w'=>∃ka kl kc aa al ac,e= .returned (.tuple #[.agg (n.cells (.slice ka kl kc) (.slice aa al ac)).toArray,.int .i64 er])/\Own w0 B l w'/\Below w.heap.size w w':=by
 subst hn
 subst he
 obtain⟨ρ,hA⟩:=o.arena hm
 refine(XcO A ρ b h w hA hS).mono ?_
 rintro e w'⟨hB,kv,av,rfl,h1,h2⟩
 obtain⟨ka,kc,rfl⟩:=X6 h1
 obtain⟨aa,ac,rfl⟩:=X6 h2
 exact⟨ka,_,kc,aa,_,ac,rfl,o.read hB,hB⟩
theorem Zv (o:Own w0 B l w)(hm:Xf.arena b A∈l)(hS:A.YC)(hh:A.has h)(hn:A.get h=n):Calls Tryz.prog 90 #[.pointer (some ⟨b,0,none⟩),.int .i64 h] w λe w'=>e= .returned (.int .i64 n.Xa)/\Own w0 B l w'/\Below w.heap.size w w':=by
 have oS:=Own.start w
 have HC:=Xqh (JZ o hm hS hh hn)
 have HO:=Xqh o
 clear o
 go_enter Tryz.func90,Tryz.ntmps90
 go_wp2_with fail
 refine HC.out.mono ?_
 rintro e w1⟨ka,kl,kc,aa,al,ac,rfl,-,hB1⟩
 have o1:=oS.read hB1
 clear oS HC
 have HT:=Xqh (XV (w:=w1) n ka kc aa ac kl al)
 have o5:=o1.XU n (.slice ka kl kc) (.slice aa al ac)
 go_wp2_with((with_reducible refine wpList_store_mid ?_ 46 (.tmp 5) (.tmp 11) ?_ w1.heap.size 0 (n.cells (.slice ka kl kc) (.slice aa al ac)).toArray ?_ ?_ ?_ ?_ ?_ ?_);exact rfl;exact rfl;exact rfl;exact rfl;exact HT.out.1;exact XM _ _ _;exact all_oneCell_toArray HT.out.2;clear HT;generalize hw5:World.setCells _ _ _ _=w5 at o5⊢;generalize hg5:w1.heap.size=g5 at o5⊢;clear hw5 hg5;have q1:w5.cell? ⟨g5,0,none⟩=some (.int .i64 n.Xa):=(cell_of_row w5 _ _ _ _ _ (o5.box (g:=g5) (o:= .cells (n.cells (.slice ka kl kc) (.slice aa al ac)).toArray 46 (0,0)) (by simp))).trans rfl)
 go_wp2
 go_ret
 have hlow:=o5.low
 exact⟨rfl,HO.out.read hlow,hlow⟩
theorem XcV (o:Own w0 B l w)(hm:Xf.arena b A∈l)(hS:A.YC)(hh:A.has h)(hn:A.get h=n):Calls Tryz.prog 139 #[.pointer (some ⟨b,0,none⟩),.int .i64 h] w λe w'=>e= .returned (.int .i64 n.doc)/\Own w0 B l w'/\Below w.heap.size w w':=by
 have oS:=Own.start w
 have HC:=Xqh (JZ o hm hS hh hn)
 have HO:=Xqh o
 clear o
 go_enter Tryz.func139,Tryz.ntmps139
 go_wp2_with fail
 refine HC.out.mono ?_
 rintro e w1⟨ka,kl,kc,aa,al,ac,rfl,-,hB1⟩
 have o1:=oS.read hB1
 clear oS HC
 have HT:=Xqh (XV (w:=w1) n ka kc aa ac kl al)
 have o5:=o1.XU n (.slice ka kl kc) (.slice aa al ac)
 go_wp2_with((with_reducible refine wpList_store_mid ?_ 46 (.tmp 5) (.tmp 11) ?_ w1.heap.size 0 (n.cells (.slice ka kl kc) (.slice aa al ac)).toArray ?_ ?_ ?_ ?_ ?_ ?_);exact rfl;exact rfl;exact rfl;exact rfl;exact HT.out.1;exact XM _ _ _;exact all_oneCell_toArray HT.out.2;clear HT;generalize hw5:World.setCells _ _ _ _=w5 at o5⊢;generalize hg5:w1.heap.size=g5 at o5⊢;clear hw5 hg5;have q1:w5.cell? ⟨g5,3,none⟩=some (.int .i64 n.doc):=(cell_of_row w5 _ _ _ _ _ (o5.box (g:=g5) (o:= .cells (n.cells (.slice ka kl kc) (.slice aa al ac)).toArray 46 (0,0)) (by simp))).trans rfl)
 go_wp2
 go_ret
 have hlow:=o5.low
 exact⟨rfl,HO.out.read hlow,hlow⟩
open Classical in
/-- The first error of a call with handles; the one at place opt may be 0. -/
noncomputable def chk (A : Ar) (opt : Int) (l : List Int) : Int := if ∀ (i : Nat) x, l[i]? = some x -> (x = 0 /\ (i : Int) = opt) \/ A.has x then 0 else 3
theorem Xew {ll:List Xf}{opt:Int}(o:Own w0 B ll w)(hm:Xf.arena b A∈ll)(hS:A.YC)(v:Value)(l:List Int)(hv:Xy w v l):Calls Tryz.prog 89 #[.pointer (some ⟨b,0,none⟩),.int .i64 opt,v] w λe w'=>e= .returned (.int .i64 (chk A opt l))/\Own w0 B ll w'/\Below w.heap.size w w':=by
 obtain⟨av,cv,rfl,hc1,hc2,hc3⟩:=hv.form
 have HS:=Xqh hS
 have HM:=Xqh hm
 have HO:=Xqh o
 clear hS hv o hm
 go_enter Tryz.func89,Tryz.ntmps89
 go_wp2
 go_loopw [15](λi wr=>∃k:Nat,k<=l.length/\i= .int .i64 k/\Hid (Below w.heap.size w wr)/\Hid (∀(j:Nat)x,j<k->l[j]?=some x->(x=0/\(j:Int)=opt)\/A.has x))(λi _=>l.length-(intOf i).toNat)
 case atStart=>exact⟨0,Nat.zero_le _,rfl,Xqh (Below.refl _ _),Xqh (λj x hj=>by omega)⟩
 case round=>obtain⟨k,hk,rfl,hB,hT⟩:=hrel;by_cases hlt:k<l.length;{obtain⟨b1,o1,rfl,hcs⟩:=hc3 (by omega);have hck:=Below.old hB.out (hcs k hlt);clear hc3 hcs;obtain⟨x,hx⟩:∃x,l[k]?=some x:=⟨_,List.getElem?_eq_getElem hlt⟩;rw[hx]at hck;simp only[Option.getD_some]at hck;have HX:=Xqh hx;clear hx;have hnext:Hid ((x=0/\(k:Int)=opt)\/A.has x->∀(j:Nat)y,j<k+1->l[j]?=some y->(y=0/\(j:Int)=opt)\/A.has y):=Xqh (λhok j y hj hy=>by by_cases hjk:j<k;{exact hT.out j y hjk hy};·have:j=k:=by{omega};subst this;rw[HX.out]at hy;simp at hy;subst hy;exact hok);by_cases hz:x=0/\(k:Int)=opt;{have hnx:=Xqh (hnext.out (.inl hz));obtain⟨rfl,rfl⟩:=hz;go_wp2;go_roundw;(case rel=>exact⟨k+1,hlt,by go_num,hB,hnx⟩);case measure=>simp[intOf];omega};·have HZ:=Xqh hz;clear hz;obtain⟨n,hn⟩:∃n,(if A.has x then A.get x else XL)=n:=⟨_,rfl⟩;by_cases hh:A.has x;{have hnx:=Xqh (hnext.out (.inr hh));have h0:(x==0)=false:=by{have:=hh.1;simp;omega};have HC:=Xqh (XgH (HO.out.read hB.out) HM.out HS.out hn (if_pos hh));have oW:=(Own.start w).read hB.out;clear hnext hh hn;go_wp2_with fail;refine HC.out.mono ?_;rintro e w1⟨ka,kl,kc,aa,al,ac,rfl,-,hB1⟩;have o1:=oW.read hB1;clear oW HC;have HT:=Xqh (XV (w:=w1) n ka kc aa ac kl al);have o5:=o1.XU n (.slice ka kl kc) (.slice aa al ac);go_wp2_with((with_reducible refine wpList_store_mid ?_ 46 (.tmp 9) (.tmp 31) ?_ w1.heap.size 0 (n.cells (.slice ka kl kc) (.slice aa al ac)).toArray ?_ ?_ ?_ ?_ ?_ ?_);exact rfl;exact rfl;exact rfl;exact rfl;exact HT.out.1;exact XM _ _ _;exact all_oneCell_toArray HT.out.2;clear HT;generalize hw5:World.setCells _ _ _ _=w5 at o5⊢;generalize hg5:w1.heap.size=g5 at o5⊢;clear hw5 hg5;skip);go_wp2;have hBn:=Xqh o5.low;go_roundw;(case rel=>exact⟨k+1,hlt,by go_num,hBn,hnx⟩);case measure=>simp[intOf];omega};·have HC:=Xqh (XgH (HO.out.read hB.out) HM.out HS.out hn (if_neg hh));have oW:=(Own.start w).read hB.out;have hfin:Hid (chk A opt l=3):=Xqh (by unfold chk;rw[if_neg];intro hall;rcases hall k x HX.out with q|q;{exact HZ.out q};·exact hh q);clear hnext hh hn;by_cases h0:x=0;{subst h0;have hk0:((k:Int)==opt)=false:=by{simp;exact λq=>HZ.out ⟨rfl,q⟩};go_wp2_with fail;refine HC.out.mono ?_;rintro e w1⟨ka,kl,kc,aa,al,ac,rfl,-,hB1⟩;have o1:=oW.read hB1;clear oW HC;have HT:=Xqh (XV (w:=w1) n ka kc aa ac kl al);have o5:=o1.XU n (.slice ka kl kc) (.slice aa al ac);go_wp2_with((with_reducible refine wpList_store_mid ?_ 46 (.tmp 9) (.tmp 31) ?_ w1.heap.size 0 (n.cells (.slice ka kl kc) (.slice aa al ac)).toArray ?_ ?_ ?_ ?_ ?_ ?_);exact rfl;exact rfl;exact rfl;exact rfl;exact HT.out.1;exact XM _ _ _;exact all_oneCell_toArray HT.out.2;clear HT;generalize hw5:World.setCells _ _ _ _=w5 at o5⊢;generalize hg5:w1.heap.size=g5 at o5⊢;clear hw5 hg5;skip);go_wp2;go_ret;have hlow:=o5.low;rw[hfin.out];exact⟨rfl,HO.out.read hlow,hlow⟩};·have h0':(x==0)=false:=by{simp[h0]};clear h0;go_wp2_with fail;refine HC.out.mono ?_;rintro e w1⟨ka,kl,kc,aa,al,ac,rfl,-,hB1⟩;have o1:=oW.read hB1;clear oW HC;have HT:=Xqh (XV (w:=w1) n ka kc aa ac kl al);have o5:=o1.XU n (.slice ka kl kc) (.slice aa al ac);go_wp2_with((with_reducible refine wpList_store_mid ?_ 46 (.tmp 9) (.tmp 31) ?_ w1.heap.size 0 (n.cells (.slice ka kl kc) (.slice aa al ac)).toArray ?_ ?_ ?_ ?_ ?_ ?_);exact rfl;exact rfl;exact rfl;exact rfl;exact HT.out.1;exact XM _ _ _;exact all_oneCell_toArray HT.out.2;clear HT;generalize hw5:World.setCells _ _ _ _=w5 at o5⊢;generalize hg5:w1.heap.size=g5 at o5⊢;clear hw5 hg5;skip);go_wp2;go_ret;have hlow:=o5.low;rw[hfin.out];exact⟨rfl,HO.out.read hlow,hlow⟩};·have hfin:Hid (chk A opt l=0):=Xqh (by unfold chk;rw[if_pos];intro j x hx;exact hT.out j x (by have:=(List.getElem?_eq_some_iff.1 hx).1;omega) hx);clear hT;go_wp2;go_ret;rw[hfin.out];exact⟨rfl,HO.out.read hB.out,hB.out⟩
end
section
open Go.ChangeShapes Go.WideShapes Go.ChangeAt Go.RowKit
end
section
open Go.RowKit
theorem Xex {b':Nat}{e e':TypeId}{s s':Nat}{n n':Nat}{xs xs':List Value}(h:w.ownsRow b e s v n xs)(h':w.ownsRow b' e' s' v' n' xs')(hne:e≠e'):∀k,v.ownBlock=some k->v'.ownBlock≠some k:=by
 intro k hk hk'
 rcases h.2 with⟨rfl,_⟩|⟨g,cap,cur,rfl,_,hg,_⟩
 ·simp[Value.ownBlock]at hk
 ·rcases h'.2 with⟨rfl,_⟩|⟨g',cap',cur',rfl,_,hg',_⟩;{simp[Value.ownBlock]at hk'};·simp[Value.ownBlock]at hk hk';subst hk;subst hk';rw[hg]at hg';simp at hg';exact hne hg'.2
/-- A list of descriptions in new memory, with the rows of their lists. -/
def Zw (w : World) (base : Nat) (v : Value) (ns : List Nd) : Prop :=
  ∃ rows : List (List Value), w.ownsRow base 46 13 v ns.length rows.flatten /\ rows.length = ns.length /\ ∀ (i : Nat) (n : Nd), ns[i]? = some n -> ∃ kv av, rows[i]? = some (n.cells kv av) /\ w.ownsRow base 3 1 kv n.Xc.length (n.Xc.map Xp) /\ w.ownsRow base 132 3 av n.Xb.length (n.Xb.flatMap Xv)
theorem Zw.nil (w:World)(base:Nat):Zw w base (.slice none 0 0) []:=⟨[],World.ownsRow_nil _ _ _ _,rfl,λi n h=>by simp at h⟩
theorem Zw.snoc {base:Nat}{kv av:Value}{ns:List Nd}{rows:List (List Value)}(hl:rows.length=ns.length)(hv:w.ownsRow base 46 13 v ns.length rows.flatten)(hN:∀(i:Nat)(n:Nd),ns[i]?=some n->∃kv av,rows[i]?=some (n.cells kv av)/\w.ownsRow base 3 1 kv n.Xc.length (n.Xc.map Xp)/\w.ownsRow base 132 3 av n.Xb.length (n.Xb.flatMap Xv))(hk:w.ownsRow base 3 1 kv n.Xc.length (n.Xc.map Xp))(ha:w.ownsRow base 132 3 av n.Xb.length (n.Xb.flatMap Xv))(hg:w.grownBy w' v.ownBlock)(ho:w'.ownsRow base 46 13 v' (ns.length+1) (rows.flatten++n.cells kv av)):Zw w' base v' (ns++ [n]):=by
 have hU:Upd (λk=>v.ownBlock=some k) w w':=Upd.grown hg (λk hk=>hk)
 have keep:∀{e:TypeId}{s:Nat}{x:Value}{m:Nat}{xs:List Value},w.ownsRow base e s x m xs->e≠46->w'.ownsRow base e s x m xs:=λh hne=>ZS h hU (λk hk hf=>Xex h hv hne k hk hf)
 refine⟨rows++ [n.cells kv av],by simpa[List.flatten_append]using ho,by simp[hl],λi m hm=>?_⟩
 rw[List.getElem?_append]at hm
 split at hm
 ·rename_i hi;obtain⟨kv',av',h1,h2,h3⟩:=hN i m hm;exact⟨kv',av',by rw[List.getElem?_append_left (by omega)];exact h1,keep h2 (by decide),keep h3 (by decide)⟩
 ·rename_i hi;have hi':i=ns.length:=by{have:=(List.getElem?_eq_some_iff.1 hm).1;simp at this;omega};subst hi';simp at hm;subst hm;exact⟨kv,av,by rw[<-hl];simp,keep hk (by decide),keep ha (by decide)⟩
theorem XcW :(Tryz.prog.info? 46).map (λi=>(i.zero,i.size,i.bytes))=some (some (.agg #[.int .i64 0,.int .i64 0,.slice none 0 0,.int .i64 0,.int .i64 0,.string ByteArray.empty,.slice none 0 0,.string ByteArray.empty,.string ByteArray.empty,.string ByteArray.empty,.bool false,.int .i64 0,.int .i64 0]),13,168):=by
 kernel_rfl
theorem Xkh (A:Ar)(ρ:Nat->Nat)(b:Nat)(w:World)(hA:Xz w ρ b A)(hS:A.YC):Calls Tryz.prog 43 #[.pointer (some ⟨b,0,none⟩)] w λe w'=>Below w.heap.size w w'/\∃a c,e= .returned (.slice a A.ns.length c)/\Zw w' w.heap.size (.slice a A.ns.length c) A.ns:=by
 obtain⟨i0,hi,hz0,hz1,hz2⟩:=info_parts XcW
 obtain⟨a,c,mv,h0,-,hf,hlt,hm,hN⟩:=hA.head
 have HI:=Xqh hi
 have HS:=Xqh hS
 have hsm:=hS.1
 clear hi hS
 have HN:=Xqh hN
 clear hN
 go_enter Tryz.func43,Tryz.ntmps43
 go_wp2
 go_loopw [3,12](λout i wr=>∃k:Nat,k<=A.ns.length/\i= .int .i64 k/\Hid (Zw wr w.heap.size out (A.ns.take k))/\Below w.heap.size w wr)(λ_ i _=>A.ns.length-(intOf i).toNat)
 case atStart=>exact⟨0,Nat.zero_le _,rfl,Zw.nil _ _,Below.refl _ _⟩
 case round=>obtain⟨k,hk,rfl,hT,hB⟩:=hrel;by_cases hlt:k<A.ns.length;{obtain⟨nb,rfl,hr,hnb,hfn,hNx⟩:=HN.out (by omega);have hx:A.has ((k:Int)+1):=⟨by omega,by unfold Ar.n;omega⟩;have hkk:((k:Int)+1).toNat-1=k:=by{omega};obtain⟨kv,av,F,hK,hAt⟩:=hNx _ hx;rw[hkk]at F;have hgn:=Ar.get_some hx;rw[hkk]at hgn;have HG:=Xqh hgn;have hsh:=HS.out.get hx;have c0:=Below.old hB h0;have HD:=Xqh (Xgu nb (k*13) (A.get ((k:Int)+1)) kv av wr (F.below hB) (Xy.below hK.reads hB) (XE.below hAt.reads hB) hsh.1 hsh.2);clear F hNx hfn hK hAt hgn hkk hx hsh;generalize A.get ((k:Int)+1)=n at*;obtain⟨rows,r1,r2,r3⟩:=hT.out;have hkl:(A.ns.take k).length=k:=by{simp;omega};go_wp2_with fail;refine HD.out.mono ?_;rintro e w2⟨hB2,kv',av',rfl,ho1,ho2⟩;obtain⟨ka,kc,rfl⟩:=X6 ho1;obtain⟨aa,ac,rfl⟩:=X6 ho2;have hwr:w.heap.size<=wr.heap.size:=hB.size;have hB2':Below w.heap.size w w2:=hB.trans (hB2.mono hwr);have hw2:w.heap.size<=w2.heap.size:=hB2'.size;have hrows:=Z0 r1 hB2;rw[hkl]at hrows;have HR:=Xqh (And.intro r2 r3);have hone:=JU n (.slice ka n.Xc.length kc) (.slice aa n.Xb.length ac) rfl rfl;have HO:=Xqh (And.intro (YP ho1 hwr) (YP ho2 hwr));have HONE:=Xqh hone;have HROW:=Xqh hrows;clear r1 r2 r3 ho1 ho2 hone hrows hT;unfold Nd.cells;go_wp2_with(at_builtin;refine wpList_append_own _ rfl _ _ 60 rfl w.heap.size 46 i0 _ 13 168 Tryz.underlying60 HI.out hz0 hz1 hz2 rfl (by decide) _ k rows.flatten rfl (HROW.out.alloc _) ⟨w2.heap.size,0,none⟩ 1 1 (n.cells (.slice ka n.Xc.length kc) (.slice aa n.Xb.length ac)) rfl rfl ?c1 ?c2 ?c3 ?c4 ?c5 ?_);(case c1=>intro j u hj;rw[Addr.add_mid,Nat.zero_add];exact Yi rfl (by simpa[Nd.cells]using hj));(case c2=>exact HONE.out);(case c3=>unfold maxLen;omega);(case c4=>omega);(case c5=>simp;omega);intro v' w3 hown hgrow _;have hB3:Below w.heap.size w w3:=(hB2'.alloc hw2 _).grown hgrow (by simp;omega) (λq hq=>(Yx HROW.out q hq).1);have hst:A.ns.take (k+1)=A.ns.take k++ [n]:=by{rw[List.take_succ_eq_append_getElem hlt];have:=(List.getElem?_eq_some_iff.1 HG.out).2;rw[this]};have hfin:Zw w3 w.heap.size v' (A.ns.take (k+1)):=by{rw[hst];refine Zw.snoc (w:=w2.alloc (.cells (n.cells (.slice ka n.Xc.length kc) (.slice aa n.Xb.length ac)).toArray 46)) HR.out.1 (by rw[hkl];exact HROW.out.alloc _) (λi m hm=>?_) (HO.out.1.alloc _) (HO.out.2.alloc _) hgrow (by rw[hkl];exact hown);obtain⟨kv1,av1,g1,g2,g3⟩:=HR.out.2 i m hm;exact⟨kv1,av1,g1,(Z0 g2 hB2).alloc _,(Z0 g3 hB2).alloc _⟩};have HFIN:=Xqh hfin;clear hown hgrow hst hfin;go_wp2;go_roundw;(case rel=>exact⟨k+1,hlt,by go_num,HFIN,hB3⟩);case measure=>simp[intOf];omega};·have hkl:A.ns.take k=A.ns:=List.take_of_length_le (by omega);have hfin:=hT.out;rw[hkl]at hfin;obtain⟨fa,fc,hfe⟩:=X6 hfin.choose_spec.1;have HF:=Xqh (And.intro hfin hfe);clear hfin hfe hT;go_wp2;go_ret;obtain⟨g1,g2⟩:=HF.out;subst g2;exact⟨hB,fa,fc,rfl,g1⟩
end
section
open Go.ChangeShapes Go.WideShapes Go.ChangeAt Go.RowKit Go.Deep
end
end Go.Proofs.YtpicinjcmjaogaaGreat
