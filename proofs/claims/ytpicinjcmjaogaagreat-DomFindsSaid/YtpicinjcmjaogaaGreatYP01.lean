import Derived.Deep.Slices
import Derived.Deep.Fields
import Derived.ChangeSame
import Derived.ProofKit
import Derived.Test.YtpicinjcmjaogaaGreatY43
set_option maxRecDepth 100000
set_option maxHeartbeats 4000000
set_option linter.unusedVariables false
namespace Go.Proofs.YtpicinjcmjaogaaGreat
variable{t fuel B k:Nat}{v:Value}{w0:World}{x h:Int}{y:List Int}{l L:List Xf}{A:Ar}{id name:ByteArray}
section
open Go.RowKit
end
section
open Go.RowKit Go.ChangeShapes Go.WideShapes Go.Deep
section
variable {H : Type} {enc : TypeId × Value -> H} {P : Program} {w : World} {base : Nat} {spare : Nat -> Bool} {held : Bool}
theorem open_slice_fields {t e:TypeId}{fs:Array Field}{cs:List Value}{x:DataW H×List MemPlace}(ht:P.underlying t=some (.slice e))(he:P.underlying e=some (.struct fs))(hone:oneCellFields P fs=true)(hC:P.cellsOf e=fs.size)(h:DataW.trod enc P w base spare held fuel t cs=some x):cs= [.slice none 0 0]\/∃(a:Addr)(len cap:Nat)(D:Nat->DataW H),cs= [.slice (some a) len cap]/\len<=cap/\cap<=maxLen/\∀i,i<len->∃(ys:List (DataW H×List MemPlace))(n:Nat),∀(j:Nat)(f:Field),fs[j]?=some f->∃(v:Value)(y:DataW H×List MemPlace),w.cell? (a.add (i*fs.size+j))=some v/\ys[j]?=some y/\DataW.trod enc P w base spare held n f.type [v]=some y:=by
 rcases open_slice ht h with h0|⟨a,len,cap,m,n,D,Pl,hcs,hb,hl,hm,hmm,hx,hi⟩
 ·exact .inl h0.1
 ·refine .inr ⟨a,len,cap,D,hcs,hl,hm,λi hil=>?_⟩;have him:i<m:=by{rw[hmm];split<;>omega};obtain⟨cs',hc,ht'⟩:=hi i him;rw[hC]at hc;obtain⟨ys,n',hn',hy,hlen,hyl,hf⟩:=DataW.trod_struct he ht';obtain⟨_,hcl,hat⟩:=World.cells?_some hc;refine⟨ys,n',λj f hj=>?_⟩;obtain⟨ho,hk⟩:=hone_of hone j f hj;have hjl:j<fs.size:=(Array.getElem?_eq_some_iff.1 hj).1;have hcell:=hat j hjl;have hv:cs'[j]?=some (cs'[j]'(by omega)):=List.getElem?_eq_getElem (by omega);have h1:=hf j f hj;rw[ho,hk]at h1;have hone':(cs'.drop j).take 1= [cs'[j]'(by omega)]:=by{rw[List.drop_eq_getElem_cons (by omega)];rfl};rw[hone']at h1;have hys:ys[j]?=some (ys[j]'(by omega)):=List.getElem?_eq_getElem (by omega);refine⟨_,_,?_,hys,h1.trans hys⟩;rw[<-Go.Deep.add_add,hcell,hv]
end
theorem spot_none {w:World}{a:Addr}(h:w.cell? a=some v):a.spot=none:=by
 unfold World.cell? at h
 split at h
 ·split at h;{cases h};·rename_i hs;simpa using hs
 ·cases h
theorem list_of {α:Type}(Q:Nat->α->Prop):∀n:Nat,(∀i,i<n->∃x,Q i x)->∃l:List α,l.length=n/\∀i x,l[i]?=some x->Q i x
 |0,_=>⟨[],rfl,λi x h=>by simp at h⟩
 |n+1,h=>by{obtain⟨l,hl,hq⟩:=list_of Q n (λi hi=>h i (by omega));obtain⟨x,hx⟩:=h n (by omega);refine⟨l++ [x],by simp[hl],λi y hy=>?_⟩;rw[List.getElem?_append]at hy;split at hy;{exact hq i y hy};·have:i=n:=by{have:=(List.getElem?_eq_some_iff.1 hy).1;simp at this;omega};subst this;simp[hl]at hy;subst hy;exact hx}
section
variable {H : Type} {enc : TypeId × Value -> H} {w : World} {base : Nat} {spare : Nat -> Bool} {held : Bool}
theorem open_attrs {x:DataW H×List MemPlace}(h:DataW.trod enc Tryz.prog w base spare held fuel 44 [v]=some x):∃l:List Xm,XE w v l:=by
 rcases open_slice_fields Tryz.underlying44 Tryz.underlying132 (by kernel_rfl) (by kernel_rfl) h with h0|⟨a,len,cap,D,hcs,hl,hm,hi⟩
 ·simp at h0;subst h0;exact⟨[],rfl,none,0,rfl,Nat.le_refl _,Nat.zero_le _,λh=>absurd h (by simp)⟩
 ·simp at hcs;subst hcs;have hq:∀i,i<len->∃y:Xm,w.cell? (a.add (i*3+0))=some (.int .i64 y.1)/\w.cell? (a.add (i*3+1))=some (.string y.2.1)/\w.cell? (a.add (i*3+2))=some (.string y.2.2):=by{intro i hil;obtain⟨ys,n,hf⟩:=hi i hil;obtain⟨v0,y0,c0,-,t0⟩:=hf 0 _ rfl;obtain⟨v1,y1,c1,-,t1⟩:=hf 1 _ rfl;obtain⟨v2,y2,c2,-,t2⟩:=hf 2 _ rfl;obtain⟨s,e0,-⟩:=DataW.trod_int Tryz.underlying34 t0;obtain⟨nm,e1,-⟩:=DataW.trod_string Tryz.underlying9 t1;obtain⟨vl,e2,-⟩:=DataW.trod_string Tryz.underlying9 t2;simp at e0 e1 e2;subst e0;subst e1;subst e2;exact⟨(s,nm,vl),c0,c1,c2⟩};obtain⟨l,hll,hlq⟩:=list_of _ len hq;subst hll;refine⟨l,XcP l,some a,cap,rfl,hl,hm,λhp=>?_⟩;have hsp:a.spot=none:=by{obtain⟨q,-⟩:=hlq 0 _ (List.getElem?_eq_getElem hp);exact spot_none (by simpa[Addr.add]using q)};obtain⟨b,o,sp⟩:=a;simp at hsp;subst hsp;refine⟨b,o,rfl,λj x hx=>?_⟩;have hj:j<l.length*3:=by{have:=(List.getElem?_eq_some_iff.1 hx).1;rwa[XcP]at this};have h3:j=3*(j/3)+j%3:=by{omega};have hy:l[j/3]?=some (l[j/3]'(by omega)):=List.getElem?_eq_getElem (by omega);rw[h3,XdQ hy _ (by omega)]at hx;have hq:=hlq _ _ hy;have hm3:j%3<3:=by{omega};generalize j%3=r at*;rw[h3];simp only[Addr.add_mid]at hq;rcases(show r=0\/r=1\/r=2 by omega)with rfl|rfl|rfl;{simp[Xv]at hx;subst hx;rw[show o+(3*(j/3)+0)=o+(j/3*3+0)by(omega)];exact hq.1};{simp[Xv]at hx;subst hx;rw[show o+(3*(j/3)+1)=o+(j/3*3+1)by(omega)];exact hq.2.1};·simp[Xv]at hx;subst hx;rw[show o+(3*(j/3)+2)=o+(j/3*3+2)by(omega)];exact hq.2.2
theorem open_ops {x:DataW H×List MemPlace}(h:DataW.trod enc Tryz.prog w base spare held fuel 38 [v]=some x):∃l:List OpD,JW w v l:=by
 rcases open_slice_fields Tryz.underlying38 Tryz.underlying92 (by kernel_rfl) (by kernel_rfl) h with h0|⟨a,len,cap,D,hcs,hl,hm,hi⟩
 ·simp at h0;subst h0;exact⟨[],none,0,rfl,Nat.le_refl _,Nat.zero_le _,λh=>absurd h (by simp)⟩
 ·simp at hcs;subst hcs;have hq:∀i,i<len->∃y:OpD,∃av,(∀j v,(y.cells av)[j]?=some v->w.cell? (a.add (i*10+j))=some v)/\XE w av y.Xb:=by{intro i hil;obtain⟨ys,n,hf⟩:=hi i hil;obtain⟨v0,y0,c0,-,t0⟩:=hf 0 _ rfl;obtain⟨v1,y1,c1,-,t1⟩:=hf 1 _ rfl;obtain⟨v2,y2,c2,-,t2⟩:=hf 2 _ rfl;obtain⟨v3,y3,c3,-,t3⟩:=hf 3 _ rfl;obtain⟨v4,y4,c4,-,t4⟩:=hf 4 _ rfl;obtain⟨v5,y5,c5,-,t5⟩:=hf 5 _ rfl;obtain⟨v6,y6,c6,-,t6⟩:=hf 6 _ rfl;obtain⟨v7,y7,c7,-,t7⟩:=hf 7 _ rfl;obtain⟨v8,y8,c8,-,t8⟩:=hf 8 _ rfl;obtain⟨v9,y9,c9,-,t9⟩:=hf 9 _ rfl;obtain⟨x0,e0,-⟩:=DataW.trod_int Tryz.underlying3 t0;obtain⟨x1,e1,-⟩:=DataW.trod_int Tryz.underlying3 t1;obtain⟨x2,e2,-⟩:=DataW.trod_int Tryz.underlying3 t2;obtain⟨x3,e3,-⟩:=DataW.trod_int Tryz.underlying3 t3;obtain⟨x4,e4,-⟩:=DataW.trod_bool Tryz.underlying4 t4;obtain⟨x5,e5,-⟩:=DataW.trod_int Tryz.underlying34 t5;obtain⟨x6,e6,-⟩:=DataW.trod_string Tryz.underlying9 t6;obtain⟨x7,e7,-⟩:=DataW.trod_string Tryz.underlying9 t7;obtain⟨x8,e8,-⟩:=DataW.trod_string Tryz.underlying9 t8;obtain⟨l,hl⟩:=open_attrs t9;simp at e0 e1 e2 e3 e4 e5 e6 e7 e8;subst e0;subst e1;subst e2;subst e3;subst e4;subst e5;subst e6;subst e7;subst e8;refine⟨⟨x0,x1,x2,x3,x4,x5,x6,x7,x8,l⟩,v9,λj v hv=>?_,hl⟩;have hj:j<10:=(List.getElem?_eq_some_iff.1 hv).1;rcases(show j=0\/j=1\/j=2\/j=3\/j=4\/j=5\/j=6\/j=7\/j=8\/j=9 by omega)with rfl|rfl|rfl|rfl|rfl|rfl|rfl|rfl|rfl|rfl<;>(simp[OpD.cells]at hv;subst hv;assumption)};obtain⟨l,hll,hlq⟩:=list_of _ len hq;subst hll;refine⟨l,some a,cap,rfl,hl,hm,λhp=>?_⟩;have hsp:a.spot=none:=by{obtain⟨av,q,-⟩:=hlq 0 _ (List.getElem?_eq_getElem hp);exact spot_none (by simpa[Addr.add]using q 0 _ rfl)};obtain⟨b,o,sp⟩:=a;simp at hsp;subst hsp;refine⟨b,o,rfl,λi x hx=>?_⟩;obtain⟨av,q,hA⟩:=hlq i x hx;refine⟨av,λj v hv=>?_,hA⟩;have:=q j v hv;rw[Addr.add_mid]at this;rw[show o+i*10+j=o+(i*10+j)by(omega)];exact this
end
end
section
open Go.RowKit
end
section
open Go.RowKit
end
section
open Go.RowKit
end
section
open Go.RowKit
end
section
open Go.RowKit
theorem SameInts_own {w:World}{v1 v2:Value}{x:List Int}(o:Own w0 B l w)(h1:Xf.ints v1 x∈l)(h2:Xf.ints v2 y∈l):Calls Tryz.prog 36 #[v1,v2] w λe w'=>e= .returned (.bool (decide (x=y)))/\Own w0 B l w':=by
 refine(XcU v1 v2 x y w (o.ints h1) (o.ints h2)).mono ?_
 rintro e w'⟨rfl,hB⟩
 exact⟨rfl,o.read hB⟩
end
section
open Go.RowKit
theorem perm_pick {α:Type}:∀(l:List α)(i:Nat)(a:α),l[i]?=some a->l.Perm (a::l.eraseIdx i)
 | [],i,a,h=>by{simp at h}
 |b::l,0,a,h=>by{simp at h;subst h;exact List.Perm.refl _}
 |b::l,i+1,a,h=>by{have h':l[i]?=some a:=by{simpa using h};exact((perm_pick l i a h').cons b).trans (List.Perm.swap a b _)}
theorem Own.pick {w:World}(h:Own w0 B l w)(i:Nat){a:Xf}(ha:l[i]?=some a):Own w0 B (a::l.eraseIdx i) w:=h.perm (perm_pick l i a ha)
theorem Own.lay {w:World}{l':List Xf}{a:Xf}(h:Own w0 B (a::l') w)(i:Nat)(ha:l[i]?=some a)(hl:l.eraseIdx i=l'):Own w0 B l w:=by
 subst hl
 exact h.perm (perm_pick l i a ha).symm
section
variable {F : Fence} {n : Nat} {P : Program}
end
end
section
open Go.ChangeShapes Go.WideShapes Go.ChangeAt Go.RowKit
theorem own_knob :ownKnob Tryz.prog.godebug=none:=by
 kernel_rfl
theorem laid_out :laidOutB Tryz.prog=true:=by
 kernel_rfl
theorem arg_ops {H:Type}{enc:TypeId×Value->H}{W:World}{base:Nat}{spare:Nat->Bool}{held:Bool}{d:DataW H}{p:List MemPlace}{r:Reach}{b0:Nat}(hv:Value.okWide Tryz.prog W r b0 38 v)(h:DataW.Trod enc Tryz.prog W base spare held 38 v d p):∃l,JW W v l:=by
 obtain⟨a,len,cap,rfl⟩:=okWide_slice Tryz.underlying38 hv
 obtain⟨fuel,hf⟩:=h
 simp only[Value.cells]at hf
 exact open_ops (fuel:=fuel) (x:=(d,p)) hf
end
section
open Go.RowKit
theorem flat_take_len {α:Type}(l:List Int)(k:Nat)(f:Int->List α):((l.take k).flatMap f).length<=(l.flatMap f).length:=by
 have:=congrArg List.length (congrArg (List.flatMap f) (List.take_append_drop k l))
 rw[List.flatMap_append,List.length_append]at this
 omega
end
section
open Go.RowKit Go.Shelf
theorem wpList_append_none {P:Program}(w:World){ops:Array Oper}{rest:List Oper}{o:Oper}{a:Act}{Q:Exit->Act->World->Prop}(hgd:o.guard=none)(s x:Operand)(t:TypeId)(ho:o.op= .call {callee:= .builtin .append,args:= #[s,x],argTypes:= #[t,t]})(base:Nat)(e:TypeId)(i:TypeInfo)(size:Nat)(ht:P.underlying t=some (.slice e))(hi:P.info? e=some i)(v:Value)(n:Nat)(xs:List Value)(hs:a.eval s=v)(hown:w.ownsRow base e size v n xs)(hx:a.eval x= .slice none 0 0)(h:wpList P ops Q rest (a.put o.dst v) w):wpList P ops Q (o::rest) a w:=by
 refine wpList_plain hgd λK hK=>?_
 have hr:=run_append_owned_none (P:=P) w base t o.type e i size ht hi v n xs hown
 unfold Oper.wp execOp
 simp only[ho,resolve,invoke,builtin,Sem.run_bind,Sem.run_pure,Result.andThen_ok,List.map_toArray,List.map_cons,List.map_nil,hs,hx,hr]
 exact hK _ _ h
theorem below_take_len (hI:A.Inv)(hh:A.has h)(j:Nat):(((A.get h).Xc.take j).flatMap (λk=>k::A.below k)).length<=A.ns.length:=by
 have h1:=flat_take_len (A.get h).Xc j (λk=>k::A.below k)
 have h2:=Xkb hI h hh
 have h3:=Z3 hI h
 rw[ZD hI hh]at h2
 omega
theorem RBelow5_any (A:Ar)(ρ:Nat->Nat)(b:Nat)(hI:A.Inv)(hsz:A.ns.length<=1000000):∀h,A.has h->∀w,Xx w ρ b A->Calls Tryz.prog 137 #[.pointer (some ⟨b,0,none⟩),.int .i64 h] w λe w'=>Below w.heap.size w w'/\∃v',e= .returned v'/\w'.ownsRow w.heap.size 3 1 v' (A.below h).length ((A.below h).map Xp):=by
 obtain⟨i0,hi,hz0,hz1,hz2⟩:=info_parts Xaf
 refine Jc hI (λh hh ihc ihk w hA=>?_)
 obtain⟨nb,c,h0,hm,hc,-,-,-,hN⟩:=hA.look
 obtain⟨p1,p2,kv,av,F,hK,-⟩:=hN h hh
 have HK:Hid (Xy w kv (A.get h).Xc):=Xqh hK.reads
 obtain⟨ka,kc,rfl,-⟩:=HK.out.form
 have c2:=F.c2
 have hx0:(0:Int)<=h:=by omega
 have hx1:h<((A.ns.length+1:Nat):Int):=by omega
 have hx2:h<(A.ns.length:Int)+1:=by omega
 have hkl:=((hI.short hsz).get hh).1
 have HIH:=Xqh (λx(hx:x∈(A.get h).Xc)W(hB:Below w.heap.size w W)=>ihk x hx W (hA.below hB))
 have HBE:=Xqh (ZD hI hh)
 have HLEN:=Xqh (λj=>below_take_len hI hh j)
 have HLK:=Xqh (λx(hx:x∈(A.get h).Xc)=>by have:=Xkb hI x (XF hI hh hx).1;have:=Z3 hI x;show(A.below x).length<=A.ns.length;omega)
 have HI:=Xqh hi
 clear hA hN F hK ihc ihk hI hi hm hc
 generalize(A.get h).Xc=K at*
 go_enter Tryz.func137,Tryz.ntmps137
 go_wp2
 go_loopw [5,6](λout i wr=>∃j:Nat,j<=K.length/\i= .int .i64 j/\Hid (wr.ownsRow w.heap.size 3 1 out ((K.take j).flatMap (λk=>k::A.below k)).length (((K.take j).flatMap (λk=>k::A.below k)).map Xp))/\Hid (Below w.heap.size w wr))(λ_ i _=>K.length-(intOf i).toNat)
 case atStart=>exact⟨0,Nat.zero_le _,rfl,World.ownsRow_nil _ _ _ _,Below.refl _ _⟩
 case round=>obtain⟨j,hj,rfl,hT,hB⟩:=hrel;have g0:=Below.old hB.out h0;have g2:=Below.old hB.out c2;obtain⟨oa,oc,rfl⟩:=X6 hT.out;by_cases hlt:j<K.length;{obtain⟨x,hx⟩:∃x,K[j]?=some x:=⟨_,List.getElem?_eq_getElem hlt⟩;obtain⟨b',o',rfl,-,hcs⟩:=(HK.out.cells (by omega));have d1:=hcs j x hx;have e1:=Below.old hB.out d1;have hwr:w.heap.size<=wr.heap.size:=hB.out.size;have HX:=Xqh hx;have hl1:=HLEN.out j;have hl2:=HLEN.out (j+1);have hst:(K.take (j+1)).flatMap (λk=>k::A.below k)=((K.take j).flatMap (λk=>k::A.below k)++ [x])++A.below x:=by{rw[XeR _ hx];simp};have HST:=Xqh hst;rw[hst]at hl2;simp only[List.length_append,List.length_cons,List.length_nil]at hl2;clear hcs hx hst;generalize(K.take j).flatMap (λk=>k::A.below k)=P at*;go_wp2_with(at_builtin;refine wpList_append_own_at _ rfl _ _ 41 rfl w.heap.size 3 i0 _ 1 8 Tryz.underlying41 HI.out hz0 hz1 hz2 rfl (by decide) _ P.length (P.map Xp) rfl (hT.out.alloc _) ⟨wr.heap.size,0,none⟩ 1 1 [.int .i64 x] rfl rfl ?c1 ?c2 ?c3 ?c4 ?c5 ?_);(case c1=>intro q u hu;rw[Addr.add_mid,Nat.zero_add];exact Yi rfl (by simpa using hu));(case c2=>intro u hu;simp at hu;subst hu;rfl);(case c3=>unfold maxLen;omega);(case c4=>omega);(case c5=>simp;omega);intro v2 w2 hown hgrow _ _;have hB2:Below w.heap.size w w2:=(hB.out.alloc hwr _).grown hgrow (by simp;omega) (λq hq=>(Yx hT.out q hq).1);have e0:=Below.old hB2 h0;have e2:=Below.old hB2 c2;have e3:=Below.old hB2 d1;obtain⟨va,vc,rfl⟩:=X6 hown;have HB2:=Xqh hB2;have HC:=Xqh (HIH.out x (List.mem_of_getElem? HX.out) w2 hB2);have HOW:=Xqh hown;have hlx:=HLK.out x (List.mem_of_getElem? HX.out);clear hB2 hown hgrow g0 g2 e1 hT;go_wp2_with fail;refine HC.out.mono ?_;rintro e w3⟨hB3,v3,rfl,ho3⟩;have hB3':Below w.heap.size w w3:=HB2.out.trans (hB3.mono HB2.out.size);have HO3:=Xqh (Z0 HOW.out hB3);have HB3:=Xqh hB3';have ho0:=YP ho3 (Nat.zero_le _);clear hB3 hB3' ho3 HC HOW;rcases XlX ho0 with⟨rfl,hn,-⟩|⟨g,gc,rfl,hcell⟩;{have hnil:A.below x= []:=List.length_eq_zero_iff.1 hn;rw[hnil,List.append_nil]at HST;clear ho0 hn hnil;go_wp2_with(at_builtin;refine wpList_append_none _ rfl _ _ 41 rfl w.heap.size 3 i0 1 Tryz.underlying41 HI.out _ _ _ rfl HO3.out rfl ?_);go_wp2;go_roundw;(case rel=>exact⟨j+1,hlt,by go_num,by rw[HST.out];simpa[Xp]using HO3,HB3⟩);case measure=>simp[intOf];omega};·have HCE:=Xqh hcell;clear ho0 hcell;go_wp2_with(at_builtin;refine wpList_append_own_at _ rfl _ _ 41 rfl w.heap.size 3 i0 _ 1 8 Tryz.underlying41 HI.out hz0 hz1 hz2 rfl (by decide) (.slice va (P.length+1) vc) (P.length+1) (P.map Xp++ [.int .i64 x]) rfl HO3.out ⟨g,0,none⟩ (A.below x).length gc ((A.below x).map Xp) rfl (by simp) ?e1 ?e2 ?e3 ?e4 ?e5 ?_);(case e1=>intro q u hu;rw[Addr.add_mid,Nat.zero_add];exact HCE.out q u hu);(case e2=>intro u hu;obtain⟨y,-,rfl⟩:=List.mem_map.1 hu;rfl);(case e3=>unfold maxLen;omega);(case e4=>omega);(case e5=>exact HB3.out.size);intro v4 w4 hown4 hgrow4 _ _;have hB4:Below w.heap.size w w4:=HB3.out.grown hgrow4 HB3.out.size (λq hq=>(Yx HO3.out q hq).1);have HB4:=Xqh hB4;obtain⟨ya,yc,rfl⟩:=X6 hown4;have e1:P.length+1+(A.below x).length=(P++ [x]++A.below x).length:=by{simp only[List.length_append,List.length_cons,List.length_nil]};have e2:P.map Xp++(.int .i64 x::(A.below x).map Xp)=(P++ [x]++A.below x).map Xp:=by{simp[Xp]};have HO4:Hid (w4.ownsRow w.heap.size 3 1 (.slice ya (P.length+1+(A.below x).length) yc) (P++ [x]++A.below x).length ((P++ [x]++A.below x).map Xp)):=Xqh (by rw[<-e1,<-e2];exact hown4);clear hB4 hown4 hgrow4 HCE e1 e2;go_wp2;go_roundw;(case rel=>exact⟨j+1,hlt,by go_num,by rw[HST.out];exact HO4,HB4⟩);case measure=>simp[intOf];omega};·have hkl:K.take j=K:=List.take_of_length_le (by omega);have e:(K.take j).flatMap (λk=>k::A.below k)=A.below h:=by{rw[hkl];exact HBE.out.symm};go_wp2;go_ret;exact⟨hB.out,_,rfl,by rw[<-e];exact hT.out⟩
end
section
open Go.RowKit Go.Shelf
theorem Xi6 {w:World}{ll:List Xf}(o:Own w0 B ll w)(v:Value)(l:List OpD)(hv:∀W,Own w0 B ll W->JW W v l){m:Int}(hs:Jj l m)(hm:m<=100):Calls Tryz.prog 42 #[v] w λe w'=>∃b c,e= .returned (.tuple #[.pointer (some ⟨b,0,none⟩),.pointer (some ⟨c,0,none⟩),.bool true])/\Own w0 B (.arena b (Zj l):: .refar c (Zj l)::ll) w':=by
 have hv0:=hv w o
 have HV:=Xqh hv
 obtain⟨av,cv,rfl,hc1,hc2,-⟩:=id hv0
 have HN:=Xqh (Xgv w)
 have HT5:=Xqh (λk(hk:k<=l.length)=>XfA hs hm hk)
 have HSM:=Xqh (Xir hs hm)
 clear hv hv0 hs hm
 go_enter Tryz.func42,Tryz.ntmps42
 go_wp2_with fail
 refine HN.out.mono ?_
 rintro e w1⟨rfl,hw1⟩
 have o1:=o.XgB
 rw[<-hw1]at o1
 have HB:=Xqh (show Below w.heap.size w w1 by rw[hw1];exact Xw _ _)
 clear hw1 HN o
 generalize w.heap.size=ba at*
 go_wp2_with fail
 refine(XlV o1).mono ?_
 rintro e w2⟨rfl,o2⟩
 generalize w1.heap.size+2=bc at*
 have HO:=Xqh o2
 clear o1 o2
 go_wp2
 go_loopw [7](λi wr=>∃k:Nat,k<=l.length/\i= .int .i64 k/\Hid (Own w0 B (.refar bc (Zj (l.take k)):: .arena ba (Zj (l.take k))::ll) wr))(λi _=>l.length-(intOf i).toNat)
 case atStart=>exact⟨0,Nat.zero_le _,rfl,HO.out⟩
 case round=>obtain⟨k,hk,rfl,hT⟩:=hrel;by_cases hlt:k<l.length;{obtain⟨a',c',e',-,-,hc3⟩:=HV.out wr hT.out.drop.drop;simp only[Value.slice.injEq,true_and]at e';obtain⟨rfl,rfl⟩:=e';obtain⟨b1,o1,rfl,hcs⟩:=hc3 (by omega);obtain⟨x,hx⟩:∃x,l[k]?=some x:=⟨_,List.getElem?_eq_getElem hlt⟩;obtain⟨xv,F⟩:=hcs k x hx;have hxat:=F.at';obtain⟨aa,ac,rfl,-⟩:=F.at'.form;obtain⟨c0,c1,c2,c3,c4,c5,c6,c7,c8,c9⟩:=F.facts;obtain⟨q1,-,q2,q3⟩:=HT5.out k hk;obtain⟨-,s2,-⟩:=HSM.out;have hxs:=s2 x (List.mem_of_getElem? hx);have HX:=Xqh (And.intro hx (Xnp hx));have HC:=Xqh (Xm4 hT.out.swap q1 q2 (Nat.le_trans hxs.1 (by omega)) F.at' (Nat.le_trans hxs.2.2.2.1 (by omega)) (λ_=>q3));have HQ:=Xqh (And.intro q1 (And.intro q2 q3));have HXS:=Xqh hxs;clear hcs F q1 q2 q3 s2 hxs hx hT hc3 hxat;go_wp2_with fail;refine HC.out.mono ?_;rintro e w3⟨rfl,o3⟩;clear HC c0 c1 c2 c3 c4 c5 c6 c7 c8 c9;obtain⟨a',c',e',-,-,hc3⟩:=HV.out w3 o3.drop.drop;simp only[Value.slice.injEq,true_and]at e';obtain⟨rfl,rfl⟩:=e';obtain⟨b2,o2',e',hcs⟩:=hc3 (by omega);simp only[Option.some.injEq,Addr.mk.injEq,and_true]at e';obtain⟨rfl,rfl⟩:=e';obtain⟨xv,F⟩:=hcs k x HX.out.1;obtain⟨aa',ac',rfl,-⟩:=F.at'.form;obtain⟨c0,c1,c2,c3,c4,c5,c6,c7,c8,c9⟩:=F.facts;have HC:=Xqh (Xpg o3.swap HQ.out.1 HQ.out.2.1 (Nat.le_trans HXS.out.1 (by omega)) F.at' (Nat.le_trans HXS.out.2.2.2.1 (by omega)) (λ_=>HQ.out.2.2));clear hcs F hc3 o3;unfold Xl;generalize(Ar.Xo (Zj (l.take k)) x).1=R at*;obtain⟨r1,r2⟩:=R;go_wp2_with fail;refine HC.out.mono ?_;rintro e w4⟨rfl,o4⟩;clear HC c0 c1 c2 c3 c4 c5 c6 c7 c8 c9;rw[<-HX.out.2]at o4;have HO4:=Xqh o4;have hr1:(r1 !=r1)=false:=by{simp};have hr2:(r2 !=r2)=false:=by{simp};clear o4;unfold Xl;go_wp2;go_roundw;(case rel=>exact⟨k+1,hlt,by go_num,HO4⟩);case measure=>simp[intOf];omega};·have hkl:l.take k=l:=List.take_of_length_le (by omega);have ho:=hT.out;rw[hkl]at ho;have HO4:=Xqh ho.swap;clear ho hT hkl;go_wp2;exact bodyPost_ret (v:= .tuple #[.pointer (some ⟨ba,0,none⟩),.pointer (some ⟨bc,0,none⟩),.bool true]) (by simp[results,Tryz.f42,go_sem]) rfl ⟨ba,bc,rfl,HO4.out⟩
end
section
open Go.RowKit Go.Shelf
attribute [local go_sem] Oper.semAt_some
def dk0 : Ar := Ar.new
def dk1 : Ar := dk0.Xn false
def dk2 : Ar := (dk1.element 1 1 ⟨#[104, 116, 109, 108]⟩ []).2
def dk3 : Ar := (dk2.element 1 1 ⟨#[112]⟩ []).2
def dk4 : Ar := (dk3.make 1 (Xs ⟨#[97, 98]⟩)).2
def dk5 : Ar := (dk4.make 1 (YT ⟨#[104, 116, 109, 108]⟩ ⟨#[]⟩ ⟨#[]⟩)).2
def dk6 : Ar := (dk5.make 1 Zm).2
def dk7 : Ar := (dk6.XX 6 3 0).2
def dk8 : Ar := (dk7.XX 6 4 0).2
def dk9 : Ar := (dk8.XX 1 2 0).2
def XbE : Ar := (dk9.XX 1 3 0).2
def XbF : Ar := (XbE.XX 1 4 0).2
def XbG : Ar := (XbF.XX 1 5 0).2
def XbH : Ar := (XbG.XX 1 5 2).2
def Jo : Ar := (XbH.XX 2 6 0).2
def Z9 : Ar := (Jo.split 4 1).2
def XaD : Ar := (Z9.normalize 2).2
theorem Xph :(dk6.XX 6 3 0).1=0:=by
 decide+kernel
theorem Xpi :(dk7.XX 6 4 0).1=0:=by
 decide+kernel
theorem Xpj :(dk8.XX 1 2 0).1=0:=by
 decide+kernel
theorem Xpk :(dk9.XX 1 3 0).1=4:=by
 decide+kernel
theorem Xpl :(XbE.XX 1 4 0).1=4:=by
 decide+kernel
theorem Xpm :(XbF.XX 1 5 0).1=4:=by
 decide+kernel
theorem Xpn :(XbG.XX 1 5 2).1=0:=by
 decide+kernel
theorem Xpo :(XbH.XX 2 6 0).1=0:=by
 decide+kernel
theorem Xpp :Jo.YN 2= [3,4]:=by
 decide+kernel
theorem Xpq :Jo.YN 6= []:=by
 decide+kernel
theorem Xpr :(Jo.split 4 1).1=(7,0):=by
 decide+kernel
theorem Xps :Z9.YN 2= [3,4,7]:=by
 decide+kernel
theorem Xpt :Z9.Xbl 2=(⟨#[97,98]⟩,0):=by
 decide+kernel
theorem Xpu :(Z9.normalize 2).1=0:=by
 decide+kernel
theorem Xpv :XaD.YN 2= [3,4]:=by
 decide+kernel
theorem Xpw :Z9.Xk<=9223372036854775807:=by
 decide+kernel
theorem Xpx :(Z9.Zi (Z9.below 2)).length<=140737488355328:=by
 decide+kernel
theorem Xac (h:A.Inv/\A.XB t)(x:OpD)(hx:x.Xb.length<=20)(h1:20<=t)(h2:t<=900):(A.Xo x).2.Inv/\(A.Xo x).2.XB (t+1):=⟨(Xfk h.1 (h.2.mono h2) x hx).1,XeG h.2 x (Nat.le_trans hx h1)⟩
theorem XaE (h:A.Inv/\A.XB t)(a b c:Int)(h1:20<=t)(h2:t<=900):(A.XX a b c).2.Inv/\(A.XX a b c).2.XB (t+1):=Xac h ⟨21,a,b,c,false,0,ByteArray.empty,ByteArray.empty,ByteArray.empty,[]⟩ (Nat.zero_le _) h1 h2
theorem Xpy (h:A.Inv/\A.XB t)(a b:Int)(h1:20<=t)(h2:t<=900):(A.split a b).2.Inv/\(A.split a b).2.XB (t+1):=Xac h ⟨35,a,b,0,false,0,ByteArray.empty,ByteArray.empty,ByteArray.empty,[]⟩ (Nat.zero_le _) h1 h2
theorem Xpz (h:A.Inv/\A.XB t)(a:Int)(h1:20<=t)(h2:t<=900):(A.normalize a).2.Inv/\(A.normalize a).2.XB (t+1):=Xac h ⟨34,a,0,0,false,0,ByteArray.empty,ByteArray.empty,ByteArray.empty,[]⟩ (Nat.zero_le _) h1 h2
theorem XdN {w:World}{b:Nat}(o:Own w0 B l w)(hm:Xf.arena b A∈l)(hS:A.YC)(hy:A.YN h=y):Calls Tryz.prog 33 #[.pointer (some ⟨b,0,none⟩),.int .i64 h] w λe w'=>∃a c,e= .returned (.slice a y.length c)/\Own w0 B (.ints (.slice a y.length c) y::l) w':=by
 subst hy
 exact Xap o hm hS
theorem XpA :dk0.Inv/\dk0.XB 20:=⟨Xen,XcY _⟩
theorem XpB :dk1.Inv/\dk1.XB 21:=Xac XpA ⟨1,0,0,0,false,0,ByteArray.empty,ByteArray.empty,ByteArray.empty,[]⟩ (by decide) (by decide) (by decide)
theorem XpC :dk2.Inv/\dk2.XB 22:=Xac XpB ⟨3,1,0,0,false,1,⟨#[104,116,109,108]⟩,ByteArray.empty,ByteArray.empty,[]⟩ (by decide) (by decide) (by decide)
theorem XpD :dk3.Inv/\dk3.XB 23:=Xac XpC ⟨3,1,0,0,false,1,⟨#[112]⟩,ByteArray.empty,ByteArray.empty,[]⟩ (by decide) (by decide) (by decide)
theorem XpE :dk4.Inv/\dk4.XB 24:=Xac XpD ⟨4,1,0,0,false,0,ByteArray.empty,⟨#[97,98]⟩,ByteArray.empty,[]⟩ (by decide) (by decide) (by decide)
theorem XpF :dk5.Inv/\dk5.XB 25:=Xac XpE ⟨2,1,0,0,false,0,⟨#[104,116,109,108]⟩,⟨#[]⟩,⟨#[]⟩,[]⟩ (by decide) (by decide) (by decide)
theorem Xi7 :dk6.Inv/\dk6.XB 26:=Xac XpF ⟨6,1,0,0,false,0,ByteArray.empty,ByteArray.empty,ByteArray.empty,[]⟩ (by decide) (by decide) (by decide)
theorem Xi8 :dk7.Inv/\dk7.XB 27:=XaE Xi7 6 3 0 (by decide) (by decide)
theorem Xi9 :dk8.Inv/\dk8.XB 28:=XaE Xi8 6 4 0 (by decide) (by decide)
theorem Xja :dk9.Inv/\dk9.XB 29:=XaE Xi9 1 2 0 (by decide) (by decide)
theorem Xjb :XbE.Inv/\XbE.XB 30:=XaE Xja 1 3 0 (by decide) (by decide)
theorem Xjc :XbF.Inv/\XbF.XB 31:=XaE Xjb 1 4 0 (by decide) (by decide)
theorem Xjd :XbG.Inv/\XbG.XB 32:=XaE Xjc 1 5 0 (by decide) (by decide)
theorem Xje :XbH.Inv/\XbH.XB 33:=XaE Xjd 1 5 2 (by decide) (by decide)
theorem XfY :Jo.Inv/\Jo.XB 34:=XaE Xje 2 6 0 (by decide) (by decide)
theorem Xco :Z9.Inv/\Z9.XB 35:=Xpy XfY 4 1 (by decide) (by decide)
theorem XpG :XaD.Inv/\XaD.XB 36:=Xpz Xco 2 (by decide) (by decide)
theorem XpH :dk0.ns.length<=20:=by
 decide+kernel
theorem XpI :dk1.ns.length<=20:=by
 decide+kernel
theorem XpJ :dk2.ns.length<=20:=by
 decide+kernel
theorem XpK :dk3.ns.length<=20:=by
 decide+kernel
theorem XpL :dk4.ns.length<=20:=by
 decide+kernel
theorem XpM :dk5.ns.length<=20:=by
 decide+kernel
theorem XpN :dk6.ns.length<=20:=by
 decide+kernel
theorem XpO :dk7.ns.length<=20:=by
 decide+kernel
theorem XpP :dk8.ns.length<=20:=by
 decide+kernel
theorem XpQ :dk9.ns.length<=20:=by
 decide+kernel
theorem XpR :XbE.ns.length<=20:=by
 decide+kernel
theorem XpS :XbF.ns.length<=20:=by
 decide+kernel
theorem XpT :XbG.ns.length<=20:=by
 decide+kernel
theorem XpU :XbH.ns.length<=20:=by
 decide+kernel
theorem Xjf :Jo.ns.length<=20:=by
 decide+kernel
theorem XfZ :Z9.ns.length<=20:=by
 decide+kernel
theorem XpV :XaD.ns.length<=20:=by
 decide+kernel
theorem Xjg :Jo.YC:=XfY.1.short (Nat.le_trans Xjf (by decide))
theorem XpW :Z9.YC:=Xco.1.short (Nat.le_trans XfZ (by decide))
theorem XpX :XaD.YC:=XpG.1.short (Nat.le_trans XpV (by decide))
theorem XdO (w:World):Calls Tryz.prog 19 #[] w λe w'=>e= .returned (.bool true)/\Below w.heap.size w w':=by
 have HN:=Xqh (Xgv w)
 go_enter Tryz.func19,Tryz.ntmps19
 go_wp2_with fail
 refine HN.out.mono ?_
 rintro e w0⟨rfl,hw1⟩
 have o:=(Own.start w).XgB
 rw[<-hw1]at o
 clear hw1 HN
 have o:Own w w.heap.size [.arena w.heap.size dk0] w0:=o
 obtain⟨g,hg⟩:∃g,w.heap.size=g:=⟨_,rfl⟩
 rw[show(Xf.arena w.heap.size dk0)=Xf.arena g dk0 by(rw[hg])]at o
 rw[show(Value.pointer (some (⟨w.heap.size,0,none⟩:Addr)))=Value.pointer (some ⟨g,0,none⟩)by(rw[hg])]
 clear hg
 have HC:=Xqh (o.call (λρ hA=>XbO dk0 ρ g false _ hA (Nat.le_trans XpH (by decide))))
 clear o
 go_wp2_with fail
 refine HC.out.mono ?_
 rintro e w1⟨rfl,o1⟩
 clear HC
 have o:Own w w.heap.size [.arena g dk1] w1:=o1
 clear o1
 generalize w1=w0 at*
 have HC:=Xqh (o.call (λρ hA=>XaO dk1 ρ g 1 1 ⟨#[104,116,109,108]⟩ (.slice none 0 0) [] _ hA (Xfu (b:=0) (l:= []) (World.ownsRow_nil _ 0 132 3)) (Nat.le_trans (Nat.add_le_add_right XpI _) (by decide)) (by decide)))
 clear o
 go_wp2_with fail
 refine HC.out.mono ?_
 rintro e w1⟨rfl,o1⟩
 clear HC
 have o:Own w w.heap.size [.arena g dk2] w1:=o1
 clear o1
 generalize w1=w0 at*
 have HC:=Xqh (o.call (λρ hA=>XaO dk2 ρ g 1 1 ⟨#[112]⟩ (.slice none 0 0) [] _ hA (Xfu (b:=0) (l:= []) (World.ownsRow_nil _ 0 132 3)) (Nat.le_trans (Nat.add_le_add_right XpJ _) (by decide)) (by decide)))
 clear o
 go_wp2_with fail
 refine HC.out.mono ?_
 rintro e w1⟨rfl,o1⟩
 clear HC
 have o:Own w w.heap.size [.arena g dk3] w1:=o1
 clear o1
 generalize w1=w0 at*
 have HC:=Xqh (o.call (λρ hA=>Xbe dk3 ρ g 1 ⟨#[97,98]⟩ _ hA (Nat.le_trans XpK (by decide))))
 clear o
 go_wp2_with fail
 refine HC.out.mono ?_
 rintro e w1⟨rfl,o1⟩
 clear HC
 have o:Own w w.heap.size [.arena g dk4] w1:=o1
 clear o1
 generalize w1=w0 at*
 have HC:=Xqh (o.call (λρ hA=>XcE dk4 ρ g 1 ⟨#[104,116,109,108]⟩ ⟨#[]⟩ ⟨#[]⟩ _ hA (Nat.le_trans XpL (by decide))))
 clear o
 go_wp2_with fail
 refine HC.out.mono ?_
 rintro e w1⟨rfl,o1⟩
 clear HC
 have o:Own w w.heap.size [.arena g dk5] w1:=o1
 clear o1
 generalize w1=w0 at*
 have HC:=Xqh (o.call (λρ hA=>XcF dk5 ρ g 1 _ hA (Nat.le_trans XpM (by decide))))
 clear o
 go_wp2_with fail
 refine HC.out.mono ?_
 rintro e w1⟨rfl,o1⟩
 clear HC
 have o:Own w w.heap.size [.arena g dk6] w1:=o1
 clear o1
 generalize w1=w0 at*
 have HC:=Xqh (Xas (p:=6) (n:=3) o Xi7.1 (Nat.le_trans (Nat.add_le_add_right XpN _) (by decide)))
 rw[Xph]at HC
 clear o
 go_wp2_with fail
 refine HC.out.mono ?_
 rintro e w1⟨rfl,o1⟩
 clear HC
 have o:Own w w.heap.size [.arena g dk7] w1:=o1
 clear o1
 generalize w1=w0 at*
 have HC:=Xqh (Xas (p:=6) (n:=4) o Xi8.1 (Nat.le_trans (Nat.add_le_add_right XpO _) (by decide)))
 rw[Xpi]at HC
 clear o
 go_wp2_with fail
 refine HC.out.mono ?_
 rintro e w1⟨rfl,o1⟩
 clear HC
 have o:Own w w.heap.size [.arena g dk8] w1:=o1
 clear o1
 generalize w1=w0 at*
 have HC:=Xqh (Xas (p:=1) (n:=2) o Xi9.1 (Nat.le_trans (Nat.add_le_add_right XpP _) (by decide)))
 rw[Xpj]at HC
 clear o
 go_wp2_with fail
 refine HC.out.mono ?_
 rintro e w1⟨rfl,o1⟩
 clear HC
 have o:Own w w.heap.size [.arena g dk9] w1:=o1
 clear o1
 generalize w1=w0 at*
 have HC:=Xqh (Xas (p:=1) (n:=3) o Xja.1 (Nat.le_trans (Nat.add_le_add_right XpQ _) (by decide)))
 rw[Xpk]at HC
 clear o
 go_wp2_with fail
 refine HC.out.mono ?_
 rintro e w1⟨rfl,o1⟩
 clear HC
 have o:Own w w.heap.size [.arena g XbE] w1:=o1
 clear o1
 generalize w1=w0 at*
 have HC:=Xqh (Xas (p:=1) (n:=4) o Xjb.1 (Nat.le_trans (Nat.add_le_add_right XpR _) (by decide)))
 rw[Xpl]at HC
 clear o
 go_wp2_with fail
 refine HC.out.mono ?_
 rintro e w1⟨rfl,o1⟩
 clear HC
 have o:Own w w.heap.size [.arena g XbF] w1:=o1
 clear o1
 generalize w1=w0 at*
 have HC:=Xqh (Xas (p:=1) (n:=5) o Xjc.1 (Nat.le_trans (Nat.add_le_add_right XpS _) (by decide)))
 rw[Xpm]at HC
 clear o
 go_wp2_with fail
 refine HC.out.mono ?_
 rintro e w1⟨rfl,o1⟩
 clear HC
 have o:Own w w.heap.size [.arena g XbG] w1:=o1
 clear o1
 generalize w1=w0 at*
 have HC:=Xqh (Xe0 (p:=1) (n:=5) (c:=2) o Xjd.1 (Nat.le_trans (Nat.add_le_add_right XpT _) (by decide)))
 rw[Xpn]at HC
 clear o
 go_wp2_with fail
 refine HC.out.mono ?_
 rintro e w1⟨rfl,o1⟩
 clear HC
 have o:Own w w.heap.size [.arena g XbH] w1:=o1
 clear o1
 generalize w1=w0 at*
 have HC:=Xqh (Xas (p:=2) (n:=6) o Xje.1 (Nat.le_trans (Nat.add_le_add_right XpU _) (by decide)))
 rw[Xpo]at HC
 clear o
 go_wp2_with fail
 refine HC.out.mono ?_
 rintro e w1⟨rfl,o1⟩
 clear HC
 have o:Own w w.heap.size [.arena g Jo] w1:=o1
 clear o1
 generalize w1=w0 at*
 have HC:=Xqh (XdN (b:=g) (A:=Jo) (h:=2) o (by simp) Xjg Xpp)
 clear o
 go_wp2_with fail
 refine HC.out.mono ?_
 rintro e w1⟨ka,kc,rfl,o1⟩
 clear HC
 simp only[List.length_cons,List.length_nil,Nat.zero_add,Nat.reduceAdd]at o1⊢
 have o2:=o1.alloc (.cells #[.int .i64 3,.int .i64 4] 3)
 have HC:=Xqh (XcU (.slice ka 2 kc) (.slice (some ⟨w1.heap.size,0,none⟩) 2 2) [3,4] [3,4] _ (o2.ints (by simp)) (Xbq w1 [3,4] 3 (by decide)))
 rw[show decide (([3,4]:List Int)= [3,4])=true from by{decide}]at HC
 have HO:=Xqh o2
 clear o1 o2
 go_wp2_with fail
 refine HC.out.mono ?_
 rintro e w2⟨rfl,hB⟩
 clear HC
 have o:Own w w.heap.size [.arena g Jo] w2:=(HO.out.read hB).drop.drop
 clear HO hB
 generalize w2=w0 at*
 have HC:=Xqh (XdN (b:=g) (A:=Jo) (h:=6) o (by simp) Xjg Xpq)
 clear o
 go_wp2_with fail
 refine HC.out.mono ?_
 rintro e w1⟨ka,kc,rfl,o1⟩
 clear HC
 simp only[List.length_nil]at o1⊢
 have o:Own w w.heap.size [.arena g Jo] w1:=o1.drop
 clear o1
 generalize w1=w0 at*
 have HC:=Xqh (Xh9 (h:=4) (at':=1) o XfY.1 (Nat.le_trans (Nat.add_le_add_right Xjf _) (by decide)))
 rw[Xpr,show Xl (7,0)= .tuple #[.int .i64 7,.int .i64 0]from rfl]at HC
 clear o
 go_wp2_with fail
 refine HC.out.mono ?_
 rintro e w1⟨rfl,o1⟩
 clear HC
 have o:Own w w.heap.size [.arena g Z9] w1:=o1
 clear o1
 generalize w1=w0 at*
 have HC:=Xqh (Xnw (h:=2) o Xco.1 (Nat.le_trans XfZ (by decide)) Xpx)
 rw[Xpt]at HC
 clear o
 go_wp2_with fail
 refine HC.out.mono ?_
 rintro e w1⟨rfl,o1⟩
 clear HC
 have o:Own w w.heap.size [.arena g Z9] w1:=o1
 clear o1
 generalize w1=w0 at*
 have HC:=Xqh (XdN (b:=g) (A:=Z9) (h:=2) o (by simp) XpW Xps)
 clear o
 go_wp2_with fail
 refine HC.out.mono ?_
 rintro e w1⟨ka,kc,rfl,o1⟩
 clear HC
 simp only[List.length_cons,List.length_nil,Nat.zero_add,Nat.reduceAdd]at o1⊢
 have o2:=o1.alloc (.cells #[.int .i64 3,.int .i64 4,.int .i64 7] 3)
 have HC:=Xqh (XcU (.slice ka 3 kc) (.slice (some ⟨w1.heap.size,0,none⟩) 3 3) [3,4,7] [3,4,7] _ (o2.ints (by simp)) (Xbq w1 [3,4,7] 3 (by decide)))
 rw[show decide (([3,4,7]:List Int)= [3,4,7])=true from by{decide}]at HC
 have HO:=Xqh o2
 clear o1 o2
 go_wp2_with fail
 refine HC.out.mono ?_
 rintro e w2⟨rfl,hB⟩
 clear HC
 have o:Own w w.heap.size [.arena g Z9] w2:=(HO.out.read hB).drop.drop
 clear HO hB
 generalize w2=w0 at*
 have HC:=Xqh (Xia (h:=2) o Xco.1 (Nat.le_trans XfZ (by decide)) (λy hy=>Nat.le_trans (Xmg Xco.1 hy) Xpw))
 rw[Xpu]at HC
 clear o
 go_wp2_with fail
 refine HC.out.mono ?_
 rintro e w1⟨rfl,o1⟩
 clear HC
 have o:Own w w.heap.size [.arena g XaD] w1:=o1
 clear o1
 generalize w1=w0 at*
 have HC:=Xqh (XdN (b:=g) (A:=XaD) (h:=2) o (by simp) XpX Xpv)
 clear o
 go_wp2_with fail
 refine HC.out.mono ?_
 rintro e w1⟨ka,kc,rfl,o1⟩
 clear HC
 simp only[List.length_cons,List.length_nil,Nat.zero_add,Nat.reduceAdd]at o1⊢
 have o2:=o1.alloc (.cells #[.int .i64 3,.int .i64 4] 3)
 have HC:=Xqh (XcU (.slice ka 2 kc) (.slice (some ⟨w1.heap.size,0,none⟩) 2 2) [3,4] [3,4] _ (o2.ints (by simp)) (Xbq w1 [3,4] 3 (by decide)))
 rw[show decide (([3,4]:List Int)= [3,4])=true from by{decide}]at HC
 have HO:=Xqh o2
 clear o1 o2
 go_wp2_with fail
 refine HC.out.mono ?_
 rintro e w2⟨rfl,hB⟩
 clear HC
 have o:Own w w.heap.size [.arena g XaD] w2:=(HO.out.read hB).drop.drop
 clear HO hB
 generalize w2=w0 at*
 have HO:=Xqh o
 clear o
 go_wp2
 go_ret
 exact⟨rfl,HO.out.low⟩
end
section
open Go.RowKit Go.Shelf
end
section
open Go.RowKit Go.Shelf
def attrID (id : ByteArray) (x : Xm) : Bool := decide (x.1 = 0 /\ x.2.1.toList = [105, 100] /\ x.2.2.toList = id.toList)
def Ar.hasID (A : Ar) (id : ByteArray) (x : Int) : Bool := (A.get x).Xb.any (attrID id)
/-- The first node below a node that has an id. -/
def Ar.byID (A : Ar) (h : Int) (id : ByteArray) : Int := if A.has h /\ id ≠ ByteArray.empty then ((A.below h).find? (A.hasID id)).getD 0 else 0
theorem byID_hit {l:List Int}(hx:l[k]?=some x)(hp:A.hasID id x=true)(hno:∀(j:Nat)y,j<k->l[j]?=some y->A.hasID id y=false):l.find? (A.hasID id)=some x:=by
 rw[List.find?_eq_some_iff_getElem]
 obtain⟨hk,e⟩:=List.getElem?_eq_some_iff.1 hx
 refine⟨hp,k,hk,e,λj hj=>?_⟩
 have:=hno j l[j] hj (List.getElem?_eq_getElem (by omega))
 simpa using this
theorem byID_none {l:List Int}(hno:∀(j:Nat)y,l[j]?=some y->A.hasID id y=false):l.find? (A.hasID id)=none:=by
 rw[List.find?_eq_none]
 intro x hx
 obtain⟨j,hj,rfl⟩:=List.getElem_of_mem hx
 simpa using hno j _ (List.getElem?_eq_getElem hj)
theorem RByID_own {w:World}{b:Nat}(o:Own w0 B L w)(hm:Xf.refar b A∈L)(hI:A.Inv)(hsz:A.ns.length<=100000):Calls Tryz.prog 69 #[.pointer (some ⟨b,0,none⟩),.int .i64 h,.string id] w λe w'=>e= .returned (.int .i64 (A.byID h id))/\Below w.heap.size w w':=by
 have HH:=Xqh (ZG (h:=h) o hm)
 have HF:Hid (A.byID h id=if A.has h/\id≠ByteArray.empty then((A.below h).find? (A.hasID id)).getD 0 else 0):=Xqh rfl
 by_cases hh:A.has h
 case neg=>replace HF:=Xqh (HF.out.trans (if_neg (λq=>hh q.1)));rw[decide_eq_false hh]at HH;clear hI o hm hh;generalize A.byID h id=G at*;go_enter Tryz.func69,Tryz.ntmps69;go_wp2_with fail;refine HH.out.mono ?_;rintro e w1⟨rfl,rfl⟩;go_wp2;go_ret;exact⟨by rw[HF.out];try rfl,Below.refl _ _⟩
 case pos=>rw[decide_eq_true hh]at HH;have y0:=Xck (s:=id);by_cases he:id=ByteArray.empty;(case pos=>replace HF:=Xqh (HF.out.trans (if_neg (λq=>q.2 he)));rw[decide_eq_true he]at y0;clear hI o hm hh he;generalize A.byID h id=G at*;go_enter Tryz.func69,Tryz.ntmps69;go_wp2_with fail;refine HH.out.mono ?_;rintro e w1⟨rfl,rfl⟩;go_wp2;go_ret;exact⟨by rw[HF.out];try rfl,Below.refl _ _⟩);case neg=>replace HF:=Xqh (HF.out.trans (if_pos ⟨hh,he⟩));rw[decide_eq_false he]at y0;obtain⟨ρ,hA⟩:=o.refar hm;have HBE:=Xqh (RBelow5_any A ρ b hI (by omega) h hh w hA);have HA:=Xqh (λW(hB:Below w.heap.size w W)=>hA.below hB);have HIN:=Xqh (λx(hx:x∈A.below h)=>(Zt hI h hh x hx).1);have hlen:(A.below h).length<=100000:=by{have:=Xkb hI h hh;have:=Z3 hI h;omega};have HS:=Xqh (hI.short (show A.ns.length<=1000000 by omega));clear hI o hm hh he hA;generalize A.byID h id=G at*;generalize A.below h=l at*;go_enter Tryz.func69,Tryz.ntmps69;go_wp2_with fail;refine HH.out.mono ?_;rintro e w1⟨rfl,rfl⟩;go_wp2_with fail;refine HBE.out.mono ?_;rintro e w1⟨hB1,v1,rfl,ho1⟩;have HB1:=Xqh hB1;have HRL:=Xqh (Xeu (YP ho1 (Nat.zero_le _)));obtain⟨va,vc,rfl⟩:=X6 ho1;clear hB1 ho1 HBE HH;go_wp2;go_loopw [8](λi wr=>∃k:Nat,k<=l.length/\i= .int .i64 k/\Hid (∀(j:Nat)y,j<k->l[j]?=some y->A.hasID id y=false)/\Hid (Below w1.heap.size w1 wr))(λi _=>l.length-(intOf i).toNat);(case atStart=>exact⟨0,Nat.zero_le _,rfl,Xqh (λj y hj=>by omega),Xqh (Below.refl _ _)⟩);case round=>obtain⟨k,hk,rfl,hT,hB⟩:=hrel;by_cases hlt:k<l.length;{obtain⟨x,hx⟩:∃x,l[k]?=some x:=⟨_,List.getElem?_eq_getElem hlt⟩;obtain⟨b',o',rfl,-,hcs⟩:=(HRL.out.below hB.out).cells (by omega);have e1:=hcs k x hx;have hxx:=HIN.out x (List.mem_of_getElem? hx);have hBw:Below w.heap.size w wr:=HB1.out.trans (hB.out.mono HB1.out.size);obtain⟨nb2,cc2,g0,g1,g2,-,-,-,gN⟩:=(HA.out _ hBw).look;obtain⟨r1,r2,kv2,av2,F,hK,hAt⟩:=gN x hxx;have HK2:=Xqh (show Xy wr kv2 (A.get x).Xc from hK.reads);have HT2:=Xqh (show XE wr av2 (A.get x).Xb from hAt.reads);obtain⟨ka,kc,rfl,-⟩:=HK2.out.form;obtain⟨aa,ac,rfl,-⟩:=HT2.out.form;have y0':=F.c0;have y1:=F.c1;have y2:=F.c2;have y3:=F.c3;have y4:=F.c4;have y5:=F.c5;have y6:=F.c6;have y7:=F.c7;have y8:=F.c8;have y9:=F.c9;have y10:=F.c10;have y11:=F.c11;have y12:=F.c12;have lb:=World.block_lt_of_cell? wr _ g0;have ln:=World.block_lt_of_cell? wr _ y0';have ll:=World.block_lt_of_cell? wr _ e1;dsimp only at lb ln ll;have hy0:(0:Int)<=x:=by{omega};have hy1:x<((A.ns.length+1:Nat):Int):=by{omega};have hy2:x<(A.ns.length:Int)+1:=by{omega};have hal:=(HS.out.get hxx).2;have HX:=Xqh hx;have HBW:=Xqh hBw;have HID:Hid (A.hasID id x=(A.get x).Xb.any (attrID id)):=Xqh rfl;clear hcs hx hxx gN F g1 g2 hK hAt hBw;generalize A.get x=n at*;go_upto_region 7 with fail;go_cut [9]from 28 to 37(λq wx=>∃xb:Nat,q= .pointer (some ⟨xb,0,none⟩)/\Hid (YB wx xb 0 n (.slice ka n.Xc.length kc) (.slice aa n.Xb.length ac)/\Below wr.heap.size wr wx));(case first=>go_region;all_goals clear y0' y1 y2 y3 y4 y5 y6 y7 y8 y9 y10 y11 y12;go_wp2_with fail;go_meet;exact⟨_,rfl,Xn7 wr n (.slice ka n.Xc.length kc) (.slice aa n.Xb.length ac) 46⟩);case rest=>obtain⟨xb,rfl,hc3⟩:=hcut;obtain⟨hX,hB3⟩:=hc3.out;obtain⟨W3,hW3⟩:∃W3,W3=wc:=⟨_,rfl⟩;subst hW3;have HB3:=Xqh hB3;have x6:=hX.c6;simp only[Nat.zero_add]at x6;have e3:=Below.old hB3 e1;have HT3:=Xqh (HT2.out.below hB3);have HBF:=Xqh (HBW.out.trans (hB3.mono HBW.out.size));have HBR:=Xqh (hB.out.trans (hB3.mono hB.out.size));clear y0' y1 y2 y3 y4 y5 y6 y7 y8 y9 y10 y11 y12 g0 hc3 hX hB3 e1 lb ln ll HK2 HT2 hB;go_wp2;go_loop [10](λi=>∃q:Nat,q<=n.Xb.length/\i= .int .i64 q/\Hid (∀(j:Nat)y,j<q->n.Xb[j]?=some y->attrID id y=false))(λi=>n.Xb.length-(intOf i).toNat);(case atStart=>exact⟨0,Nat.zero_le _,rfl,Xqh (λj y hj=>by omega)⟩);case round=>obtain⟨q,hq,rfl,hU⟩:=hrel;by_cases hlt2:q<n.Xb.length;{obtain⟨y,hy⟩:∃y,n.Xb[q]?=some y:=⟨_,List.getElem?_eq_getElem hlt2⟩;obtain⟨b2,o2,rfl,-,hcs2⟩:=HT3.out.cells (by omega);obtain⟨d1,d2,d3⟩:=hcs2 q y hy;have HY:=Xqh hy;clear hcs2 hy;obtain⟨ys,yn,yv⟩:=y;dsimp only at d1 d2 d3;by_cases t1:ys=0;(case neg=>have HM:Hid (∀(j:Nat)y,j<q+1->n.Xb[j]?=some y->attrID id y=false):=Xqh (λj y hj he=>by by_cases hjq:j<q;{exact hU.out j y hjq he};·rw[show j=q by(omega),HY.out]at he;simp only[Option.some.injEq]at he;rw[<-he];exact decide_eq_false (λz=>t1 z.1));clear hU hT;go_wp2;go_round;(case rel=>exact⟨q+1,hlt2,by go_num,HM⟩);case measure=>simp[intOf];omega);case pos=>by_cases t2:yn.toList= [105,100];(case neg=>have HM:Hid (∀(j:Nat)y,j<q+1->n.Xb[j]?=some y->attrID id y=false):=Xqh (λj y hj he=>by by_cases hjq:j<q;{exact hU.out j y hjq he};·rw[show j=q by(omega),HY.out]at he;simp only[Option.some.injEq]at he;rw[<-he];exact decide_eq_false (λz=>t2 z.2.1));clear hU hT;go_wp2;go_round;(case rel=>exact⟨q+1,hlt2,by go_num,HM⟩);case measure=>simp[intOf];omega);case pos=>by_cases t3:yv.toList=id.toList;(case neg=>have HM:Hid (∀(j:Nat)y,j<q+1->n.Xb[j]?=some y->attrID id y=false):=Xqh (λj y hj he=>by by_cases hjq:j<q;{exact hU.out j y hjq he};·rw[show j=q by(omega),HY.out]at he;simp only[Option.some.injEq]at he;rw[<-he];exact decide_eq_false (λz=>t3 z.2.2));clear hU hT;go_wp2;go_round;(case rel=>exact⟨q+1,hlt2,by go_num,HM⟩);case measure=>simp[intOf];omega);case pos=>have hit:A.hasID id x=true:=by{rw[HID.out,List.any_eq_true];exact⟨_,List.mem_of_getElem? HY.out,decide_eq_true ⟨t1,t2,t3⟩⟩};have HR:=Xqh (byID_hit HX.out hit hT.out);rw[HR.out]at HF;clear hit HR hU hT;go_wp2;go_ret;exact⟨by rw[HF.out];try rfl,HBF.out⟩};·have hno:A.hasID id x=false:=by{rw[HID.out,List.any_eq_false];intro y hy;obtain⟨j,hj,rfl⟩:=List.getElem_of_mem hy;simpa using hU.out j _ (by omega) (List.getElem?_eq_getElem hj)};have HNX:Hid (∀(j:Nat)y,j<k+1->l[j]?=some y->A.hasID id y=false):=Xqh (λj y hj he=>by by_cases hjk:j<k;{exact hT.out j y hjk he};·rw[show j=k by(omega),HX.out]at he;simp at he;rw[<-he];exact hno);clear hno hU hT;go_wp2;go_roundw;(case rel=>exact⟨k+1,hlt,by go_num,HNX,HBR⟩);case measure=>simp[intOf];omega};·have hn:l.find? (A.hasID id)=none:=byID_none (λj y hj=>hT.out j y (by have:=(List.getElem?_eq_some_iff.1 hj).1;omega) hj);rw[hn]at HF;have HBW:=Xqh (HB1.out.trans (hB.out.mono HB1.out.size));clear hn hT;go_wp2;go_ret;exact⟨by rw[HF.out];try rfl,HBW.out⟩
end
section
open Go.RowKit Go.Shelf Classical
attribute [local go_sem] Oper.semAt_some
theorem attrID_any (ib:Nat)(id:ByteArray)(y:Xm)(w:World)(h0:w.cell? ⟨ib,0,none⟩=some (.string id)):Calls Tryz.prog 143 #[XcC y,.pointer (some ⟨ib,0,none⟩)] w λe w'=>e= .returned (.bool (attrID id y))/\Below w.heap.size w w':=by
 obtain⟨ys,yn,yv⟩:=y
 have hlt:=World.block_lt_of_cell? w _ h0
 unfold XcC
 by_cases e1:ys=0
 ·have he:(ys==0)=true:=by{simp[e1]};by_cases e2:yn.toList= [105,100];{have he2:(yn.toList== [105,100])=true:=by{simp[e2]};have hfin:attrID id (ys,yn,yv)=(yv.toList==id.toList):=by{unfold attrID;simp[e1,e2];exact Bool.eq_iff_iff.2 (by simp)};have Hfin:=Xqh hfin;clear hfin e1 e2;go_enter Tryz.func143,Tryz.ntmps143;go_wp2;go_ret;exact⟨XW Hfin.out.symm,Xw _ _⟩};·have he2:(yn.toList== [105,100])=false:=by{simp[e2]};have hfin:attrID id (ys,yn,yv)=false:=by{unfold attrID;simp[e1,e2]};have Hfin:=Xqh hfin;clear hfin e1 e2;go_enter Tryz.func143,Tryz.ntmps143;go_wp2;go_ret;exact⟨XW Hfin.out.symm,Xw _ _⟩
 ·have he:(ys==0)=false:=by{simp[e1]};have hfin:attrID id (ys,yn,yv)=false:=by{unfold attrID;simp[e1]};have Hfin:=Xqh hfin;clear hfin e1;go_enter Tryz.func143,Tryz.ntmps143;go_wp2;go_ret;exact⟨XW Hfin.out.symm,Xw _ _⟩
theorem IndexID_any (v:Value)(l:List Xm)(ib:Nat)(id:ByteArray)(w:World)(hv:XE w v l)(h0:w.cell? ⟨ib,0,none⟩=some (.string id)):Calls Tryz.prog 173 #[v,.func (.func 143) #[] #[.pointer (some ⟨ib,0,none⟩)]] w λe w'=>e= .returned (.int .i64 (Yt (attrID id) l))/\Below w.heap.size w w':=by
 obtain⟨av,cv,rfl,hc1,hc2,hc3⟩:=hv.form
 go_enter Tryz.func173,Tryz.ntmps173
 go_wp2
 go_loopw [8](λi wr=>∃k:Nat,k<=l.length/\i= .int .i64 k/\Hid (∀j y,j<k->l[j]?=some y->attrID id y=false)/\Below w.heap.size w wr)(λi _=>l.length-(intOf i).toNat)
 case atStart=>exact⟨0,Nat.zero_le _,rfl,λj y hj=>by omega,Below.refl _ _⟩
 case round=>obtain⟨k,hk,rfl,hT,hB⟩:=hrel;by_cases hlt:k<l.length;{obtain⟨b1,o1,rfl,hcs⟩:=hc3 (by omega);obtain⟨y,hy⟩:∃y,l[k]?=some y:=⟨_,List.getElem?_eq_getElem hlt⟩;obtain⟨d0,d1,d2⟩:=hcs k y hy;have d0:=Below.old hB d0;have d1:=Below.old hB d1;have d2:=Below.old hB d2;have g0:=Below.old hB h0;have HY:=Xqh hy;clear hc3 hcs hy;cases hp:attrID id y with|true=>{have HP:=Xqh hp;clear hp;go_wp2_with fail;refine(attrID_any ib id y _ g0).mono ?_;rintro e w1⟨rfl,hB1⟩;rw[HP.out];go_wp2;go_ret;exact⟨Zd (Xbc HY.out HP.out hT.out).symm,Below.Yb hB hB1⟩}|false=>have HP:=Xqh hp;clear hp;go_wp2_with fail;refine(attrID_any ib id y _ g0).mono ?_;rintro e w1⟨rfl,hB1⟩;rw[HP.out];go_wp2;go_roundw;(case rel=>exact⟨k+1,hlt,by go_num,λj z hj hz=>by by_cases hjk:j<k;{exact hT.out j z hjk hz};·have hjk:j=k:=by{omega};rw[hjk,HY.out]at hz;cases hz;exact HP.out,Below.Yb hB hB1⟩);case measure=>simp[intOf];omega};·go_wp2;go_ret;exact⟨Zd (JT (λj y hj=>hT.out j y (by have:=(List.getElem?_eq_some_iff.1 hj).1;omega) hj)).symm,hB⟩
theorem ContainsID_any (v:Value)(l:List Xm)(ib:Nat)(id:ByteArray)(w:World)(hv:XE w v l)(h0:w.cell? ⟨ib,0,none⟩=some (.string id)):Calls Tryz.prog 142 #[v,.func (.func 143) #[] #[.pointer (some ⟨ib,0,none⟩)]] w λe w'=>e= .returned (.bool (l.any (attrID id)))/\Below w.heap.size w w':=by
 have HI:=Xqh (IndexID_any v l ib id w hv h0)
 have HF:=Xqh (Xd2 (attrID id) l)
 clear hv h0
 generalize Yt (attrID id) l=f at*
 generalize l.any (attrID id)=r at*
 go_enter Tryz.func142,Tryz.ntmps142
 go_wp2_with fail
 refine HI.out.mono ?_
 rintro e w1⟨rfl,hB1⟩
 have HB:=Xqh hB1
 clear hB1
 go_wp2
 go_ret
 exact⟨XW HF.out,HB.out⟩
theorem find_none {l:List Int}{p:Int->Bool}(h:∀x∈l,p x=false):l.find? p=none:=by
 rw[List.find?_eq_none]
 intro x hx
 rw[h x hx]
 decide
theorem find_at {l pre rest:List Int}{p:Int->Bool}(e:l=pre++x::rest)(h:∀y∈pre,p y=false)(hx:p x=true):l.find? p=some x:=by
 rw[e,List.find?_append,find_none h]
 simp[hx]
theorem ByID_own {w:World}{b:Nat}(o:Own w0 B L w)(hm:Xf.arena b A∈L)(hI:A.Inv)(hs:A.ns.length<=100000):Calls Tryz.prog 68 #[.pointer (some ⟨b,0,none⟩),.int .i64 h,.string id] w λe w'=>e= .returned (.int .i64 (A.byID h id))/\Own w0 B L w':=by
 have HS:=hI.short (show A.ns.length<=1000000 by omega)
 have o1:=((o.alloc (.cells #[.pointer (some ⟨b,0,none⟩)] 23)).alloc (.cells #[.string id] 9)).alloc (.cells #[.int .i64 0] 3)
 simp only[World.size_alloc]at o1
 have HF:Hid (A.byID h id=if A.has h/\id≠ByteArray.empty then((A.below h).find? (A.hasID id)).getD 0 else 0):=Xqh rfl
 have q0:=XD (o1.box (g:=w.heap.size) (o:= .cells #[.pointer (some ⟨b,0,none⟩)] 23 (0,0)) (by simp))
 have y0:=Xck (s:=id)
 by_cases hh:A.has h
 case neg=>have HC1:=Xqh (Zz (opt:= -1) (x:=h) o1 (b:=b) (A:=A) (by simp[hm]) HS (Zy.trans (if_neg hh)));simp only[World.size_alloc]at HC1;replace HF:=Xqh (HF.out.trans (if_neg (λq=>hh q.1)));clear hI o o1 hh HS y0;generalize A.byID h id=G at*;go_enter Tryz.func68,Tryz.ntmps68;go_wp2_with fail;refine HC1.out.mono ?_;rintro e w1⟨rfl,o1⟩;have k2:=XD (o1.box (g:=w.heap.size+1+1) (o:= .cells #[.int .i64 0] 3 (0,0)) (by simp));have f2:=Xbf (o1.box (g:=w.heap.size+1+1) (o:= .cells #[.int .i64 0] 3 (0,0)) (by simp));have h2:=XD (one_setCell (u:= .int .i64 0) (o1.box (g:=w.heap.size+1+1) (o:= .cells #[.int .i64 0] 3 (0,0)) (by simp)));have HO:=Xqh ((o1.J4 (u:= .int .i64 0)).drop.drop.drop);clear q0 HC1 o1;go_wp2;rw[HF.out];refine bodyPost_ret (v:= .int .i64 0) (by simp[results,Tryz.f68,go_sem,h2]) rfl ⟨rfl,HO.out⟩
 case pos=>have HC1:=Xqh (Zz (opt:= -1) (x:=h) o1 (b:=b) (A:=A) (by simp[hm]) HS (Zy.trans (if_pos hh)));simp only[World.size_alloc]at HC1;by_cases he:id=ByteArray.empty;(case pos=>replace HF:=Xqh (HF.out.trans (if_neg (λq=>q.2 he)));rw[decide_eq_true he]at y0;clear hI o o1 hh HS he;generalize A.byID h id=G at*;go_enter Tryz.func68,Tryz.ntmps68;go_wp2_with fail;refine HC1.out.mono ?_;rintro e w1⟨rfl,o1⟩;have q1:=XD (o1.box (g:=w.heap.size+1) (o:= .cells #[.string id] 9 (0,0)) (by simp));have k2:=XD (o1.box (g:=w.heap.size+1+1) (o:= .cells #[.int .i64 0] 3 (0,0)) (by simp));have f2:=Xbf (o1.box (g:=w.heap.size+1+1) (o:= .cells #[.int .i64 0] 3 (0,0)) (by simp));have h2:=XD (one_setCell (u:= .int .i64 0) (o1.box (g:=w.heap.size+1+1) (o:= .cells #[.int .i64 0] 3 (0,0)) (by simp)));have HO:=Xqh ((o1.J4 (u:= .int .i64 0)).drop.drop.drop);clear q0 HC1 o1;go_wp2;rw[HF.out];refine bodyPost_ret (v:= .int .i64 0) (by simp[results,Tryz.f68,go_sem,h2]) rfl ⟨rfl,HO.out⟩);case neg=>replace HF:=Xqh (HF.out.trans (if_pos ⟨hh,he⟩));rw[decide_eq_false he]at y0;have HN:=Xqh (fun(x:Int)(hx:A.has x)(n:Nd)(hn:A.get x=n)(l:List Xf)W(q:Own w0 B l W)(hm:Xf.arena b A∈l)=>Xmq (b:=b) (A:=A) q hm HS hx hn);have HBM:=Xqh (λx(hx:x∈A.below h)=>(Zt hI h hh x hx).1);have HTR:Hid (A.Tree A/\A.Inv/\A.ns.length<=1000000):=Xqh ⟨Ar.Tree.refl _,hI,by omega⟩;have hseq:=fun(ab hb:Nat)=>XeW (ab:=ab) (hb:=hb) (b:=b) hI hs hh w0 B 7;clear hI o o1 he HS;generalize A.byID h id=G at*;refine(callsIn_wide (n:=8)).1 ?_;refine callsIn_of_wp_marks Tryz.func68 rfl trivial ?_ rfl;simp only[Tryz.ntmps68,List.size_toArray,List.length_cons,List.length_nil,Nat.reduceAdd,Nat.reduceSub,Array.replicate_succ,Array.replicate_zero,List.push_toArray,List.append_toArray,List.nil_append,List.cons_append];refine wpIn_wide.2 ?_;go_wp2_with fail;refine HC1.out.mono ?_;rintro e w1⟨rfl,o1⟩;clear q0 HC1;have q0:=XD (o1.box (g:=w.heap.size) (o:= .cells #[.pointer (some ⟨b,0,none⟩)] 23 (0,0)) (by simp));have q1:=XD (o1.box (g:=w.heap.size+1) (o:= .cells #[.string id] 9 (0,0)) (by simp));go_wp2_with fail;refine(XeV b h _).mono ?_;rintro e w6⟨rfl,rfl⟩;have o7:=(o1.alloc (.cells #[.pointer (some ⟨b,0,none⟩)] 23)).alloc (.cells #[.int .i64 h] 3);simp only[World.size_alloc]at o7;have hseq:=hseq w1.heap.size (w1.heap.size+1);clear o1 q0 q1 y0;go_wp2_with fail;refine wpIn_wide.1 (XeP (n:=8) (α:=Int) rfl (by omega) (gf:=181) (lb:= #[.pointer (some ⟨w1.heap.size,0,none⟩),.pointer (some ⟨w1.heap.size+1,0,none⟩)]) rfl trivial (enters_of Tryz.func181 (by kernel_rfl) rfl) (Rd:=Xbn A b w1.heap.size (w1.heap.size+1) h) XeU hseq (λ_=>rfl) o7 (λpre L'=>(∀y∈pre,A.hasID id y=false)/\L'= .box (w1.heap.size+1) (.cells #[.int .i64 h] 3 (0,0)):: .box w1.heap.size (.cells #[.pointer (some ⟨b,0,none⟩)] 23 (0,0)):: .box (w.heap.size+1+1) (.cells #[.int .i64 0] 3 (0,0)):: .box (w.heap.size+1) (.cells #[.string id] 9 (0,0)):: .box w.heap.size (.cells #[.pointer (some ⟨b,0,none⟩)] 23 (0,0))::L) (λc pre L'=>c= .ret/\L'= .box (w1.heap.size+1) (.cells #[.int .i64 h] 3 (0,0)):: .box w1.heap.size (.cells #[.pointer (some ⟨b,0,none⟩)] 23 (0,0)):: .box (w.heap.size+1+1) (.cells #[.int .i64 G] 3 (0,0)):: .box (w.heap.size+1) (.cells #[.string id] 9 (0,0)):: .box w.heap.size (.cells #[.pointer (some ⟨b,0,none⟩)] 23 (0,0))::L) ?hLR ⟨by simp,rfl⟩ ?a1 ?assign ?body ?done ?stop);(case assign=>intro l' x W' K hK;gi_wp2;exact hK);(case hLR=>rintro pre L'⟨-,rfl⟩;exact⟨by simp,by simp,_,by simp[hm],HTR.out⟩);(case body=>rintro l' G' f pre x W' L'⟨rest,hrest⟩⟨hpre,rfl⟩o;have q0:=XD (o.box (g:=w.heap.size) (o:= .cells #[.pointer (some ⟨b,0,none⟩)] 23 (0,0)) (by simp));have hxA:=HBM.out x (by rw[hrest];simp);obtain⟨xn,hxn⟩:∃xn,A.get x=xn:=⟨_,rfl⟩;have HNX:=Xqh (HN.out x hxA xn hxn _ W' o (by simp[hm]));have HHIT:Hid (xn.Xb.any (attrID id)=true->G=x):=Xqh (λq=>by have hq:A.hasID id x=true:=by{unfold Ar.hasID;rw[hxn];exact q};rw[HF.out,find_at (l:=A.below h) (pre:=pre) (rest:=rest) (by rw[hrest];simp) hpre hq];rfl);have HMISS:Hid (xn.Xb.any (attrID id)=false->∀y∈pre++ [x],A.hasID id y=false):=Xqh (λq y hy=>by rcases List.mem_append.1 hy with hy|hy;{exact hpre y hy};·simp at hy;subst hy;unfold Ar.hasID;rw[hxn];exact q);clear o hpre hrest hseq o7 hxA hxn HN HBM HTR;gi_wp2_with fail;refine⟨trivial,?_⟩;refine(CallsIn.inRound l' (callsIn_wide.2 HNX.out)).mono ?_;rintro e w6⟨ka,klx,kc,aa,ac,rfl,o6⟩;clear HNX q0;have HT:=Xqh (XV (w:=w6) xn ka kc aa ac klx xn.Xb.length);have o7:=o6.XU xn (.slice ka klx kc) (.slice aa xn.Xb.length ac);gi_wp2_with((with_reducible refine Xit ?_ 46 (.tmp 8) (.tmp 27) ?_ w6.heap.size 0 (xn.cells (.slice ka klx kc) (.slice aa xn.Xb.length ac)).toArray ?_ ?_ ?_ ?_ ?_ ?_);exact rfl;exact rfl;exact rfl;exact rfl;exact HT.out.1;exact XM _ _ _;exact all_oneCell_toArray HT.out.2;clear HT;generalize hw5:World.setCells _ _ _ _=w7 at o7⊢;generalize hg5:w6.heap.size=g7 at o7⊢;clear hw5 hg5;have k6:w7.cell? ⟨g7,6,none⟩=some (.slice aa xn.Xb.length ac):=(cell_of_row w7 _ _ _ _ _ (o7.box (g:=g7) (o:= .cells (xn.cells (.slice ka klx kc) (.slice aa xn.Xb.length ac)).toArray 46 (0,0)) (by simp))).trans rfl;have q1:=XD (o7.box (g:=w.heap.size+1) (o:= .cells #[.string id] 9 (0,0)) (by simp));have HCT:=Xqh (ContainsID_any (.slice aa xn.Xb.length ac) xn.Xb (w.heap.size+1) id w7 (o7.atts (v:= .slice aa xn.Xb.length ac) (x:=xn.Xb) (by simp)) q1);have HO7:=Xqh o7;clear o7 q1);refine⟨trivial,?_⟩;refine(CallsIn.inRound l' (callsIn_wide.2 HCT.out)).mono ?_;rintro e w8⟨rfl,hB8⟩;have o8:=(HO7.out.read hB8).drop.drop;clear HCT HO7 hB8;have k2:=XD (o8.box (g:=w.heap.size+1+1) (o:= .cells #[.int .i64 0] 3 (0,0)) (by simp));have f2:=Xbf (o8.box (g:=w.heap.size+1+1) (o:= .cells #[.int .i64 0] 3 (0,0)) (by simp));cases hp:xn.Xb.any (attrID id)with|true=>{have HV:=Xqh (HHIT.out hp);have HK:=Xqh (((o8.pick 3 rfl).J4 (u:= .int .i64 x)).lay (l:= .keep G' f:: .box (w1.heap.size+1) (.cells #[.int .i64 h] 3 (0,0)):: .box w1.heap.size (.cells #[.pointer (some ⟨b,0,none⟩)] 23 (0,0)):: .box (w.heap.size+1+1) (.cells #[.int .i64 x] 3 (0,0)):: .box (w.heap.size+1) (.cells #[.string id] 9 (0,0)):: .box w.heap.size (.cells #[.pointer (some ⟨b,0,none⟩)] 23 (0,0))::L) 3 rfl rfl);clear o8 HHIT HMISS HF hp;gi_wp2;exact⟨_,⟨rfl,by rw[HV.out]⟩,HK.out⟩}|false=>have HN:=Xqh (HMISS.out hp);have HK:=Xqh o8;clear o8 HHIT HMISS HF hp;gi_wp2;exact⟨_,⟨HN.out,rfl⟩,HK.out⟩);(case done=>rintro xs W' L' rfl⟨hpre,rfl⟩o;simp only[World.size_alloc]at o;have hv:G=0:=by{rw[HF.out,find_none hpre];rfl};have k2:=XD (o.box (g:=w.heap.size+1+1) (o:= .cells #[.int .i64 0] 3 (0,0)) (by simp));have f2:=Xbf (o.box (g:=w.heap.size+1+1) (o:= .cells #[.int .i64 0] 3 (0,0)) (by simp));have oo:=((o.pick 3 rfl).J4 (u:= .int .i64 0)).lay (l:= .box (w1.heap.size+1+1) (.deferred (some [])):: .box (w1.heap.size+1) (.cells #[.int .i64 h] 3 (0,0)):: .box w1.heap.size (.cells #[.pointer (some ⟨b,0,none⟩)] 23 (0,0)):: .box (w.heap.size+1+1) (.cells #[.int .i64 0] 3 (0,0)):: .box (w.heap.size+1) (.cells #[.string id] 9 (0,0)):: .box w.heap.size (.cells #[.pointer (some ⟨b,0,none⟩)] 23 (0,0))::L) 3 rfl rfl;have hD:=oo.box (g:=w1.heap.size+1+1) (o:= .deferred (some [])) (by simp);have o20:=oo.Xak (ZT (.deferred none) rfl) (World.putObj_heap_same (lt_of_block hD));have h2:=XD (o20.box (g:=w.heap.size+1+1) (o:= .cells #[.int .i64 0] 3 (0,0)) (by simp));have HO:=Xqh o20.drop.drop.drop.drop.drop.drop;clear o oo o20 hseq o7 HF HN HBM HTR hpre;go_wp2;simp only[World.size_alloc];refine⟨by simp,.inl ⟨_,_,rfl,run_takeDeferred hD,?_⟩⟩;refine⟨.int .i64 0,by simp[results,Tryz.f68,go_sem,h2],?_⟩;exact⟨by rw[hv],HO.out⟩);case stop=>rintro c pre W' L'-⟨rfl,rfl⟩o;simp only[World.size_alloc]at o;have hD:=o.box (g:=w1.heap.size+1+1) (o:= .deferred (some [])) (by simp);have o20:=o.Xak (ZT (.deferred none) rfl) (World.putObj_heap_same (lt_of_block hD));have h2:=XD (o20.box (g:=w.heap.size+1+1) (o:= .cells #[.int .i64 G] 3 (0,0)) (by simp));have HO:=Xqh o20.drop.drop.drop.drop.drop.drop;clear o o20 hseq o7 HF HN HBM HTR;gi_wp2;simp only[World.size_alloc];refine⟨by simp,.inl ⟨_,_,rfl,run_takeDeferred hD,?_⟩⟩;refine⟨.int .i64 G,by simp[results,Tryz.f68,go_sem,h2],?_⟩;exact⟨rfl,HO.out⟩
end
section
open Go.RowKit Go.Shelf
def Ar.named (A : Ar) (name : ByteArray) (x : Int) : Bool := decide ((A.get x).Xa = 4 /\ (name.toList = [42] \/ (A.get x).name.toList = (if (A.get x).space = 1 then ZM name else name).toList))
/-- The elements below a node that have a name. -/
def Ar.byName (A : Ar) (h : Int) (name : ByteArray) : List Int := if A.has h then (A.below h).filter (A.named name) else []
theorem named_take {l:List Int}(hx:l[k]?=some x):(l.take (k+1)).filter (A.named name)=(l.take k).filter (A.named name)++(if A.named name x=true then [x]else []):=by
 rw[List.take_add_one,hx,List.filter_append]
 congr 1
 cases h:A.named name x<;>simp[h]
theorem RByName_own {w:World}{b:Nat}(o:Own w0 B L w)(hm:Xf.refar b A∈L)(hI:A.Inv)(hsz:A.ns.length<=100000)(hs:name.size<=1000000):Calls Tryz.prog 67 #[.pointer (some ⟨b,0,none⟩),.int .i64 h,.string name] w λe w'=>Below w.heap.size w w'/\∃v',e= .returned v'/\w'.ownsRow w.heap.size 3 1 v' (A.byName h name).length ((A.byName h name).map Xp):=by
 have HH:=Xqh (ZG (h:=h) o hm)
 have HF:Hid (A.byName h name=if A.has h then(A.below h).filter (A.named name)else []):=Xqh rfl
 by_cases hh:A.has h
 case neg=>replace HF:=Xqh (HF.out.trans (if_neg hh));rw[decide_eq_false hh]at HH;clear hI o hm hh;generalize A.byName h name=G at*;go_enter Tryz.func67,Tryz.ntmps67;go_wp2_with fail;refine HH.out.mono ?_;rintro e w1⟨rfl,rfl⟩;go_wp2;go_ret;exact⟨Below.refl _ _,_,rfl,by rw[HF.out];exact World.ownsRow_nil _ _ _ _⟩
 case pos=>rw[decide_eq_true hh]at HH;replace HF:=Xqh (HF.out.trans (if_pos hh));obtain⟨i0,hi,hz0,hz1,hz2⟩:=info_parts Xaf;have HI:=Xqh hi;obtain⟨ρ,hA⟩:=o.refar hm;have HBE:=Xqh (RBelow5_any A ρ b hI (by omega) h hh w hA);have HA:=Xqh (λW(hB:Below w.heap.size w W)=>hA.below hB);have HIN:=Xqh (λx(hx:x∈A.below h)=>(Zt hI h hh x hx).1);have hlen:(A.below h).length<=100000:=by{have:=Xkb hI h hh;have:=Z3 hI h;omega};have HLO:=Xqh (λW=>XiB name W hs);clear hI o hm hh hA hi;generalize A.byName h name=G at*;generalize A.below h=l at*;go_enter Tryz.func67,Tryz.ntmps67;go_wp2_with fail;refine HH.out.mono ?_;rintro e w1⟨rfl,rfl⟩;go_wp2_with fail;refine HBE.out.mono ?_;rintro e w1⟨hB1,v1,rfl,ho1⟩;have HB1:=Xqh hB1;have HRL:=Xqh (Xeu (YP ho1 (Nat.zero_le _)));obtain⟨va,vc,rfl⟩:=X6 ho1;clear hB1 ho1 HBE HH;go_wp2;go_loopw [7,9](λout i wr=>∃k:Nat,k<=l.length/\i= .int .i64 k/\Hid (wr.ownsRow w1.heap.size 3 1 out ((l.take k).filter (A.named name)).length (((l.take k).filter (A.named name)).map Xp))/\Hid (Below w1.heap.size w1 wr))(λ_ i _=>l.length-(intOf i).toNat);(case atStart=>exact⟨0,Nat.zero_le _,rfl,Xqh (World.ownsRow_nil _ _ _ _),Xqh (Below.refl _ _)⟩);case round=>obtain⟨k,hk,rfl,hT,hB⟩:=hrel;obtain⟨oa,oc,rfl⟩:=X6 hT.out;by_cases hlt:k<l.length;{obtain⟨x,hx⟩:∃x,l[k]?=some x:=⟨_,List.getElem?_eq_getElem hlt⟩;obtain⟨b',o',rfl,-,hcs⟩:=(HRL.out.below hB.out).cells (by omega);have e1:=hcs k x hx;have hxx:=HIN.out x (List.mem_of_getElem? hx);have hBw:Below w.heap.size w wr:=HB1.out.trans (hB.out.mono HB1.out.size);obtain⟨nb2,cc2,g0,g1,g2,-,-,-,gN⟩:=(HA.out _ hBw).look;obtain⟨r1,r2,kv2,av2,F,hK,hAt⟩:=gN x hxx;obtain⟨ka,kc,rfl,-⟩:=(show Xy wr kv2 (A.get x).Xc from hK.reads).form;obtain⟨aa,ac,rfl,-⟩:=(show XE wr av2 (A.get x).Xb from hAt.reads).form;have y0':=F.c0;have y1:=F.c1;have y2:=F.c2;have y3:=F.c3;have y4:=F.c4;have y5:=F.c5;have y6:=F.c6;have y7:=F.c7;have y8:=F.c8;have y9:=F.c9;have y10:=F.c10;have y11:=F.c11;have y12:=F.c12;have lb:=World.block_lt_of_cell? wr _ g0;have ln:=World.block_lt_of_cell? wr _ y0';have ll:=World.block_lt_of_cell? wr _ e1;dsimp only at lb ln ll;have hy0:(0:Int)<=x:=by{omega};have hy1:x<((A.ns.length+1:Nat):Int):=by{omega};have hy2:x<(A.ns.length:Int)+1:=by{omega};have hpl:((l.take k).filter (A.named name)).length<=100000:=Nat.le_trans (List.length_filter_le _ _) (by simp;omega);have HNT:=Xqh (named_take (A:=A) (name:=name) hx);have HND:Hid (A.named name x=decide ((A.get x).Xa=4/\(name.toList= [42]\/(A.get x).name.toList=(if(A.get x).space=1 then ZM name else name).toList))):=Xqh rfl;clear hcs hx hxx gN F g1 g2 hK hAt hBw;generalize A.get x=n at*;generalize A.named name x=nm at*;generalize(l.take k).filter (A.named name)=P at*;go_upto_region 8 with fail;go_cut [10]from 25 to 34(λq wx=>∃xb:Nat,q= .pointer (some ⟨xb,0,none⟩)/\Hid (YB wx xb 0 n (.slice ka n.Xc.length kc) (.slice aa n.Xb.length ac)/\Below wr.heap.size wr wx));(case first=>go_region;all_goals clear y0' y1 y2 y3 y4 y5 y6 y7 y8 y9 y10 y11 y12;go_wp2_with fail;go_meet;exact⟨_,rfl,Xn7 wr n (.slice ka n.Xc.length kc) (.slice aa n.Xb.length ac) 46⟩);case rest=>obtain⟨xb,rfl,hc3⟩:=hcut;obtain⟨hX,hB3⟩:=hc3.out;obtain⟨W3,hW3⟩:∃W3,W3=wc:=⟨_,rfl⟩;subst hW3;have hx4:=hX.c4;have hx0':=hX.c0;have hx5:=hX.c5;simp only[Nat.zero_add]at hx4 hx0' hx5;have e3:=Below.old hB3 e1;have HBR:=Xqh (hB.out.trans (hB3.mono hB.out.size));have HOW:=Xqh (Z0 hT.out hB3);have HL3:=Xqh (HLO.out W3);clear y0' y1 y2 y3 y4 y5 y6 y7 y8 y9 y10 y11 y12 g0 hc3 hX hB3 e1 lb ln ll hT hB;by_cases s1:n.space=1;(case pos=>have z1:(n.space==1)=true:=by{simp[s1]};rw[if_pos s1]at HND;clear s1;go_wp2_with fail;refine HL3.out.mono ?_;rintro e W4⟨rfl,hB4⟩;have HB4:=Xqh (HBR.out.trans (hB4.mono HBR.out.size));have HO4:=Xqh (Z0 HOW.out hB4);have f4:=Below.old hB4 hx0';have f5:=Below.old hB4 hx5;have f3:=Below.old hB4 e3;clear hB4 hx0' hx5 hx4 e3 HOW HBR HL3;generalize ZM name=want at*;by_cases k4:n.Xa=4;(case neg=>have zk:(n.Xa==4)=false:=by{simp[k4]};have HM:Hid (nm=false):=Xqh (by rw[HND.out];exact decide_eq_false (λz=>k4 z.1));have HN2:Hid ((l.take (k+1)).filter (A.named name)=P):=Xqh (by rw[HNT.out,HM.out,if_neg (by decide),List.append_nil]);clear HND HNT HM;go_wp2;go_roundw;(case rel=>exact⟨k+1,hlt,by go_num,by rw[HN2.out];exact HO4,HB4⟩);case measure=>simp[intOf];omega);case pos=>have zk:(n.Xa==4)=true:=by{simp[k4]};by_cases t1:name.toList= [42];(case pos=>have y1:(name.toList== [42])=true:=by{simp[t1]};have HM:Hid (nm=true):=Xqh (by rw[HND.out];exact decide_eq_true ⟨k4,.inl t1⟩);have HN2:Hid ((l.take (k+1)).filter (A.named name)=P++ [x]):=Xqh (by rw[HNT.out,HM.out,if_pos rfl]);clear HND HNT HM;go_wp2_with(at_builtin;refine wpList_append_own_at _ rfl _ _ 41 rfl w1.heap.size 3 i0 _ 1 8 Tryz.underlying41 HI.out hz0 hz1 hz2 rfl (by decide) (.slice oa P.length oc) P.length (P.map Xp) rfl (HO4.out.alloc _) ⟨W4.heap.size,0,none⟩ 1 1 [.int .i64 x] rfl rfl ?ua1 ?ua2 ?ua3 ?ua4 ?ua5 ?_);(case ua1=>intro q u hu;rw[Addr.add_mid,Nat.zero_add];exact Yi rfl (by simpa using hu));(case ua2=>intro u hu;simp at hu;subst hu;rfl);(case ua3=>unfold maxLen;omega);(case ua4=>omega);(case ua5=>have:=HB4.out.size;simp;omega);intro v5 w5 hown5 hgrow5 _ _;have HB5:Hid (Below w1.heap.size w1 w5):=Xqh ((HB4.out.alloc HB4.out.size _).grown hgrow5 (by have:=HB4.out.size;simp;omega) (λq hq=>(Yx HO4.out q hq).1));obtain⟨ya,yc,rfl⟩:=X6 hown5;have HO5:Hid (w5.ownsRow w1.heap.size 3 1 (.slice ya (P.length+1) yc) (P++ [x]).length ((P++ [x]).map Xp)):=Xqh (by have e1:P.length+1=(P++ [x]).length:=by{simp only[List.length_append,List.length_cons,List.length_nil]};have e2:P.map Xp++ [.int .i64 x]=(P++ [x]).map Xp:=by{simp[Xp]};rw[<-e1,<-e2];exact hown5);clear hown5 hgrow5;go_wp2;go_roundw;(case rel=>exact⟨k+1,hlt,by go_num,by rw[HN2.out];exact HO5,HB5⟩);case measure=>simp[intOf];omega);case neg=>have y1:(name.toList== [42])=false:=beq_eq_false_iff_ne.2 t1;by_cases t2:n.name.toList=want.toList;(case pos=>have y2:(n.name.toList==want.toList)=true:=beq_iff_eq.2 t2;have HM:Hid (nm=true):=Xqh (by rw[HND.out];exact decide_eq_true ⟨k4,.inr t2⟩);have HN2:Hid ((l.take (k+1)).filter (A.named name)=P++ [x]):=Xqh (by rw[HNT.out,HM.out,if_pos rfl]);clear HND HNT HM;go_wp2_with(at_builtin;refine wpList_append_own_at _ rfl _ _ 41 rfl w1.heap.size 3 i0 _ 1 8 Tryz.underlying41 HI.out hz0 hz1 hz2 rfl (by decide) (.slice oa P.length oc) P.length (P.map Xp) rfl (HO4.out.alloc _) ⟨W4.heap.size,0,none⟩ 1 1 [.int .i64 x] rfl rfl ?ub1 ?ub2 ?ub3 ?ub4 ?ub5 ?_);(case ub1=>intro q u hu;rw[Addr.add_mid,Nat.zero_add];exact Yi rfl (by simpa using hu));(case ub2=>intro u hu;simp at hu;subst hu;rfl);(case ub3=>unfold maxLen;omega);(case ub4=>omega);(case ub5=>have:=HB4.out.size;simp;omega);intro v5 w5 hown5 hgrow5 _ _;have HB5:Hid (Below w1.heap.size w1 w5):=Xqh ((HB4.out.alloc HB4.out.size _).grown hgrow5 (by have:=HB4.out.size;simp;omega) (λq hq=>(Yx HO4.out q hq).1));obtain⟨ya,yc,rfl⟩:=X6 hown5;have HO5:Hid (w5.ownsRow w1.heap.size 3 1 (.slice ya (P.length+1) yc) (P++ [x]).length ((P++ [x]).map Xp)):=Xqh (by have e1:P.length+1=(P++ [x]).length:=by{simp only[List.length_append,List.length_cons,List.length_nil]};have e2:P.map Xp++ [.int .i64 x]=(P++ [x]).map Xp:=by{simp[Xp]};rw[<-e1,<-e2];exact hown5);clear hown5 hgrow5;go_wp2;go_roundw;(case rel=>exact⟨k+1,hlt,by go_num,by rw[HN2.out];exact HO5,HB5⟩);case measure=>simp[intOf];omega);case neg=>have y2:(n.name.toList==want.toList)=false:=beq_eq_false_iff_ne.2 t2;have HM:Hid (nm=false):=Xqh (by rw[HND.out];exact decide_eq_false (λz=>z.2.elim t1 t2));have HN2:Hid ((l.take (k+1)).filter (A.named name)=P):=Xqh (by rw[HNT.out,HM.out,if_neg (by decide),List.append_nil]);clear HND HNT HM;go_wp2;go_roundw;(case rel=>exact⟨k+1,hlt,by go_num,by rw[HN2.out];exact HO4,HB4⟩);case measure=>simp[intOf];omega);case neg=>have z1:(n.space==1)=false:=by{simp[s1]};rw[if_neg s1]at HND;clear s1 HL3;have HO4:=HOW;have HB4:=HBR;clear HOW HBR;by_cases k4:n.Xa=4;(case neg=>have zk:(n.Xa==4)=false:=by{simp[k4]};have HM:Hid (nm=false):=Xqh (by rw[HND.out];exact decide_eq_false (λz=>k4 z.1));have HN2:Hid ((l.take (k+1)).filter (A.named name)=P):=Xqh (by rw[HNT.out,HM.out,if_neg (by decide),List.append_nil]);clear HND HNT HM;go_wp2;go_roundw;(case rel=>exact⟨k+1,hlt,by go_num,by rw[HN2.out];exact HO4,HB4⟩);case measure=>simp[intOf];omega);case pos=>have zk:(n.Xa==4)=true:=by{simp[k4]};by_cases t1:name.toList= [42];(case pos=>have y1:(name.toList== [42])=true:=by{simp[t1]};have HM:Hid (nm=true):=Xqh (by rw[HND.out];exact decide_eq_true ⟨k4,.inl t1⟩);have HN2:Hid ((l.take (k+1)).filter (A.named name)=P++ [x]):=Xqh (by rw[HNT.out,HM.out,if_pos rfl]);clear HND HNT HM;go_wp2_with(at_builtin;refine wpList_append_own_at _ rfl _ _ 41 rfl w1.heap.size 3 i0 _ 1 8 Tryz.underlying41 HI.out hz0 hz1 hz2 rfl (by decide) (.slice oa P.length oc) P.length (P.map Xp) rfl (HO4.out.alloc _) ⟨W3.heap.size,0,none⟩ 1 1 [.int .i64 x] rfl rfl ?ta1 ?ta2 ?ta3 ?ta4 ?ta5 ?_);(case ta1=>intro q u hu;rw[Addr.add_mid,Nat.zero_add];exact Yi rfl (by simpa using hu));(case ta2=>intro u hu;simp at hu;subst hu;rfl);(case ta3=>unfold maxLen;omega);(case ta4=>omega);(case ta5=>have:=HB4.out.size;simp;omega);intro v5 w5 hown5 hgrow5 _ _;have HB5:Hid (Below w1.heap.size w1 w5):=Xqh ((HB4.out.alloc HB4.out.size _).grown hgrow5 (by have:=HB4.out.size;simp;omega) (λq hq=>(Yx HO4.out q hq).1));obtain⟨ya,yc,rfl⟩:=X6 hown5;have HO5:Hid (w5.ownsRow w1.heap.size 3 1 (.slice ya (P.length+1) yc) (P++ [x]).length ((P++ [x]).map Xp)):=Xqh (by have e1:P.length+1=(P++ [x]).length:=by{simp only[List.length_append,List.length_cons,List.length_nil]};have e2:P.map Xp++ [.int .i64 x]=(P++ [x]).map Xp:=by{simp[Xp]};rw[<-e1,<-e2];exact hown5);clear hown5 hgrow5;go_wp2;go_roundw;(case rel=>exact⟨k+1,hlt,by go_num,by rw[HN2.out];exact HO5,HB5⟩);case measure=>simp[intOf];omega);case neg=>have y1:(name.toList== [42])=false:=beq_eq_false_iff_ne.2 t1;by_cases t2:n.name.toList=name.toList;(case pos=>have y2:(n.name.toList==name.toList)=true:=beq_iff_eq.2 t2;have HM:Hid (nm=true):=Xqh (by rw[HND.out];exact decide_eq_true ⟨k4,.inr t2⟩);have HN2:Hid ((l.take (k+1)).filter (A.named name)=P++ [x]):=Xqh (by rw[HNT.out,HM.out,if_pos rfl]);clear HND HNT HM;go_wp2_with(at_builtin;refine wpList_append_own_at _ rfl _ _ 41 rfl w1.heap.size 3 i0 _ 1 8 Tryz.underlying41 HI.out hz0 hz1 hz2 rfl (by decide) (.slice oa P.length oc) P.length (P.map Xp) rfl (HO4.out.alloc _) ⟨W3.heap.size,0,none⟩ 1 1 [.int .i64 x] rfl rfl ?tb1 ?tb2 ?tb3 ?tb4 ?tb5 ?_);(case tb1=>intro q u hu;rw[Addr.add_mid,Nat.zero_add];exact Yi rfl (by simpa using hu));(case tb2=>intro u hu;simp at hu;subst hu;rfl);(case tb3=>unfold maxLen;omega);(case tb4=>omega);(case tb5=>have:=HB4.out.size;simp;omega);intro v5 w5 hown5 hgrow5 _ _;have HB5:Hid (Below w1.heap.size w1 w5):=Xqh ((HB4.out.alloc HB4.out.size _).grown hgrow5 (by have:=HB4.out.size;simp;omega) (λq hq=>(Yx HO4.out q hq).1));obtain⟨ya,yc,rfl⟩:=X6 hown5;have HO5:Hid (w5.ownsRow w1.heap.size 3 1 (.slice ya (P.length+1) yc) (P++ [x]).length ((P++ [x]).map Xp)):=Xqh (by have e1:P.length+1=(P++ [x]).length:=by{simp only[List.length_append,List.length_cons,List.length_nil]};have e2:P.map Xp++ [.int .i64 x]=(P++ [x]).map Xp:=by{simp[Xp]};rw[<-e1,<-e2];exact hown5);clear hown5 hgrow5;go_wp2;go_roundw;(case rel=>exact⟨k+1,hlt,by go_num,by rw[HN2.out];exact HO5,HB5⟩);case measure=>simp[intOf];omega);case neg=>have y2:(n.name.toList==name.toList)=false:=beq_eq_false_iff_ne.2 t2;have HM:Hid (nm=false):=Xqh (by rw[HND.out];exact decide_eq_false (λz=>z.2.elim t1 t2));have HN2:Hid ((l.take (k+1)).filter (A.named name)=P):=Xqh (by rw[HNT.out,HM.out,if_neg (by decide),List.append_nil]);clear HND HNT HM;go_wp2;go_roundw;(case rel=>exact⟨k+1,hlt,by go_num,by rw[HN2.out];exact HO4,HB4⟩);case measure=>simp[intOf];omega};·have hkl:l.take k=l:=List.take_of_length_le (by omega);have e:(l.take k).filter (A.named name)=G:=by{rw[hkl];exact HF.out.symm};have HBW:=Xqh (HB1.out.trans (hB.out.mono HB1.out.size));have HOW:=Xqh (YP hT.out HB1.out.size);clear hT;go_wp2;go_ret;exact⟨HBW.out,_,rfl,by rw[<-e];exact HOW.out⟩
end
section
open Go.RowKit Go.Shelf Classical
attribute [local go_sem] Oper.semAt_some
theorem ints_nilB {w:World}(o:Own w0 B l w):Own w0 B (.ints (.slice none 0 0) []::l) w:=o.fresh (Below.refl _ _) ⟨λ_=>False,⟨World.ownsRow_nil _ _ _ _,λk=>by simp[Value.ownBlock]⟩,λ_ h=>h.elim⟩
theorem named_ways (nm:Bool)(Xa space:Int)(name low n:ByteArray)(h:nm=decide (Xa=4/\(name.toList= [42]\/n.toList=(if space=1 then low else name).toList))):(nm=true/\(Xa !=4)=false/\((name.toList== [42])=true\/((name.toList== [42])=false/\(((space==1)=true/\(space !=1)=false/\(n.toList==low.toList)=true)\/((space==1)=false/\(space !=1)=true/\(n.toList==name.toList)=true)))))\/(nm=false/\((Xa !=4)=true\/((Xa !=4)=false/\(name.toList== [42])=false/\(((space==1)=true/\(space !=1)=false/\(n.toList==low.toList)=false)\/((space==1)=false/\(space !=1)=true/\(n.toList==name.toList)=false))))):=by
 subst h
 by_cases a:Xa=4
 ·by_cases b:name.toList= [42];{exact .inl ⟨decide_eq_true ⟨a,.inl b⟩,by simp[a],.inl (by simp[b])⟩};·by_cases c:space=1;{by_cases d:n.toList=low.toList;{exact .inl ⟨decide_eq_true ⟨a,.inr (by rw[if_pos c];exact d)⟩,by simp[a],.inr ⟨by simp[b],.inl ⟨by simp[c],by simp[c],by simp[d]⟩⟩⟩};·exact .inr ⟨decide_eq_false (λq=>q.2.elim b (λq=>by rw[if_pos c]at q;exact d q)),.inr ⟨by simp[a],by simp[b],.inl ⟨by simp[c],by simp[c],by simp[d]⟩⟩⟩};·by_cases d:n.toList=name.toList;{exact .inl ⟨decide_eq_true ⟨a,.inr (by rw[if_neg c];exact d)⟩,by simp[a],.inr ⟨by simp[b],.inr ⟨by simp[c],by simp[c],by simp[d]⟩⟩⟩};·exact .inr ⟨decide_eq_false (λq=>q.2.elim b (λq=>by rw[if_neg c]at q;exact d q)),.inr ⟨by simp[a],by simp[b],.inr ⟨by simp[c],by simp[c],by simp[d]⟩⟩⟩
 ·exact .inr ⟨decide_eq_false (λq=>a q.1),.inl (by simp[a])⟩
theorem ByName_own {w:World}{b:Nat}(o:Own w0 B L w)(hm:Xf.arena b A∈L)(hI:A.Inv)(hs:A.ns.length<=100000)(hnm:name.size<=1000000):Calls Tryz.prog 66 #[.pointer (some ⟨b,0,none⟩),.int .i64 h,.string name] w λe w'=>∃va vc,e= .returned (.slice va (A.byName h name).length vc)/\Own w0 B (.ints (.slice va (A.byName h name).length vc) (A.byName h name)::L) w':=by
 have HS:=hI.short (show A.ns.length<=1000000 by omega)
 have o1:=(o.alloc (.cells #[.pointer (some ⟨b,0,none⟩)] 23)).alloc (.cells #[.string name] 9)
 simp only[World.size_alloc]at o1
 have q0:=XD (o1.box (g:=w.heap.size) (o:= .cells #[.pointer (some ⟨b,0,none⟩)] 23 (0,0)) (by simp))
 by_cases hh:A.has h
 case neg=>have HC1:=Xqh (Zz (opt:= -1) (x:=h) o1 (b:=b) (A:=A) (by simp[hm]) HS (Zy.trans (if_neg hh)));simp only[World.size_alloc]at HC1;have HF:A.byName h name= []:=if_neg hh;rw[HF];clear hI o o1 hh HS HF;go_enter Tryz.func66,Tryz.ntmps66;go_wp2_with fail;go_step3;go_wp2_with fail;refine HC1.out.mono ?_;rintro e w1⟨rfl,o1⟩;have HO:=Xqh (ints_nilB o1.drop.drop);clear q0 HC1 o1;go_wp2;rw[Exit.noGoto_ret];go_ret;exact⟨none,0,rfl,HO.out⟩
 case pos=>obtain⟨i0,hi,hz0,hz1,hz2⟩:=info_parts Xaf;have HI:=Xqh hi;have HC1:=Xqh (Zz (opt:= -1) (x:=h) o1 (b:=b) (A:=A) (by simp[hm]) HS (Zy.trans (if_pos hh)));simp only[World.size_alloc]at HC1;have HF:Hid (A.byName h name=(A.below h).filter (A.named name)):=Xqh (if_pos hh);have HLOW:=Xqh (λW=>XgX name W hnm);have HN:=Xqh (fun(x:Int)(hx:A.has x)(n:Nd)(hn:A.get x=n)(l:List Xf)W(q:Own w0 B l W)(hm:Xf.arena b A∈l)=>Xmq (b:=b) (A:=A) q hm HS hx hn);have HBM:=Xqh (λx(hx:x∈A.below h)=>(Zt hI h hh x hx).1);have HTR:Hid (A.Tree A/\A.Inv/\A.ns.length<=1000000):=Xqh ⟨Ar.Tree.refl _,hI,by omega⟩;have hseq:=fun(ab hb:Nat)=>XeW (ab:=ab) (hb:=hb) (b:=b) hI hs hh w0 B 7;have HNMD:Hid (∀x xn,A.get x=xn->A.named name x=decide (xn.Xa=4/\(name.toList= [42]\/xn.name.toList=(if xn.space=1 then ZM name else name).toList))):=Xqh (λx xn e=>by subst e;rfl);have HLEN:Hid ((A.below h).length<=100000):=Xqh (by have:=Xkb hI h hh;have:=Z3 hI h;omega);clear hI o o1 HS hi hs hnm;generalize A.byName h name=G at*;generalize A.named name=nmf at*;generalize ZM name=low at*;refine(callsIn_wide (n:=8)).1 ?_;refine callsIn_of_wp_marks Tryz.func66 rfl trivial ?_ rfl;simp only[Tryz.ntmps66,List.size_toArray,List.length_cons,List.length_nil,Nat.reduceAdd,Nat.reduceSub,Array.replicate_succ,Array.replicate_zero,List.push_toArray,List.append_toArray,List.nil_append,List.cons_append];refine wpIn_wide.2 ?_;go_wp2_with fail;go_step3;go_wp2_with fail;refine HC1.out.mono ?_;rintro e w1⟨rfl,o1⟩;clear q0 HC1;have q1:=XD (o1.box (g:=w.heap.size+1) (o:= .cells #[.string name] 9 (0,0)) (by simp));go_wp2_with fail;refine(HLOW.out _).mono ?_;rintro e w2⟨rfl,hB2⟩;have o2:=o1.read hB2;clear hB2 o1 q1 HLOW;have o3:=(o2.alloc (.cells #[.string low] 9)).alloc (.cells #[.slice none 0 0] 41);simp only[World.size_alloc]at o3;go_wp2_with fail;go_step3;have q0:=XD (o3.box (g:=w.heap.size) (o:= .cells #[.pointer (some ⟨b,0,none⟩)] 23 (0,0)) (by simp));go_wp2_with fail;refine(XeV b h _).mono ?_;rintro e w6⟨rfl,rfl⟩;simp only[World.size_alloc];have o7:=(o3.alloc (.cells #[.pointer (some ⟨b,0,none⟩)] 23)).alloc (.cells #[.int .i64 h] 3);simp only[World.size_alloc]at o7;have o8:=ints_nilB (o7.pick 2 rfl);have hseq:=hseq (w2.heap.size+1+1) (w2.heap.size+1+1+1);clear o2 o3 o7 q0;go_wp2_with fail;refine wpIn_wide.1 (XeP (n:=8) (α:=Int) rfl (by omega) (gf:=181) (lb:= #[.pointer (some ⟨w2.heap.size+1+1,0,none⟩),.pointer (some ⟨w2.heap.size+1+1+1,0,none⟩)]) rfl trivial (enters_of Tryz.func181 (by kernel_rfl) rfl) (Rd:=Xbn A b (w2.heap.size+1+1) (w2.heap.size+1+1+1) h) XeU hseq (λ_=>rfl) o8 (λpre L'=>(∃rest,A.below h=pre++rest)/\∃va vc,L'= .ints (.slice va (pre.filter nmf).length vc) (pre.filter nmf):: .box (w2.heap.size+1) (.cells #[.slice va (pre.filter nmf).length vc] 41 (0,0)):: .box (w2.heap.size+1+1+1) (.cells #[.int .i64 h] 3 (0,0)):: .box (w2.heap.size+1+1) (.cells #[.pointer (some ⟨b,0,none⟩)] 23 (0,0)):: .box w2.heap.size (.cells #[.string low] 9 (0,0)):: .box (w.heap.size+1) (.cells #[.string name] 9 (0,0)):: .box w.heap.size (.cells #[.pointer (some ⟨b,0,none⟩)] 23 (0,0))::L) (λ_ _ _=>False) ?hLR ⟨⟨_,rfl⟩,none,0,rfl⟩ ?a1 ?assign ?body ?done ?stop);(case assign=>intro l' x W' K hK;gi_wp2;exact hK);(case hLR=>rintro pre L'⟨-,va,vc,rfl⟩;exact⟨by simp,by simp,_,by simp[hm],HTR.out⟩);(case body=>rintro l' G' f pre x W' L'⟨rest,hrest⟩⟨-,va,vc,rfl⟩o;have q0:=XD (o.box (g:=w.heap.size) (o:= .cells #[.pointer (some ⟨b,0,none⟩)] 23 (0,0)) (by simp));have hxA:=HBM.out x (by rw[hrest];simp);obtain⟨xn,hxn⟩:∃xn,A.get x=xn:=⟨_,rfl⟩;have HNX:=Xqh (HN.out x hxA xn hxn _ W' o (by simp[hm]));have HP:Hid (∃rest,A.below h=pre++ [x]++rest):=Xqh ⟨rest,by simp[hrest]⟩;have hpl:(pre.filter nmf).length<=100000:=by{have h1:=HLEN.out;have h2:=List.length_filter_le nmf pre;rw[hrest]at h1;simp at h1;omega};have HFI:Hid ((pre++ [x]).filter nmf=pre.filter nmf++(if nmf x=true then [x]else [])):=Xqh (by rw[List.filter_append];congr 1;cases hq:nmf x<;>simp[hq]);have HW:=Xqh (named_ways _ _ _ _ _ _ (HNMD.out x xn hxn));clear o hrest hseq o8 hxA hxn HN HBM HTR HNMD HLEN HF;generalize hPe:pre.filter nmf=P at*;generalize nmf x=nm at*;clear hPe;gi_wp2_with fail;refine⟨trivial,?_⟩;refine(CallsIn.inRound l' (callsIn_wide.2 HNX.out)).mono ?_;rintro e w6⟨ka,klx,kc,aa,ac,rfl,o6⟩;clear HNX q0;have HT:=Xqh (XV (w:=w6) xn ka kc aa ac klx xn.Xb.length);have o7:=o6.XU xn (.slice ka klx kc) (.slice aa xn.Xb.length ac);rcases HW.out with⟨hv,z1,zz⟩|⟨hv,zz⟩;{have HG:Hid ((pre++ [x]).filter nmf=P++ [x]):=Xqh (by rw[HFI.out,if_pos hv]);clear HFI HW hv;rcases zz with z2|⟨z2,⟨z3,z4,z5⟩|⟨z3,z4,z5⟩⟩;all_goals gi_wp2_with(first|((with_reducible refine Xit ?_ 46 (.tmp 10) (.tmp 27) ?_ w6.heap.size 0 (xn.cells (.slice ka klx kc) (.slice aa xn.Xb.length ac)).toArray ?_ ?_ ?_ ?_ ?_ ?_);exact rfl;exact rfl;exact rfl;exact rfl;exact HT.out.1;exact XM _ _ _;exact all_oneCell_toArray HT.out.2;clear HT;generalize hw5:World.setCells _ _ _ _=w7 at o7⊢;generalize hg5:w6.heap.size=g7 at o7⊢;clear hw5 hg5;have k0:=XK (o7.box (g:=g7) (o:= .cells (xn.cells (.slice ka klx kc) (.slice aa xn.Xb.length ac)).toArray 46 (0,0)) (by simp)) 0 rfl;have k4:=XK (o7.box (g:=g7) (o:= .cells (xn.cells (.slice ka klx kc) (.slice aa xn.Xb.length ac)).toArray 46 (0,0)) (by simp)) 4 rfl;have k5:=XK (o7.box (g:=g7) (o:= .cells (xn.cells (.slice ka klx kc) (.slice aa xn.Xb.length ac)).toArray 46 (0,0)) (by simp)) 5 rfl;have q1:=XD (o7.box (g:=w.heap.size+1) (o:= .cells #[.string name] 9 (0,0)) (by simp));have q2:=XD (o7.box (g:=w2.heap.size) (o:= .cells #[.string low] 9 (0,0)) (by simp));have HR:=Xqh (o7.drop.drop.row (e:=3) (size:=1) (v:= .slice va P.length vc) (n:=P.length) (xs:=P.map Xp) (by simp));have HBW:=Xqh o7.big;have k8:=XD (o7.box (g:=w2.heap.size+1) (o:= .cells #[.slice va P.length vc] 41 (0,0)) (by simp));have HO:=Xqh o7.drop.drop;clear o7 o6)|(gi_at_builtin;refine wpListIn_append_own_at _ rfl _ _ 41 rfl B 3 i0 _ 1 8 Tryz.underlying41 HI.out hz0 hz1 hz2 rfl (by decide) _ _ _ rfl (HR.out.alloc _) ⟨w7.heap.size,0,none⟩ 1 1 [Xp x] rfl rfl (by intro j u hj;rw[Addr.add_mid,Nat.zero_add];exact Yi rfl (by simpa[Xp]using hj)) (by intro u hu;simp at hu;subst hu;rfl) (by unfold maxLen;omega) (by omega) (by have:=HBW.out;simp;omega) ?_));intro v' w4 hown hgrow _ hat;have o5:=(((HO.out.swap).alloc (.cells #[.int .i64 x] 3)).swap.grow hown hgrow (by simpa using hat)).swap.drop.ZI;obtain⟨va',vc',rfl⟩:=X6 hown;have k3:=XD (o5.box (g:=w2.heap.size+1) (o:= .cells #[.slice va P.length vc] 41 (0,0)) (by simp));have f3:=Xbf (o5.box (g:=w2.heap.size+1) (o:= .cells #[.slice va P.length vc] 41 (0,0)) (by simp));have o6:=(o5.J4 (u:= .slice va' (P.length+1) vc')).swap.ZI;have e1:(P++ [x]).length=P.length+1:=by{simp};have e2:(P++ [x]).map Xp=P.map Xp++ [Xp x]:=by{simp};have HK:Hid (Own w0 B (.keep G' f:: .ints (.slice va' (P++ [x]).length vc') (P++ [x]):: .box (w2.heap.size+1) (.cells #[.slice va' (P++ [x]).length vc'] 41 (0,0)):: .box (w2.heap.size+1+1+1) (.cells #[.int .i64 h] 3 (0,0)):: .box (w2.heap.size+1+1) (.cells #[.pointer (some ⟨b,0,none⟩)] 23 (0,0)):: .box w2.heap.size (.cells #[.string low] 9 (0,0)):: .box (w.heap.size+1) (.cells #[.string name] 9 (0,0)):: .box w.heap.size (.cells #[.pointer (some ⟨b,0,none⟩)] 23 (0,0))::L) (w4.setCell ⟨w2.heap.size+1,0,none⟩ (.slice va' (P.length+1) vc'))):=Xqh (by unfold Xf.ints;rw[e1,e2];exact o6);clear o5 o6 e1 e2 hown hgrow hat HO HR;gi_wp2;exact⟨_,⟨HP.out,va',vc',by rw[HG.out]⟩,HK.out⟩};·have HG:Hid ((pre++ [x]).filter nmf=P):=Xqh (by rw[HFI.out,hv,if_neg (by decide),List.append_nil]);clear HFI HW hv;rcases zz with z1|⟨z1,z2,⟨z3,z4,z5⟩|⟨z3,z4,z5⟩⟩;all_goals gi_wp2_with((with_reducible refine Xit ?_ 46 (.tmp 10) (.tmp 27) ?_ w6.heap.size 0 (xn.cells (.slice ka klx kc) (.slice aa xn.Xb.length ac)).toArray ?_ ?_ ?_ ?_ ?_ ?_);exact rfl;exact rfl;exact rfl;exact rfl;exact HT.out.1;exact XM _ _ _;exact all_oneCell_toArray HT.out.2;clear HT;generalize hw5:World.setCells _ _ _ _=w7 at o7⊢;generalize hg5:w6.heap.size=g7 at o7⊢;clear hw5 hg5;have k0:=XK (o7.box (g:=g7) (o:= .cells (xn.cells (.slice ka klx kc) (.slice aa xn.Xb.length ac)).toArray 46 (0,0)) (by simp)) 0 rfl;have k4:=XK (o7.box (g:=g7) (o:= .cells (xn.cells (.slice ka klx kc) (.slice aa xn.Xb.length ac)).toArray 46 (0,0)) (by simp)) 4 rfl;have k5:=XK (o7.box (g:=g7) (o:= .cells (xn.cells (.slice ka klx kc) (.slice aa xn.Xb.length ac)).toArray 46 (0,0)) (by simp)) 5 rfl;have q1:=XD (o7.box (g:=w.heap.size+1) (o:= .cells #[.string name] 9 (0,0)) (by simp));have q2:=XD (o7.box (g:=w2.heap.size) (o:= .cells #[.string low] 9 (0,0)) (by simp));have HO:=Xqh o7.drop.drop;clear o7 o6);exact⟨_,⟨HP.out,va,vc,by rw[HG.out]⟩,HO.out⟩);(case done=>rintro xs W' L' rfl⟨-,va,vc,rfl⟩o;simp only[World.size_alloc]at o;rw[<-HF.out]at o;have q1:=XD (o.box (g:=w2.heap.size+1) (o:= .cells #[.slice va G.length vc] 41 (0,0)) (by simp));have hD:=o.box (g:=w2.heap.size+1+1+1+1) (o:= .deferred (some [])) (by simp);have o20:=o.Xak (ZT (.deferred none) rfl) (World.putObj_heap_same (lt_of_block hD));have HO:=Xqh o20.drop.swap.drop.swap.drop.swap.drop.swap.drop.swap.drop.swap.drop;clear o o20 hseq o8 HN HBM HTR HNMD HLEN HF;go_wp2;simp only[World.size_alloc];refine⟨by simp,.inl ⟨_,_,rfl,run_takeDeferred hD,?_⟩⟩;refine⟨.slice va G.length vc,by simp[results,Tryz.f66,go_sem],?_⟩;exact⟨va,vc,rfl,HO.out⟩);case stop=>rintro c pre W' L'-q o;exact q.elim
end
section
open Go.RowKit Go.Shelf Classical
theorem ints_new {w w':World}{x:List Int}(o:Own w0 B l w)(hB:Below w.heap.size w w')(h:w'.ownsRow w.heap.size 3 1 v x.length (x.map Xp)):Own w0 B (.ints v x::l) w':=o.newRow hB h
theorem DomFinds_no (v:Value)(l:List OpD)(h:Int)(name id:ByteArray)(w:World)(hv:JW w v l)(hs:¬Jj l 100):Calls Tryz.prog 13 #[v,.int .i64 h,.string name,.string id] w λe w'=>e= .returned (.bool true)/\Below w.heap.size w w':=by
 have HS:=Xqh (XdA v l 100 w hv)
 have HD:=Xqh (show decide (Jj l 100)=false from decide_eq_false hs)
 obtain⟨av,cv,rfl,-⟩:=hv
 go_enter Tryz.func13,Tryz.ntmps13
 go_wp2_with fail
 refine HS.out.mono ?_
 rintro e w1⟨rfl,hB1⟩
 rw[HD.out]
 go_wp2_with fail
 refine(XdO w1).mono ?_
 rintro e w2⟨rfl,hB2⟩
 go_wp2
 go_ret
 exact⟨rfl,hB1.trans (hB2.mono hB1.size)⟩
theorem DomFinds_long0 (v:Value)(l:List OpD)(h:Int)(name id:ByteArray)(w:World)(hv:JW w v l)(hs:Jj l 100)(hb:¬name.size<=200):Calls Tryz.prog 13 #[v,.int .i64 h,.string name,.string id] w λe w'=>e= .returned (.bool true)/\Below w.heap.size w w':=by
 have HS:=Xqh (XdA v l 100 w hv)
 have HD:=Xqh (show decide (Jj l 100)=true from decide_eq_true hs)
 have hb1:(200:Int)<(name.size:Int):=by omega
 obtain⟨av,cv,rfl,-⟩:=hv
 go_enter Tryz.func13,Tryz.ntmps13
 go_wp2_with fail
 refine HS.out.mono ?_
 rintro e w1⟨rfl,hB1⟩
 rw[HD.out]
 go_wp2_with fail
 refine(XdO w1).mono ?_
 rintro e w2⟨rfl,hB2⟩
 go_wp2
 go_ret
 exact⟨rfl,hB1.trans (hB2.mono hB1.size)⟩
theorem DomFinds_long1 (v:Value)(l:List OpD)(h:Int)(name id:ByteArray)(w:World)(hv:JW w v l)(hs:Jj l 100)(hb0:name.size<=200)(hb:¬id.size<=200):Calls Tryz.prog 13 #[v,.int .i64 h,.string name,.string id] w λe w'=>e= .returned (.bool true)/\Below w.heap.size w w':=by
 have HS:=Xqh (XdA v l 100 w hv)
 have HD:=Xqh (show decide (Jj l 100)=true from decide_eq_true hs)
 have hb1:(200:Int)<(id.size:Int):=by omega
 have hb2:¬(200:Int)<(name.size:Int):=by omega
 obtain⟨av,cv,rfl,-⟩:=hv
 go_enter Tryz.func13,Tryz.ntmps13
 go_wp2_with fail
 refine HS.out.mono ?_
 rintro e w1⟨rfl,hB1⟩
 rw[HD.out]
 go_wp2_with fail
 refine(XdO w1).mono ?_
 rintro e w2⟨rfl,hB2⟩
 go_wp2
 go_ret
 exact⟨rfl,hB1.trans (hB2.mono hB1.size)⟩
theorem DomFinds_any (v:Value)(l:List OpD)(h:Int)(name id:ByteArray)(w:World)(hv:JW w v l):Calls Tryz.prog 13 #[v,.int .i64 h,.string name,.string id] w λe w'=>e= .returned (.bool true)/\Below w.heap.size w w':=by
 by_cases hs:Jj l 100
 case neg=>exact DomFinds_no v l h name id w hv hs
 by_cases hb1:name.size<=200
 case neg=>exact DomFinds_long0 v l h name id w hv hs hb1
 by_cases hb2:id.size<=200
 case neg=>exact DomFinds_long1 v l h name id w hv hs hb1 hb2
 have HS:=Xqh (XdA v l 100 w hv)
 have HD:=Xqh (show decide (Jj l 100)=true from decide_eq_true hs)
 obtain⟨i1,-,hlen,-⟩:=XfA hs (by omega) (Nat.le_refl l.length)
 rw[List.take_length]at i1 hlen
 have HP:=Xqh (λW(o:Own w w.heap.size [] W)=>Xi6 o v l (λW' o'=>hv.below o'.low) hs (by omega))
 have HI:=Xqh (i1.short (show(Zj l).ns.length<=1000000 by omega))
 have o0:=Own.start w
 obtain⟨av,cv,rfl,-⟩:=hv
 clear hs
 generalize Zj l=A at*
 have HBN1:=Xqh (fun(W:World)(b:Nat)(ll:List Xf)(o:Own w w.heap.size ll W)(hm:Xf.arena b A∈ll)=>ByName_own (h:=h) (name:=name) o hm i1 (by omega) (by omega))
 have HRN1:=Xqh (fun(W:World)(c:Nat)(ll:List Xf)(o:Own w w.heap.size ll W)(hm:Xf.refar c A∈ll)=>RByName_own (h:=h) (name:=name) o hm i1 (by omega) (by omega))
 have HBN2:=Xqh (fun(W:World)(b:Nat)(ll:List Xf)(o:Own w w.heap.size ll W)(hm:Xf.arena b A∈ll)=>ByName_own (h:=h) (name:={data:= #[42]}) o hm i1 (by omega) (by decide))
 have HRN2:=Xqh (fun(W:World)(c:Nat)(ll:List Xf)(o:Own w w.heap.size ll W)(hm:Xf.refar c A∈ll)=>RByName_own (h:=h) (name:={data:= #[42]}) o hm i1 (by omega) (by decide))
 have HBI:=Xqh (fun(W:World)(b:Nat)(ll:List Xf)(o:Own w w.heap.size ll W)(hm:Xf.arena b A∈ll)=>ByID_own (h:=h) (id:=id) o hm i1 (by omega))
 have HRI:=Xqh (fun(W:World)(c:Nat)(ll:List Xf)(o:Own w w.heap.size ll W)(hm:Xf.refar c A∈ll)=>RByID_own (h:=h) (id:=id) o hm i1 (by omega))
 generalize A.byName h name=N1 at*
 generalize A.byName h {data:= #[42]}=N2 at*
 generalize A.byID h id=D at*
 have hdd:(D==D)=true:=by simp
 have hbs1:¬(200:Int)<(name.size:Int):=by omega
 have hbs2:¬(200:Int)<(id.size:Int):=by omega
 clear i1
 go_enter Tryz.func13,Tryz.ntmps13
 go_wp2_with fail
 refine HS.out.mono ?_
 rintro e w1⟨rfl,hB1⟩
 rw[HD.out]
 have o1:=o0.read hB1
 clear o0 HS HD hB1
 go_wp2_with fail
 refine(HP.out _ o1).mono ?_
 rintro e w2⟨b,c,rfl,o2⟩
 clear o1 HP
 go_wp2_with fail
 refine(HBN1.out _ b _ o2 (by simp)).mono ?_
 rintro e wa1⟨va1,vc1,rfl,oa1⟩
 clear o2
 go_wp2_with fail
 refine(HRN1.out _ c _ oa1 (by simp)).mono ?_
 rintro e wb1⟨hBb,v1,rfl,hrow⟩
 have ob1:=ints_new oa1 hBb hrow
 clear oa1 hBb hrow
 go_wp2_with fail
 refine(SameInts_own (x:=N1) (y:=N1) ob1 (by simp) (by simp)).mono ?_
 rintro e wc1⟨rfl,oc1⟩
 rw[show decide (N1=N1)=true from decide_eq_true rfl]
 have od1:=oc1.drop.drop
 clear ob1 oc1
 clear HBN1 HRN1
 go_wp2_with fail
 refine(HBI.out _ b _ od1 (by simp)).mono ?_
 rintro e w3⟨rfl,o3⟩
 clear od1
 go_wp2_with fail
 refine(HRI.out _ c _ o3 (by simp)).mono ?_
 rintro e w4⟨rfl,hB4⟩
 have o4:=o3.read hB4
 clear o3 hB4 HBI HRI
 go_wp2_with fail
 refine(HBN2.out _ b _ o4 (by simp)).mono ?_
 rintro e wa2⟨va2,vc2,rfl,oa2⟩
 clear o4
 go_wp2_with fail
 refine(HRN2.out _ c _ oa2 (by simp)).mono ?_
 rintro e wb2⟨hBb,v2,rfl,hrow⟩
 have ob2:=ints_new oa2 hBb hrow
 clear oa2 hBb hrow
 go_wp2_with fail
 refine(SameInts_own (x:=N2) (y:=N2) ob2 (by simp) (by simp)).mono ?_
 rintro e wc2⟨rfl,oc2⟩
 rw[show decide (N2=N2)=true from decide_eq_true rfl]
 have od2:=oc2.drop.drop
 clear ob2 oc2
 clear HBN2 HRN2
 have HO:=Xqh od2
 clear od2
 go_wp2_with fail
 refine(XdO _).mono ?_
 rintro e wk⟨rfl,hBk⟩
 have HB:=Xqh (HO.out.back hBk)
 clear hBk
 go_wp2
 go_ret
 exact⟨rfl,HB.out⟩
end
end Go.Proofs.YtpicinjcmjaogaaGreat
