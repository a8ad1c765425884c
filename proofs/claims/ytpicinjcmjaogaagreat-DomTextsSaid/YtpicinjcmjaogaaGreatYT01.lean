import Derived.Deep.Slices
import Derived.Deep.Fields
import Derived.ChangeSame
import Derived.ProofKit
import Derived.Deep.QuietTactic
import Derived.BigQuiet
import Derived.Test.YtpicinjcmjaogaaGreatY43
set_option maxRecDepth 100000
set_option maxHeartbeats 4000000
set_option linter.unusedVariables false
namespace Go.Proofs.YtpicinjcmjaogaaGreat
section
open Go.RowKit
end
section
open Go.RowKit Go.ChangeShapes Go.WideShapes Go.Deep
section
variable {H : Type} {enc : TypeId × Value → H} {P : Program} {w : World} {base : Nat} {spare : Nat → Bool} {held : Bool}
theorem open_slice_fields {t e:TypeId}{fs:Array Field}{fuel:Nat}{cs:List Value}{x:DataW H×List MemPlace}(ht:P.underlying t=some (.slice e))(he:P.underlying e=some (.struct fs))(hone:oneCellFields P fs=true)(hC:P.cellsOf e=fs.size)(h:DataW.trod enc P w base spare held fuel t cs=some x):cs= [.slice none 0 0]∨∃(a:Addr)(len cap:Nat)(D:Nat→DataW H),cs= [.slice (some a) len cap]∧len≤cap∧cap≤maxLen∧∀i,i<len→∃(ys:List (DataW H×List MemPlace))(n:Nat),∀(j:Nat)(f:Field),fs[j]?=some f→∃(v:Value)(y:DataW H×List MemPlace),w.cell? (a.add (i*fs.size+j))=some v∧ys[j]?=some y∧DataW.trod enc P w base spare held n f.type [v]=some y:=by
 rcases open_slice ht h with h0|⟨a,len,cap,m,n,D,Pl,hcs,hb,hl,hm,hmm,hx,hi⟩
 ·exact .inl h0.1
 ·refine .inr ⟨a,len,cap,D,hcs,hl,hm,fun i hil=>?_⟩;have him:i<m:=by{rw[hmm];split<;>omega};obtain⟨cs',hc,ht'⟩:=hi i him;rw[hC]at hc;obtain⟨ys,n',hn',hy,hlen,hyl,hf⟩:=DataW.trod_struct he ht';obtain⟨_,hcl,hat⟩:=World.cells?_some hc;refine⟨ys,n',fun j f hj=>?_⟩;obtain⟨ho,hk⟩:=hone_of hone j f hj;have hjl:j<fs.size:=(Array.getElem?_eq_some_iff.1 hj).1;have hcell:=hat j hjl;have hv:cs'[j]?=some (cs'[j]'(by omega)):=List.getElem?_eq_getElem (by omega);have h1:=hf j f hj;rw[ho,hk]at h1;have hone':(cs'.drop j).take 1= [cs'[j]'(by omega)]:=by{rw[List.drop_eq_getElem_cons (by omega)];rfl};rw[hone']at h1;have hys:ys[j]?=some (ys[j]'(by omega)):=List.getElem?_eq_getElem (by omega);refine⟨_,_,?_,hys,h1.trans hys⟩;rw[←Go.Deep.add_add,hcell,hv]
end
theorem spot_none {w:World}{a:Addr}{v:Value}(h:w.cell? a=some v):a.spot=none:=by
 unfold World.cell? at h
 split at h
 ·split at h;·{cases h};·rename_i hs;simpa using hs
 ·cases h
theorem list_of {α:Type}(Q:Nat→α→Prop):∀n:Nat,(∀i,i<n→∃x,Q i x)→∃l:List α,l.length=n∧∀i x,l[i]?=some x→Q i x
 |0,_=>⟨[],rfl,fun i x h=>by simp at h⟩
 |n+1,h=>by{obtain⟨l,hl,hq⟩:=list_of Q n (fun i hi=>h i (by omega));obtain⟨x,hx⟩:=h n (by omega);refine⟨l++ [x],by simp[hl],fun i y hy=>?_⟩;rw[List.getElem?_append]at hy;split at hy;·{exact hq i y hy};·have:i=n:=by{have:=(List.getElem?_eq_some_iff.1 hy).1;simp at this;omega};subst this;simp[hl]at hy;subst hy;exact hx}
section
variable {H : Type} {enc : TypeId × Value → H} {w : World} {base : Nat} {spare : Nat → Bool} {held : Bool}
theorem open_attrs {fuel:Nat}{v:Value}{x:DataW H×List MemPlace}(h:DataW.trod enc Tryz.prog w base spare held fuel 44 [v]=some x):∃l:List Xm,XE w v l:=by
 rcases open_slice_fields Tryz.underlying44 Tryz.underlying132 (by kernel_rfl) (by kernel_rfl) h with h0|⟨a,len,cap,D,hcs,hl,hm,hi⟩
 ·simp at h0;subst h0;exact⟨[],rfl,none,0,rfl,Nat.le_refl _,Nat.zero_le _,fun h=>absurd h (by simp)⟩
 ·simp at hcs;subst hcs;have hq:∀i,i<len→∃y:Xm,w.cell? (a.add (i*3+0))=some (.int .i64 y.1)∧w.cell? (a.add (i*3+1))=some (.string y.2.1)∧w.cell? (a.add (i*3+2))=some (.string y.2.2):=by{intro i hil;obtain⟨ys,n,hf⟩:=hi i hil;obtain⟨v0,y0,c0,-,t0⟩:=hf 0 _ rfl;obtain⟨v1,y1,c1,-,t1⟩:=hf 1 _ rfl;obtain⟨v2,y2,c2,-,t2⟩:=hf 2 _ rfl;obtain⟨s,e0,-⟩:=DataW.trod_int Tryz.underlying34 t0;obtain⟨nm,e1,-⟩:=DataW.trod_string Tryz.underlying9 t1;obtain⟨vl,e2,-⟩:=DataW.trod_string Tryz.underlying9 t2;simp at e0 e1 e2;subst e0;subst e1;subst e2;exact⟨(s,nm,vl),c0,c1,c2⟩};obtain⟨l,hll,hlq⟩:=list_of _ len hq;subst hll;refine⟨l,XcP l,some a,cap,rfl,hl,hm,fun hp=>?_⟩;have hsp:a.spot=none:=by{obtain⟨q,-⟩:=hlq 0 _ (List.getElem?_eq_getElem hp);exact spot_none (by simpa[Addr.add]using q)};obtain⟨b,o,sp⟩:=a;simp at hsp;subst hsp;refine⟨b,o,rfl,fun j x hx=>?_⟩;have hj:j<l.length*3:=by{have:=(List.getElem?_eq_some_iff.1 hx).1;rwa[XcP]at this};have h3:j=3*(j/3)+j%3:=by{omega};have hy:l[j/3]?=some (l[j/3]'(by omega)):=List.getElem?_eq_getElem (by omega);rw[h3,XdQ hy _ (by omega)]at hx;have hq:=hlq _ _ hy;have hm3:j%3<3:=by{omega};generalize j%3=r at*;rw[h3];simp only[Addr.add_mid]at hq;rcases(show r=0∨r=1∨r=2 by omega)with rfl|rfl|rfl;·{simp[Xv]at hx;subst hx;rw[show o+(3*(j/3)+0)=o+(j/3*3+0)by(omega)];exact hq.1};·{simp[Xv]at hx;subst hx;rw[show o+(3*(j/3)+1)=o+(j/3*3+1)by(omega)];exact hq.2.1};·simp[Xv]at hx;subst hx;rw[show o+(3*(j/3)+2)=o+(j/3*3+2)by(omega)];exact hq.2.2
theorem open_ops {fuel:Nat}{v:Value}{x:DataW H×List MemPlace}(h:DataW.trod enc Tryz.prog w base spare held fuel 38 [v]=some x):∃l:List OpD,JW w v l:=by
 rcases open_slice_fields Tryz.underlying38 Tryz.underlying92 (by kernel_rfl) (by kernel_rfl) h with h0|⟨a,len,cap,D,hcs,hl,hm,hi⟩
 ·simp at h0;subst h0;exact⟨[],none,0,rfl,Nat.le_refl _,Nat.zero_le _,fun h=>absurd h (by simp)⟩
 ·simp at hcs;subst hcs;have hq:∀i,i<len→∃y:OpD,∃av,(∀j v,(y.cells av)[j]?=some v→w.cell? (a.add (i*10+j))=some v)∧XE w av y.Xb:=by{intro i hil;obtain⟨ys,n,hf⟩:=hi i hil;obtain⟨v0,y0,c0,-,t0⟩:=hf 0 _ rfl;obtain⟨v1,y1,c1,-,t1⟩:=hf 1 _ rfl;obtain⟨v2,y2,c2,-,t2⟩:=hf 2 _ rfl;obtain⟨v3,y3,c3,-,t3⟩:=hf 3 _ rfl;obtain⟨v4,y4,c4,-,t4⟩:=hf 4 _ rfl;obtain⟨v5,y5,c5,-,t5⟩:=hf 5 _ rfl;obtain⟨v6,y6,c6,-,t6⟩:=hf 6 _ rfl;obtain⟨v7,y7,c7,-,t7⟩:=hf 7 _ rfl;obtain⟨v8,y8,c8,-,t8⟩:=hf 8 _ rfl;obtain⟨v9,y9,c9,-,t9⟩:=hf 9 _ rfl;obtain⟨x0,e0,-⟩:=DataW.trod_int Tryz.underlying3 t0;obtain⟨x1,e1,-⟩:=DataW.trod_int Tryz.underlying3 t1;obtain⟨x2,e2,-⟩:=DataW.trod_int Tryz.underlying3 t2;obtain⟨x3,e3,-⟩:=DataW.trod_int Tryz.underlying3 t3;obtain⟨x4,e4,-⟩:=DataW.trod_bool Tryz.underlying4 t4;obtain⟨x5,e5,-⟩:=DataW.trod_int Tryz.underlying34 t5;obtain⟨x6,e6,-⟩:=DataW.trod_string Tryz.underlying9 t6;obtain⟨x7,e7,-⟩:=DataW.trod_string Tryz.underlying9 t7;obtain⟨x8,e8,-⟩:=DataW.trod_string Tryz.underlying9 t8;obtain⟨l,hl⟩:=open_attrs t9;simp at e0 e1 e2 e3 e4 e5 e6 e7 e8;subst e0;subst e1;subst e2;subst e3;subst e4;subst e5;subst e6;subst e7;subst e8;refine⟨⟨x0,x1,x2,x3,x4,x5,x6,x7,x8,l⟩,v9,fun j v hv=>?_,hl⟩;have hj:j<10:=(List.getElem?_eq_some_iff.1 hv).1;rcases(show j=0∨j=1∨j=2∨j=3∨j=4∨j=5∨j=6∨j=7∨j=8∨j=9 by omega)with rfl|rfl|rfl|rfl|rfl|rfl|rfl|rfl|rfl|rfl<;>(simp[OpD.cells]at hv;subst hv;assumption)};obtain⟨l,hll,hlq⟩:=list_of _ len hq;subst hll;refine⟨l,some a,cap,rfl,hl,hm,fun hp=>?_⟩;have hsp:a.spot=none:=by{obtain⟨av,q,-⟩:=hlq 0 _ (List.getElem?_eq_getElem hp);exact spot_none (by simpa[Addr.add]using q 0 _ rfl)};obtain⟨b,o,sp⟩:=a;simp at hsp;subst hsp;refine⟨b,o,rfl,fun i x hx=>?_⟩;obtain⟨av,q,hA⟩:=hlq i x hx;refine⟨av,fun j v hv=>?_,hA⟩;have:=q j v hv;rw[Addr.add_mid]at this;rw[show o+i*10+j=o+(i*10+j)by(omega)];exact this
end
end
section
open Go.RowKit
end
section
open Go.RowKit
end
section
open Go.RowKit
end
section
open Go.RowKit
end
section
open Go.ChangeShapes Go.WideShapes Go.ChangeAt Go.RowKit
theorem own_knob :ownKnob Tryz.prog.godebug=none:=by
 kernel_rfl
theorem laid_out :laidOutB Tryz.prog=true:=by
 kernel_rfl
theorem arg_ops {H:Type}{enc:TypeId×Value→H}{W:World}{base:Nat}{spare:Nat→Bool}{held:Bool}{v:Value}{d:DataW H}{p:List MemPlace}{r:Reach}{b0:Nat}(hv:Value.okWide Tryz.prog W r b0 38 v)(h:DataW.Trod enc Tryz.prog W base spare held 38 v d p):∃l,JW W v l:=by
 obtain⟨a,len,cap,rfl⟩:=okWide_slice Tryz.underlying38 hv
 obtain⟨fuel,hf⟩:=h
 simp only[Value.cells]at hf
 exact open_ops (fuel:=fuel) (x:=(d,p)) hf
end
section
open Go.RowKit
theorem flat_take_len {α:Type}(l:List Int)(k:Nat)(f:Int→List α):((l.take k).flatMap f).length≤(l.flatMap f).length:=by
 have:=congrArg List.length (congrArg (List.flatMap f) (List.take_append_drop k l))
 rw[List.flatMap_append,List.length_append]at this
 omega
end
section
theorem new_mass :Ar.new.Xk=0:=rfl
end
section
theorem uv_mono :∀{n m:Nat},n≤m→(uv n).1≤(uv m).1:=by
 intro n m h
 induction m with|zero=>{rw[Nat.le_zero.1 h];exact Nat.le_refl _}|succ m ih=>rcases Nat.lt_or_ge n (m+1)with q|q;·{have:=ih (by omega);have:=(Xni m).1;omega};·rw[show n=m+1 by(omega)];exact Nat.le_refl _
end
section
open Go.RowKit Go.Shelf
theorem wpList_append_none {P:Program}(w:World){ops:Array Oper}{rest:List Oper}{o:Oper}{a:Act}{Q:Exit→Act→World→Prop}(hgd:o.guard=none)(s x:Operand)(t:TypeId)(ho:o.op= .call {callee:= .builtin .append,args:= #[s,x],argTypes:= #[t,t]})(base:Nat)(e:TypeId)(i:TypeInfo)(size:Nat)(ht:P.underlying t=some (.slice e))(hi:P.info? e=some i)(v:Value)(n:Nat)(xs:List Value)(hs:a.eval s=v)(hown:w.ownsRow base e size v n xs)(hx:a.eval x= .slice none 0 0)(h:wpList P ops Q rest (a.put o.dst v) w):wpList P ops Q (o::rest) a w:=by
 refine wpList_plain hgd fun K hK=>?_
 have hr:=run_append_owned_none (P:=P) w base t o.type e i size ht hi v n xs hown
 unfold Oper.wp execOp
 simp only[ho,resolve,invoke,builtin,Sem.run_bind,Sem.run_pure,Result.andThen_ok,List.map_toArray,List.map_cons,List.map_nil,hs,hx,hr]
 exact hK _ _ h
theorem below_take_len {A:Ar}(hI:A.Inv){h:Int}(hh:A.has h)(j:Nat):(((A.get h).Xc.take j).flatMap (fun k=>k::A.below k)).length≤A.ns.length:=by
 have h1:=flat_take_len (A.get h).Xc j (fun k=>k::A.below k)
 have h2:=Xkb hI h hh
 have h3:=Z3 hI h
 rw[ZD hI hh]at h2
 omega
theorem RBelow5_any (A:Ar)(ρ:Nat→Nat)(b:Nat)(hI:A.Inv)(hsz:A.ns.length≤1000000):∀h,A.has h→∀w,Xx w ρ b A→Calls Tryz.prog 137 #[.pointer (some ⟨b,0,none⟩),.int .i64 h] w fun e w'=>Below w.heap.size w w'∧∃v',e= .returned v'∧w'.ownsRow w.heap.size 3 1 v' (A.below h).length ((A.below h).map Xp):=by
 obtain⟨i0,hi,hz0,hz1,hz2⟩:=info_parts Xaf
 refine Jc hI (fun h hh ihc ihk w hA=>?_)
 obtain⟨nb,c,h0,hm,hc,-,-,-,hN⟩:=hA.look
 obtain⟨p1,p2,kv,av,F,hK,-⟩:=hN h hh
 have HK:Hid (Xy w kv (A.get h).Xc):=Xqh hK.reads
 obtain⟨ka,kc,rfl,-⟩:=HK.out.form
 have c2:=F.c2
 have hx0:(0:Int)≤h:=by omega
 have hx1:h<((A.ns.length+1:Nat):Int):=by omega
 have hx2:h<(A.ns.length:Int)+1:=by omega
 have hkl:=((hI.short hsz).get hh).1
 have HIH:=Xqh (fun x(hx:x∈(A.get h).Xc)W(hB:Below w.heap.size w W)=>ihk x hx W (hA.below hB))
 have HBE:=Xqh (ZD hI hh)
 have HLEN:=Xqh (fun j=>below_take_len hI hh j)
 have HLK:=Xqh (fun x(hx:x∈(A.get h).Xc)=>by have:=Xkb hI x (XF hI hh hx).1;have:=Z3 hI x;show(A.below x).length≤A.ns.length;omega)
 have HI:=Xqh hi
 clear hA hN F hK ihc ihk hI hi hm hc
 generalize(A.get h).Xc=K at*
 go_enter Tryz.func137,Tryz.ntmps137
 go_wp2
 go_loopw [5,6](fun out i wr=>∃j:Nat,j≤K.length∧i= .int .i64 j∧Hid (wr.ownsRow w.heap.size 3 1 out ((K.take j).flatMap (fun k=>k::A.below k)).length (((K.take j).flatMap (fun k=>k::A.below k)).map Xp))∧Hid (Below w.heap.size w wr))(fun _ i _=>K.length-(intOf i).toNat)
 case atStart=>exact⟨0,Nat.zero_le _,rfl,World.ownsRow_nil _ _ _ _,Below.refl _ _⟩
 case round=>obtain⟨j,hj,rfl,hT,hB⟩:=hrel;have g0:=Below.old hB.out h0;have g2:=Below.old hB.out c2;obtain⟨oa,oc,rfl⟩:=X6 hT.out;by_cases hlt:j<K.length;·{obtain⟨x,hx⟩:∃x,K[j]?=some x:=⟨_,List.getElem?_eq_getElem hlt⟩;obtain⟨b',o',rfl,-,hcs⟩:=(HK.out.cells (by omega));have d1:=hcs j x hx;have e1:=Below.old hB.out d1;have hwr:w.heap.size≤wr.heap.size:=hB.out.size;have HX:=Xqh hx;have hl1:=HLEN.out j;have hl2:=HLEN.out (j+1);have hst:(K.take (j+1)).flatMap (fun k=>k::A.below k)=((K.take j).flatMap (fun k=>k::A.below k)++ [x])++A.below x:=by{rw[XeR _ hx];simp};have HST:=Xqh hst;rw[hst]at hl2;simp only[List.length_append,List.length_cons,List.length_nil]at hl2;clear hcs hx hst;generalize(K.take j).flatMap (fun k=>k::A.below k)=P at*;go_wp2_with(at_builtin;refine wpList_append_own_at _ rfl _ _ 41 rfl w.heap.size 3 i0 _ 1 8 Tryz.underlying41 HI.out hz0 hz1 hz2 rfl (by decide) _ P.length (P.map Xp) rfl (hT.out.alloc _) ⟨wr.heap.size,0,none⟩ 1 1 [.int .i64 x] rfl rfl ?c1 ?c2 ?c3 ?c4 ?c5 ?_);(case c1=>intro q u hu;rw[Addr.add_mid,Nat.zero_add];exact Yi rfl (by simpa using hu));(case c2=>intro u hu;simp at hu;subst hu;rfl);(case c3=>unfold maxLen;omega);(case c4=>omega);(case c5=>simp;omega);intro v2 w2 hown hgrow _ _;have hB2:Below w.heap.size w w2:=(hB.out.alloc hwr _).grown hgrow (by simp;omega) (fun q hq=>(Yx hT.out q hq).1);have e0:=Below.old hB2 h0;have e2:=Below.old hB2 c2;have e3:=Below.old hB2 d1;obtain⟨va,vc,rfl⟩:=X6 hown;have HB2:=Xqh hB2;have HC:=Xqh (HIH.out x (List.mem_of_getElem? HX.out) w2 hB2);have HOW:=Xqh hown;have hlx:=HLK.out x (List.mem_of_getElem? HX.out);clear hB2 hown hgrow g0 g2 e1 hT;go_wp2_with fail;refine HC.out.mono ?_;rintro e w3⟨hB3,v3,rfl,ho3⟩;have hB3':Below w.heap.size w w3:=HB2.out.trans (hB3.mono HB2.out.size);have HO3:=Xqh (Z0 HOW.out hB3);have HB3:=Xqh hB3';have ho0:=YP ho3 (Nat.zero_le _);clear hB3 hB3' ho3 HC HOW;rcases XlX ho0 with⟨rfl,hn,-⟩|⟨g,gc,rfl,hcell⟩;·{have hnil:A.below x= []:=List.length_eq_zero_iff.1 hn;rw[hnil,List.append_nil]at HST;clear ho0 hn hnil;go_wp2_with(at_builtin;refine wpList_append_none _ rfl _ _ 41 rfl w.heap.size 3 i0 1 Tryz.underlying41 HI.out _ _ _ rfl HO3.out rfl ?_);go_wp2;go_roundw;(case rel=>exact⟨j+1,hlt,by go_num,by rw[HST.out];simpa[Xp]using HO3,HB3⟩);case measure=>simp[intOf];omega};·have HCE:=Xqh hcell;clear ho0 hcell;go_wp2_with(at_builtin;refine wpList_append_own_at _ rfl _ _ 41 rfl w.heap.size 3 i0 _ 1 8 Tryz.underlying41 HI.out hz0 hz1 hz2 rfl (by decide) (.slice va (P.length+1) vc) (P.length+1) (P.map Xp++ [.int .i64 x]) rfl HO3.out ⟨g,0,none⟩ (A.below x).length gc ((A.below x).map Xp) rfl (by simp) ?e1 ?e2 ?e3 ?e4 ?e5 ?_);(case e1=>intro q u hu;rw[Addr.add_mid,Nat.zero_add];exact HCE.out q u hu);(case e2=>intro u hu;obtain⟨y,-,rfl⟩:=List.mem_map.1 hu;rfl);(case e3=>unfold maxLen;omega);(case e4=>omega);(case e5=>exact HB3.out.size);intro v4 w4 hown4 hgrow4 _ _;have hB4:Below w.heap.size w w4:=HB3.out.grown hgrow4 HB3.out.size (fun q hq=>(Yx HO3.out q hq).1);have HB4:=Xqh hB4;obtain⟨ya,yc,rfl⟩:=X6 hown4;have e1:P.length+1+(A.below x).length=(P++ [x]++A.below x).length:=by{simp only[List.length_append,List.length_cons,List.length_nil]};have e2:P.map Xp++(.int .i64 x::(A.below x).map Xp)=(P++ [x]++A.below x).map Xp:=by{simp[Xp]};have HO4:Hid (w4.ownsRow w.heap.size 3 1 (.slice ya (P.length+1+(A.below x).length) yc) (P++ [x]++A.below x).length ((P++ [x]++A.below x).map Xp)):=Xqh (by rw[←e1,←e2];exact hown4);clear hB4 hown4 hgrow4 HCE e1 e2;go_wp2;go_roundw;(case rel=>exact⟨j+1,hlt,by go_num,by rw[HST.out];exact HO4,HB4⟩);case measure=>simp[intOf];omega};·have hkl:K.take j=K:=List.take_of_length_le (by omega);have e:(K.take j).flatMap (fun k=>k::A.below k)=A.below h:=by{rw[hkl];exact HBE.out.symm};go_wp2;go_ret;exact⟨hB.out,_,rfl,by rw[←e];exact hT.out⟩
end
section
open Go.RowKit Go.Shelf
theorem textOf_take {A:Ar}{l:List Int}{k:Nat}{x:Int}(hx:l[k]?=some x):A.Zi (l.take (k+1))=A.Zi (l.take k)++(if(A.get x).Xa=5 then(A.get x).data.toList else []):=by
 unfold Ar.Zi
 rw[XeR _ hx]
theorem textOf_take_len (A:Ar)(l:List Int)(k:Nat):(A.Zi (l.take k)).length≤(A.Zi l).length:=by
 have:=congrArg List.length (congrArg A.Zi (List.take_append_drop k l))
 rw[Xix,List.length_append]at this
 omega
theorem bytes_cat (a:List UInt8)(s:ByteArray):(⟨a.toArray⟩:ByteArray)++s=⟨(a++s.toList).toArray⟩:=by
 apply ByteArray.ext
 rw[Go.ByteArray.toList_eq]
 apply Array.toList_inj.1
 simp
theorem RText_own {w0 w:World}{B b:Nat}{A:Ar}{L:List Xf}{h:Int}(o:Own w0 B L w)(hm:Xf.refar b A∈L)(hI:A.Inv)(hsz:A.ns.length≤1000000)(htx:(A.Zi (A.below h)).length≤140737488355328):Calls Tryz.prog 54 #[.pointer (some ⟨b,0,none⟩),.int .i64 h] w fun e w'=>e= .returned (.tuple #[.string (A.Xbl h).1,.int .i64 (A.Xbl h).2])∧Below w.heap.size w w':=by
 have HH:=Xqh (ZG (h:=h) o hm)
 have HF:Hid (A.Xbl h=if¬A.has h then(ByteArray.empty,3)else if(A.get h).Xa=5∨(A.get h).Xa=6 then((A.get h).data,0)else if(A.get h).Xa=1∨(A.get h).Xa=3 then(ByteArray.empty,0)else(⟨(A.Zi (A.below h)).toArray⟩,0)):=Xqh rfl
 by_cases hh:A.has h
 case neg=>replace HF:=Xqh (HF.out.trans (if_pos hh));rw[decide_eq_false hh]at HH;clear hI o hm hh;generalize A.Xbl h=G at*;go_enter Tryz.func54,Tryz.ntmps54;go_wp2_with fail;refine HH.out.mono ?_;rintro e w1⟨rfl,rfl⟩;go_wp2;go_ret2;rw[HF.out];exact⟨rfl,Below.refl _ _⟩
 case pos=>replace HF:=Xqh (HF.out.trans (if_neg (fun q=>q hh)));rw[decide_eq_true hh]at HH;obtain⟨ρ,hA⟩:=o.refar hm;obtain⟨nb,cc,h0,h1,h2,h3,h4,h5,-,h7⟩:=o.Y9 hm;obtain⟨p1,p2,ka,kc,aa,ac,F,-,-,-⟩:=h7 h hh;have HBX:=Xqh (XkL w (A.get h) (.slice ka (A.get h).Xc.length kc) (.slice aa (A.get h).Xb.length ac));have HT:=Xqh (XV (w:=w) (A.get h) ka kc aa ac (A.get h).Xc.length (A.get h).Xb.length);have c0:=F.c0;have c1:=F.c1;have c2:=F.c2;have c3:=F.c3;have c4:=F.c4;have c5:=F.c5;have c6:=F.c6;have c7:=F.c7;have c8:=F.c8;have c9:=F.c9;have c10:=F.c10;have c11:=F.c11;have c12:=F.c12;have hx0:(0:Int)≤h:=by{omega};have hx1:h<((A.ns.length+1:Nat):Int):=by{omega};have hx2:h<(A.ns.length:Int)+1:=by{omega};have HA:=Xqh (fun W(hB:Below w.heap.size w W)=>hA.below hB);have HBE:=Xqh (fun W(hB:Below w.heap.size w W)=>RBelow5_any A ρ b hI hsz h hh W (hA.below hB));have HIN:=Xqh (fun x(hx:x∈A.below h)=>(Zt hI h hh x hx).1);have HNO:Hid ((A.get h).Xa≠1→(A.get h).Xa≠2→(A.get h).Xa≠4→A.below h= []):=Xqh (fun q1 q2 q4=>by have hk:(A.get h).Xc= []:=Classical.not_not.1 (fun z=>by rcases hI.ZB h hh z with y|y|y;exact q1 y;exact q2 y;exact q4 y);rw[ZD hI hh,hk];rfl);have hlen:(A.below h).length≤1000000:=by{have:=Xkb hI h hh;have:=Z3 hI h;omega};clear hA F h7 h1 h2 h3 h4 h5 hI hh o hm;generalize A.Xbl h=G at*;generalize A.below h=l at*;generalize A.get h=n at*;go_enter Tryz.func54,Tryz.ntmps54;go_wp2_with fail;refine HH.out.mono ?_;rintro e w1⟨rfl,rfl⟩;go_upto_region 4 with((with_reducible refine wpList_store_mid ?_ 46 (.tmp 6) (.tmp 20) ?_ w.heap.size 0 (n.cells (.slice ka n.Xc.length kc) (.slice aa n.Xb.length ac)).toArray ?_ ?_ ?_ ?_ ?_ ?_);exact rfl;exact rfl;exact rfl;exact rfl;exact HT.out.1;exact XM _ _ _;exact all_oneCell_toArray HT.out.2;generalize hWW:World.setCells _ _ _ _=W at HBX⊢;clear hWW c0 c1 c2 c3 c4 c5 c6 c7 c8 c9 c10 c11 c12 HT);have d0:=(show YB W w.heap.size 0 n _ _ from HBX.out.1).c0;have d7:=(show YB W w.heap.size 0 n _ _ from HBX.out.1).c7;simp only[Nat.zero_add]at d0 d7;have HB2:=Xqh HBX.out.2;clear HBX;by_cases q5:n.Xa=5∨n.Xa=6;(case pos=>replace HF:=Xqh (HF.out.trans (if_pos q5));generalize hk:n.Xa=kd at*;clear hk HBE HNO HIN HA;rcases q5 with rfl|rfl;all_goals go_wp2;go_ret2;rw[HF.out];exact⟨rfl,HB2.out⟩);case neg=>replace HF:=Xqh (HF.out.trans (if_neg q5));have z5:(n.Xa==5)=false:=by{simp;exact fun q=>q5 (.inl q)};have z6:(n.Xa==6)=false:=by{simp;exact fun q=>q5 (.inr q)};by_cases q4:n.Xa=4∨n.Xa=2;(case neg=>have z4:(n.Xa==4)=false:=by{simp;exact fun q=>q4 (.inl q)};have z2:(n.Xa==2)=false:=by{simp;exact fun q=>q4 (.inr q)};have HG:Hid (G=(ByteArray.empty,0)):=Xqh (by rw[HF.out];by_cases q:n.Xa=1∨n.Xa=3;·{rw[if_pos q]};·rw[if_neg q,HNO.out (fun z=>q (.inl z)) (fun z=>q4 (.inr z)) (fun z=>q4 (.inl z))];rfl);clear HF HNO HBE HIN HA q5 q4;generalize n.Xa=kd at*;go_wp2;go_ret2;rw[HG.out];exact⟨rfl,HB2.out⟩);case pos=>replace HF:=Xqh (HF.out.trans (if_neg (fun q=>by rcases q4 with h|h<;>rcases q with z|z<;>omega)));clear HNO q5;have HC:=Xqh (HBE.out W HB2.out);clear HBE;generalize hk:n.Xa=kd at*;clear hk;rcases q4 with rfl|rfl;all_goals go_wp2_with fail;refine HC.out.mono ?_;rintro e w3⟨hB3,v3,rfl,ho3⟩;have HB3:=Xqh (HB2.out.trans (hB3.mono HB2.out.size));have HRL:=Xqh (Xeu (YP ho3 (Nat.zero_le _)));obtain⟨va,vc,rfl⟩:=X6 ho3;clear hB3 ho3 HC;go_wp2;go_loopw [7,9](fun s i wr=>∃k:Nat,k≤l.length∧i= .int .i64 k∧s= .string ⟨(A.Zi (l.take k)).toArray⟩∧∃m,wr=w3.drewN m)(fun _ i _=>l.length-(intOf i).toNat);(case atStart=>exact⟨0,Nat.zero_le _,rfl,rfl,0,rfl⟩);case round=>obtain⟨k,hk,rfl,rfl,m0,rfl⟩:=hrel;by_cases hlt:k<l.length;·{obtain⟨x,hx⟩:∃x,l[k]?=some x:=⟨_,List.getElem?_eq_getElem hlt⟩;obtain⟨b',o',rfl,-,hcs⟩:=HRL.out.cells (by omega);have e1:=hcs k x hx;have hxx:=HIN.out x (List.mem_of_getElem? hx);obtain⟨nb2,cc2,g0,g1,g2,-,-,-,gN⟩:=(HA.out _ HB3.out).look;obtain⟨r1,r2,kv2,av2,F,-,-⟩:=gN x hxx;have y0:=F.c0;have y7:=F.c7;have htt:=textOf_take (A:=A) hx;obtain⟨st,hst⟩:∃st,(⟨(A.Zi (l.take k)).toArray⟩:ByteArray)=st:=⟨_,rfl⟩;have HTT:Hid ((⟨(A.Zi (l.take (k+1))).toArray⟩:ByteArray)=if(A.get x).Xa=5 then st++(A.get x).data else st):=Xqh (by rw[htt,←hst];split;·{rw[bytes_cat]};·rw[List.append_nil]);have hsum:(A.get x).Xa=5→st.size+(A.get x).data.size≤9223372036854775807:=fun q=>by{have e1:st.size=(A.Zi (l.take k)).length:=by{rw[←hst,←Xiu];simp[Go.ByteArray.toList_eq]};have e2:=textOf_take_len A l (k+1);rw[htt,if_pos q,List.length_append,Xiu]at e2;omega};rw[hst];clear htt hst;have hy0:(0:Int)≤x:=by{omega};have hy1:x<((A.ns.length+1:Nat):Int):=by{omega};have hy2:x<(A.ns.length:Int)+1:=by{omega};clear hcs hx hxx gN F g1 g2;generalize A.get x=nx at*;by_cases t5:nx.Xa=5;·{have u5:(nx.Xa==5)=true:=by{simp[t5]};rw[if_pos t5]at HTT;have hsum:=hsum t5;clear t5;go_wp2_with(go_quiet(fail));go_wp2;go_roundw;(case rel=>exact⟨k+1,hlt,by go_num,by rw[HTT.out],_,by first|(rfl)|rw[World.drewN_drewN]⟩);case measure=>simp[intOf];omega};·have u5:(nx.Xa==5)=false:=by{simp[t5]};rw[if_neg t5]at HTT;clear t5 hsum;go_wp2_with(go_quiet(fail));go_wp2;go_roundw;(case rel=>exact⟨k+1,hlt,by go_num,by rw[HTT.out],_,by first|(rfl)|rw[World.drewN_drewN]⟩);case measure=>simp[intOf];omega};·have hkl:l.take k=l:=List.take_of_length_le (by omega);rw[hkl];have HFF:=Xqh (Below.drewN HB3.out m0);generalize hs:(⟨(A.Zi l).toArray⟩:ByteArray)=st at*;clear hs;go_wp2;go_ret2;rw[HF.out];exact⟨rfl,HFF.out⟩
end
section
open Go.RowKit Go.Shelf
theorem Xi6 {w0 w:World}{B:Nat}{ll:List Xf}(o:Own w0 B ll w)(v:Value)(l:List OpD)(hv:∀W,Own w0 B ll W→JW W v l){m:Int}(hs:Jj l m)(hm:m≤100):Calls Tryz.prog 42 #[v] w fun e w'=>∃b c,e= .returned (.tuple #[.pointer (some ⟨b,0,none⟩),.pointer (some ⟨c,0,none⟩),.bool true])∧Own w0 B (.arena b (Zj l):: .refar c (Zj l)::ll) w':=by
 have hv0:=hv w o
 have HV:=Xqh hv
 obtain⟨av,cv,rfl,hc1,hc2,-⟩:=id hv0
 have HN:=Xqh (Xgv w)
 have HT5:=Xqh (fun k(hk:k≤l.length)=>XfA hs hm hk)
 have HSM:=Xqh (Xir hs hm)
 clear hv hv0 hs hm
 go_enter Tryz.func42,Tryz.ntmps42
 go_wp2_with fail
 refine HN.out.mono ?_
 rintro e w1⟨rfl,hw1⟩
 have o1:=o.XgB
 rw[←hw1]at o1
 have HB:=Xqh (show Below w.heap.size w w1 by rw[hw1];exact Xw _ _)
 clear hw1 HN o
 generalize w.heap.size=ba at*
 go_wp2_with fail
 refine(XlV o1).mono ?_
 rintro e w2⟨rfl,o2⟩
 generalize w1.heap.size+2=bc at*
 have HO:=Xqh o2
 clear o1 o2
 go_wp2
 go_loopw [7](fun i wr=>∃k:Nat,k≤l.length∧i= .int .i64 k∧Hid (Own w0 B (.refar bc (Zj (l.take k)):: .arena ba (Zj (l.take k))::ll) wr))(fun i _=>l.length-(intOf i).toNat)
 case atStart=>exact⟨0,Nat.zero_le _,rfl,HO.out⟩
 case round=>obtain⟨k,hk,rfl,hT⟩:=hrel;by_cases hlt:k<l.length;·{obtain⟨a',c',e',-,-,hc3⟩:=HV.out wr hT.out.drop.drop;simp only[Value.slice.injEq,true_and]at e';obtain⟨rfl,rfl⟩:=e';obtain⟨b1,o1,rfl,hcs⟩:=hc3 (by omega);obtain⟨x,hx⟩:∃x,l[k]?=some x:=⟨_,List.getElem?_eq_getElem hlt⟩;obtain⟨xv,F⟩:=hcs k x hx;have hxat:=F.at';obtain⟨aa,ac,rfl,-⟩:=F.at'.form;obtain⟨c0,c1,c2,c3,c4,c5,c6,c7,c8,c9⟩:=F.facts;obtain⟨q1,-,q2,q3⟩:=HT5.out k hk;obtain⟨-,s2,-⟩:=HSM.out;have hxs:=s2 x (List.mem_of_getElem? hx);have HX:=Xqh (And.intro hx (Xnp hx));have HC:=Xqh (Xm4 hT.out.swap q1 q2 (Nat.le_trans hxs.1 (by omega)) F.at' (Nat.le_trans hxs.2.2.2.1 (by omega)) (fun _=>q3));have HQ:=Xqh (And.intro q1 (And.intro q2 q3));have HXS:=Xqh hxs;clear hcs F q1 q2 q3 s2 hxs hx hT hc3 hxat;go_wp2_with fail;refine HC.out.mono ?_;rintro e w3⟨rfl,o3⟩;clear HC c0 c1 c2 c3 c4 c5 c6 c7 c8 c9;obtain⟨a',c',e',-,-,hc3⟩:=HV.out w3 o3.drop.drop;simp only[Value.slice.injEq,true_and]at e';obtain⟨rfl,rfl⟩:=e';obtain⟨b2,o2',e',hcs⟩:=hc3 (by omega);simp only[Option.some.injEq,Addr.mk.injEq,and_true]at e';obtain⟨rfl,rfl⟩:=e';obtain⟨xv,F⟩:=hcs k x HX.out.1;obtain⟨aa',ac',rfl,-⟩:=F.at'.form;obtain⟨c0,c1,c2,c3,c4,c5,c6,c7,c8,c9⟩:=F.facts;have HC:=Xqh (Xpg o3.swap HQ.out.1 HQ.out.2.1 (Nat.le_trans HXS.out.1 (by omega)) F.at' (Nat.le_trans HXS.out.2.2.2.1 (by omega)) (fun _=>HQ.out.2.2));clear hcs F hc3 o3;unfold Xl;generalize(Ar.Xo (Zj (l.take k)) x).1=R at*;obtain⟨r1,r2⟩:=R;go_wp2_with fail;refine HC.out.mono ?_;rintro e w4⟨rfl,o4⟩;clear HC c0 c1 c2 c3 c4 c5 c6 c7 c8 c9;rw[←HX.out.2]at o4;have HO4:=Xqh o4;have hr1:(r1 !=r1)=false:=by{simp};have hr2:(r2 !=r2)=false:=by{simp};clear o4;unfold Xl;go_wp2;go_roundw;(case rel=>exact⟨k+1,hlt,by go_num,HO4⟩);case measure=>simp[intOf];omega};·have hkl:l.take k=l:=List.take_of_length_le (by omega);have ho:=hT.out;rw[hkl]at ho;have HO4:=Xqh ho.swap;clear ho hT hkl;go_wp2;exact bodyPost_ret (v:= .tuple #[.pointer (some ⟨ba,0,none⟩),.pointer (some ⟨bc,0,none⟩),.bool true]) (by simp[results,Tryz.f42,go_sem]) rfl ⟨ba,bc,rfl,HO4.out⟩
end
section
open Go.RowKit Go.Shelf
attribute [local go_sem] Oper.semAt_some
def dk0 : Ar := Ar.new
def dk1 : Ar := dk0.Xn false
def dk2 : Ar := (dk1.element 1 1 ⟨#[104, 116, 109, 108]⟩ []).2
def dk3 : Ar := (dk2.element 1 1 ⟨#[112]⟩ []).2
def dk4 : Ar := (dk3.make 1 (Xs ⟨#[97, 98]⟩)).2
def dk5 : Ar := (dk4.make 1 (YT ⟨#[104, 116, 109, 108]⟩ ⟨#[]⟩ ⟨#[]⟩)).2
def dk6 : Ar := (dk5.make 1 Zm).2
def dk7 : Ar := (dk6.XX 6 3 0).2
def dk8 : Ar := (dk7.XX 6 4 0).2
def dk9 : Ar := (dk8.XX 1 2 0).2
def XbE : Ar := (dk9.XX 1 3 0).2
def XbF : Ar := (XbE.XX 1 4 0).2
def XbG : Ar := (XbF.XX 1 5 0).2
def XbH : Ar := (XbG.XX 1 5 2).2
def Jo : Ar := (XbH.XX 2 6 0).2
def Z9 : Ar := (Jo.split 4 1).2
def XaD : Ar := (Z9.normalize 2).2
theorem Xph :(dk6.XX 6 3 0).1=0:=by
 decide+kernel
theorem Xpi :(dk7.XX 6 4 0).1=0:=by
 decide+kernel
theorem Xpj :(dk8.XX 1 2 0).1=0:=by
 decide+kernel
theorem Xpk :(dk9.XX 1 3 0).1=4:=by
 decide+kernel
theorem Xpl :(XbE.XX 1 4 0).1=4:=by
 decide+kernel
theorem Xpm :(XbF.XX 1 5 0).1=4:=by
 decide+kernel
theorem Xpn :(XbG.XX 1 5 2).1=0:=by
 decide+kernel
theorem Xpo :(XbH.XX 2 6 0).1=0:=by
 decide+kernel
theorem Xpp :Jo.YN 2= [3,4]:=by
 decide+kernel
theorem Xpq :Jo.YN 6= []:=by
 decide+kernel
theorem Xpr :(Jo.split 4 1).1=(7,0):=by
 decide+kernel
theorem Xps :Z9.YN 2= [3,4,7]:=by
 decide+kernel
theorem Xpt :Z9.Xbl 2=(⟨#[97,98]⟩,0):=by
 decide+kernel
theorem Xpu :(Z9.normalize 2).1=0:=by
 decide+kernel
theorem Xpv :XaD.YN 2= [3,4]:=by
 decide+kernel
theorem Xpw :Z9.Xk≤9223372036854775807:=by
 decide+kernel
theorem Xpx :(Z9.Zi (Z9.below 2)).length≤140737488355328:=by
 decide+kernel
theorem Xac {A:Ar}{t:Nat}(h:A.Inv∧A.XB t)(x:OpD)(hx:x.Xb.length≤20)(h1:20≤t)(h2:t≤900):(A.Xo x).2.Inv∧(A.Xo x).2.XB (t+1):=⟨(Xfk h.1 (h.2.mono h2) x hx).1,XeG h.2 x (Nat.le_trans hx h1)⟩
theorem XaE {A:Ar}{t:Nat}(h:A.Inv∧A.XB t)(a b c:Int)(h1:20≤t)(h2:t≤900):(A.XX a b c).2.Inv∧(A.XX a b c).2.XB (t+1):=Xac h ⟨21,a,b,c,false,0,ByteArray.empty,ByteArray.empty,ByteArray.empty,[]⟩ (Nat.zero_le _) h1 h2
theorem Xpy {A:Ar}{t:Nat}(h:A.Inv∧A.XB t)(a b:Int)(h1:20≤t)(h2:t≤900):(A.split a b).2.Inv∧(A.split a b).2.XB (t+1):=Xac h ⟨35,a,b,0,false,0,ByteArray.empty,ByteArray.empty,ByteArray.empty,[]⟩ (Nat.zero_le _) h1 h2
theorem Xpz {A:Ar}{t:Nat}(h:A.Inv∧A.XB t)(a:Int)(h1:20≤t)(h2:t≤900):(A.normalize a).2.Inv∧(A.normalize a).2.XB (t+1):=Xac h ⟨34,a,0,0,false,0,ByteArray.empty,ByteArray.empty,ByteArray.empty,[]⟩ (Nat.zero_le _) h1 h2
theorem XdN {w0 w:World}{B b:Nat}{A:Ar}{l:List Xf}{h:Int}(o:Own w0 B l w)(hm:Xf.arena b A∈l)(hS:A.YC){y:List Int}(hy:A.YN h=y):Calls Tryz.prog 33 #[.pointer (some ⟨b,0,none⟩),.int .i64 h] w fun e w'=>∃a c,e= .returned (.slice a y.length c)∧Own w0 B (.ints (.slice a y.length c) y::l) w':=by
 subst hy
 exact Xap o hm hS
theorem XpA :dk0.Inv∧dk0.XB 20:=⟨Xen,XcY _⟩
theorem XpB :dk1.Inv∧dk1.XB 21:=Xac XpA ⟨1,0,0,0,false,0,ByteArray.empty,ByteArray.empty,ByteArray.empty,[]⟩ (by decide) (by decide) (by decide)
theorem XpC :dk2.Inv∧dk2.XB 22:=Xac XpB ⟨3,1,0,0,false,1,⟨#[104,116,109,108]⟩,ByteArray.empty,ByteArray.empty,[]⟩ (by decide) (by decide) (by decide)
theorem XpD :dk3.Inv∧dk3.XB 23:=Xac XpC ⟨3,1,0,0,false,1,⟨#[112]⟩,ByteArray.empty,ByteArray.empty,[]⟩ (by decide) (by decide) (by decide)
theorem XpE :dk4.Inv∧dk4.XB 24:=Xac XpD ⟨4,1,0,0,false,0,ByteArray.empty,⟨#[97,98]⟩,ByteArray.empty,[]⟩ (by decide) (by decide) (by decide)
theorem XpF :dk5.Inv∧dk5.XB 25:=Xac XpE ⟨2,1,0,0,false,0,⟨#[104,116,109,108]⟩,⟨#[]⟩,⟨#[]⟩,[]⟩ (by decide) (by decide) (by decide)
theorem Xi7 :dk6.Inv∧dk6.XB 26:=Xac XpF ⟨6,1,0,0,false,0,ByteArray.empty,ByteArray.empty,ByteArray.empty,[]⟩ (by decide) (by decide) (by decide)
theorem Xi8 :dk7.Inv∧dk7.XB 27:=XaE Xi7 6 3 0 (by decide) (by decide)
theorem Xi9 :dk8.Inv∧dk8.XB 28:=XaE Xi8 6 4 0 (by decide) (by decide)
theorem Xja :dk9.Inv∧dk9.XB 29:=XaE Xi9 1 2 0 (by decide) (by decide)
theorem Xjb :XbE.Inv∧XbE.XB 30:=XaE Xja 1 3 0 (by decide) (by decide)
theorem Xjc :XbF.Inv∧XbF.XB 31:=XaE Xjb 1 4 0 (by decide) (by decide)
theorem Xjd :XbG.Inv∧XbG.XB 32:=XaE Xjc 1 5 0 (by decide) (by decide)
theorem Xje :XbH.Inv∧XbH.XB 33:=XaE Xjd 1 5 2 (by decide) (by decide)
theorem XfY :Jo.Inv∧Jo.XB 34:=XaE Xje 2 6 0 (by decide) (by decide)
theorem Xco :Z9.Inv∧Z9.XB 35:=Xpy XfY 4 1 (by decide) (by decide)
theorem XpG :XaD.Inv∧XaD.XB 36:=Xpz Xco 2 (by decide) (by decide)
theorem XpH :dk0.ns.length≤20:=by
 decide+kernel
theorem XpI :dk1.ns.length≤20:=by
 decide+kernel
theorem XpJ :dk2.ns.length≤20:=by
 decide+kernel
theorem XpK :dk3.ns.length≤20:=by
 decide+kernel
theorem XpL :dk4.ns.length≤20:=by
 decide+kernel
theorem XpM :dk5.ns.length≤20:=by
 decide+kernel
theorem XpN :dk6.ns.length≤20:=by
 decide+kernel
theorem XpO :dk7.ns.length≤20:=by
 decide+kernel
theorem XpP :dk8.ns.length≤20:=by
 decide+kernel
theorem XpQ :dk9.ns.length≤20:=by
 decide+kernel
theorem XpR :XbE.ns.length≤20:=by
 decide+kernel
theorem XpS :XbF.ns.length≤20:=by
 decide+kernel
theorem XpT :XbG.ns.length≤20:=by
 decide+kernel
theorem XpU :XbH.ns.length≤20:=by
 decide+kernel
theorem Xjf :Jo.ns.length≤20:=by
 decide+kernel
theorem XfZ :Z9.ns.length≤20:=by
 decide+kernel
theorem XpV :XaD.ns.length≤20:=by
 decide+kernel
theorem Xjg :Jo.YC:=XfY.1.short (Nat.le_trans Xjf (by decide))
theorem XpW :Z9.YC:=Xco.1.short (Nat.le_trans XfZ (by decide))
theorem XpX :XaD.YC:=XpG.1.short (Nat.le_trans XpV (by decide))
theorem XdO (w:World):Calls Tryz.prog 19 #[] w fun e w'=>e= .returned (.bool true)∧Below w.heap.size w w':=by
 have HN:=Xqh (Xgv w)
 go_enter Tryz.func19,Tryz.ntmps19
 go_wp2_with fail
 refine HN.out.mono ?_
 rintro e w0⟨rfl,hw1⟩
 have o:=(Own.start w).XgB
 rw[←hw1]at o
 clear hw1 HN
 have o:Own w w.heap.size [.arena w.heap.size dk0] w0:=o
 obtain⟨g,hg⟩:∃g,w.heap.size=g:=⟨_,rfl⟩
 rw[show(Xf.arena w.heap.size dk0)=Xf.arena g dk0 by(rw[hg])]at o
 rw[show(Value.pointer (some (⟨w.heap.size,0,none⟩:Addr)))=Value.pointer (some ⟨g,0,none⟩)by(rw[hg])]
 clear hg
 have HC:=Xqh (o.call (fun ρ hA=>XbO dk0 ρ g false _ hA (Nat.le_trans XpH (by decide))))
 clear o
 go_wp2_with fail
 refine HC.out.mono ?_
 rintro e w1⟨rfl,o1⟩
 clear HC
 have o:Own w w.heap.size [.arena g dk1] w1:=o1
 clear o1
 generalize w1=w0 at*
 have HC:=Xqh (o.call (fun ρ hA=>XaO dk1 ρ g 1 1 ⟨#[104,116,109,108]⟩ (.slice none 0 0) [] _ hA (Xfu (b:=0) (l:= []) (World.ownsRow_nil _ 0 132 3)) (Nat.le_trans (Nat.add_le_add_right XpI _) (by decide)) (by decide)))
 clear o
 go_wp2_with fail
 refine HC.out.mono ?_
 rintro e w1⟨rfl,o1⟩
 clear HC
 have o:Own w w.heap.size [.arena g dk2] w1:=o1
 clear o1
 generalize w1=w0 at*
 have HC:=Xqh (o.call (fun ρ hA=>XaO dk2 ρ g 1 1 ⟨#[112]⟩ (.slice none 0 0) [] _ hA (Xfu (b:=0) (l:= []) (World.ownsRow_nil _ 0 132 3)) (Nat.le_trans (Nat.add_le_add_right XpJ _) (by decide)) (by decide)))
 clear o
 go_wp2_with fail
 refine HC.out.mono ?_
 rintro e w1⟨rfl,o1⟩
 clear HC
 have o:Own w w.heap.size [.arena g dk3] w1:=o1
 clear o1
 generalize w1=w0 at*
 have HC:=Xqh (o.call (fun ρ hA=>Xbe dk3 ρ g 1 ⟨#[97,98]⟩ _ hA (Nat.le_trans XpK (by decide))))
 clear o
 go_wp2_with fail
 refine HC.out.mono ?_
 rintro e w1⟨rfl,o1⟩
 clear HC
 have o:Own w w.heap.size [.arena g dk4] w1:=o1
 clear o1
 generalize w1=w0 at*
 have HC:=Xqh (o.call (fun ρ hA=>XcE dk4 ρ g 1 ⟨#[104,116,109,108]⟩ ⟨#[]⟩ ⟨#[]⟩ _ hA (Nat.le_trans XpL (by decide))))
 clear o
 go_wp2_with fail
 refine HC.out.mono ?_
 rintro e w1⟨rfl,o1⟩
 clear HC
 have o:Own w w.heap.size [.arena g dk5] w1:=o1
 clear o1
 generalize w1=w0 at*
 have HC:=Xqh (o.call (fun ρ hA=>XcF dk5 ρ g 1 _ hA (Nat.le_trans XpM (by decide))))
 clear o
 go_wp2_with fail
 refine HC.out.mono ?_
 rintro e w1⟨rfl,o1⟩
 clear HC
 have o:Own w w.heap.size [.arena g dk6] w1:=o1
 clear o1
 generalize w1=w0 at*
 have HC:=Xqh (Xas (p:=6) (n:=3) o Xi7.1 (Nat.le_trans (Nat.add_le_add_right XpN _) (by decide)))
 rw[Xph]at HC
 clear o
 go_wp2_with fail
 refine HC.out.mono ?_
 rintro e w1⟨rfl,o1⟩
 clear HC
 have o:Own w w.heap.size [.arena g dk7] w1:=o1
 clear o1
 generalize w1=w0 at*
 have HC:=Xqh (Xas (p:=6) (n:=4) o Xi8.1 (Nat.le_trans (Nat.add_le_add_right XpO _) (by decide)))
 rw[Xpi]at HC
 clear o
 go_wp2_with fail
 refine HC.out.mono ?_
 rintro e w1⟨rfl,o1⟩
 clear HC
 have o:Own w w.heap.size [.arena g dk8] w1:=o1
 clear o1
 generalize w1=w0 at*
 have HC:=Xqh (Xas (p:=1) (n:=2) o Xi9.1 (Nat.le_trans (Nat.add_le_add_right XpP _) (by decide)))
 rw[Xpj]at HC
 clear o
 go_wp2_with fail
 refine HC.out.mono ?_
 rintro e w1⟨rfl,o1⟩
 clear HC
 have o:Own w w.heap.size [.arena g dk9] w1:=o1
 clear o1
 generalize w1=w0 at*
 have HC:=Xqh (Xas (p:=1) (n:=3) o Xja.1 (Nat.le_trans (Nat.add_le_add_right XpQ _) (by decide)))
 rw[Xpk]at HC
 clear o
 go_wp2_with fail
 refine HC.out.mono ?_
 rintro e w1⟨rfl,o1⟩
 clear HC
 have o:Own w w.heap.size [.arena g XbE] w1:=o1
 clear o1
 generalize w1=w0 at*
 have HC:=Xqh (Xas (p:=1) (n:=4) o Xjb.1 (Nat.le_trans (Nat.add_le_add_right XpR _) (by decide)))
 rw[Xpl]at HC
 clear o
 go_wp2_with fail
 refine HC.out.mono ?_
 rintro e w1⟨rfl,o1⟩
 clear HC
 have o:Own w w.heap.size [.arena g XbF] w1:=o1
 clear o1
 generalize w1=w0 at*
 have HC:=Xqh (Xas (p:=1) (n:=5) o Xjc.1 (Nat.le_trans (Nat.add_le_add_right XpS _) (by decide)))
 rw[Xpm]at HC
 clear o
 go_wp2_with fail
 refine HC.out.mono ?_
 rintro e w1⟨rfl,o1⟩
 clear HC
 have o:Own w w.heap.size [.arena g XbG] w1:=o1
 clear o1
 generalize w1=w0 at*
 have HC:=Xqh (Xe0 (p:=1) (n:=5) (c:=2) o Xjd.1 (Nat.le_trans (Nat.add_le_add_right XpT _) (by decide)))
 rw[Xpn]at HC
 clear o
 go_wp2_with fail
 refine HC.out.mono ?_
 rintro e w1⟨rfl,o1⟩
 clear HC
 have o:Own w w.heap.size [.arena g XbH] w1:=o1
 clear o1
 generalize w1=w0 at*
 have HC:=Xqh (Xas (p:=2) (n:=6) o Xje.1 (Nat.le_trans (Nat.add_le_add_right XpU _) (by decide)))
 rw[Xpo]at HC
 clear o
 go_wp2_with fail
 refine HC.out.mono ?_
 rintro e w1⟨rfl,o1⟩
 clear HC
 have o:Own w w.heap.size [.arena g Jo] w1:=o1
 clear o1
 generalize w1=w0 at*
 have HC:=Xqh (XdN (b:=g) (A:=Jo) (h:=2) o (by simp) Xjg Xpp)
 clear o
 go_wp2_with fail
 refine HC.out.mono ?_
 rintro e w1⟨ka,kc,rfl,o1⟩
 clear HC
 simp only[List.length_cons,List.length_nil,Nat.zero_add,Nat.reduceAdd]at o1⊢
 have o2:=o1.alloc (.cells #[.int .i64 3,.int .i64 4] 3)
 have HC:=Xqh (XcU (.slice ka 2 kc) (.slice (some ⟨w1.heap.size,0,none⟩) 2 2) [3,4] [3,4] _ (o2.ints (by simp)) (Xbq w1 [3,4] 3 (by decide)))
 rw[show decide (([3,4]:List Int)= [3,4])=true from by{decide}]at HC
 have HO:=Xqh o2
 clear o1 o2
 go_wp2_with fail
 refine HC.out.mono ?_
 rintro e w2⟨rfl,hB⟩
 clear HC
 have o:Own w w.heap.size [.arena g Jo] w2:=(HO.out.read hB).drop.drop
 clear HO hB
 generalize w2=w0 at*
 have HC:=Xqh (XdN (b:=g) (A:=Jo) (h:=6) o (by simp) Xjg Xpq)
 clear o
 go_wp2_with fail
 refine HC.out.mono ?_
 rintro e w1⟨ka,kc,rfl,o1⟩
 clear HC
 simp only[List.length_nil]at o1⊢
 have o:Own w w.heap.size [.arena g Jo] w1:=o1.drop
 clear o1
 generalize w1=w0 at*
 have HC:=Xqh (Xh9 (h:=4) (at':=1) o XfY.1 (Nat.le_trans (Nat.add_le_add_right Xjf _) (by decide)))
 rw[Xpr,show Xl (7,0)= .tuple #[.int .i64 7,.int .i64 0]from rfl]at HC
 clear o
 go_wp2_with fail
 refine HC.out.mono ?_
 rintro e w1⟨rfl,o1⟩
 clear HC
 have o:Own w w.heap.size [.arena g Z9] w1:=o1
 clear o1
 generalize w1=w0 at*
 have HC:=Xqh (Xnw (h:=2) o Xco.1 (Nat.le_trans XfZ (by decide)) Xpx)
 rw[Xpt]at HC
 clear o
 go_wp2_with fail
 refine HC.out.mono ?_
 rintro e w1⟨rfl,o1⟩
 clear HC
 have o:Own w w.heap.size [.arena g Z9] w1:=o1
 clear o1
 generalize w1=w0 at*
 have HC:=Xqh (XdN (b:=g) (A:=Z9) (h:=2) o (by simp) XpW Xps)
 clear o
 go_wp2_with fail
 refine HC.out.mono ?_
 rintro e w1⟨ka,kc,rfl,o1⟩
 clear HC
 simp only[List.length_cons,List.length_nil,Nat.zero_add,Nat.reduceAdd]at o1⊢
 have o2:=o1.alloc (.cells #[.int .i64 3,.int .i64 4,.int .i64 7] 3)
 have HC:=Xqh (XcU (.slice ka 3 kc) (.slice (some ⟨w1.heap.size,0,none⟩) 3 3) [3,4,7] [3,4,7] _ (o2.ints (by simp)) (Xbq w1 [3,4,7] 3 (by decide)))
 rw[show decide (([3,4,7]:List Int)= [3,4,7])=true from by{decide}]at HC
 have HO:=Xqh o2
 clear o1 o2
 go_wp2_with fail
 refine HC.out.mono ?_
 rintro e w2⟨rfl,hB⟩
 clear HC
 have o:Own w w.heap.size [.arena g Z9] w2:=(HO.out.read hB).drop.drop
 clear HO hB
 generalize w2=w0 at*
 have HC:=Xqh (Xia (h:=2) o Xco.1 (Nat.le_trans XfZ (by decide)) (fun y hy=>Nat.le_trans (Xmg Xco.1 hy) Xpw))
 rw[Xpu]at HC
 clear o
 go_wp2_with fail
 refine HC.out.mono ?_
 rintro e w1⟨rfl,o1⟩
 clear HC
 have o:Own w w.heap.size [.arena g XaD] w1:=o1
 clear o1
 generalize w1=w0 at*
 have HC:=Xqh (XdN (b:=g) (A:=XaD) (h:=2) o (by simp) XpX Xpv)
 clear o
 go_wp2_with fail
 refine HC.out.mono ?_
 rintro e w1⟨ka,kc,rfl,o1⟩
 clear HC
 simp only[List.length_cons,List.length_nil,Nat.zero_add,Nat.reduceAdd]at o1⊢
 have o2:=o1.alloc (.cells #[.int .i64 3,.int .i64 4] 3)
 have HC:=Xqh (XcU (.slice ka 2 kc) (.slice (some ⟨w1.heap.size,0,none⟩) 2 2) [3,4] [3,4] _ (o2.ints (by simp)) (Xbq w1 [3,4] 3 (by decide)))
 rw[show decide (([3,4]:List Int)= [3,4])=true from by{decide}]at HC
 have HO:=Xqh o2
 clear o1 o2
 go_wp2_with fail
 refine HC.out.mono ?_
 rintro e w2⟨rfl,hB⟩
 clear HC
 have o:Own w w.heap.size [.arena g XaD] w2:=(HO.out.read hB).drop.drop
 clear HO hB
 generalize w2=w0 at*
 have HO:=Xqh o
 clear o
 go_wp2
 go_ret
 exact⟨rfl,HO.out.low⟩
end
section
theorem textOf_len (A:Ar):∀l:List Int,(A.Zi l).length=(l.map (fun x=>tx (A.get x))).sum
 | []=>rfl
 |x::l=>by{have e:A.Zi (x::l)=(if(A.get x).Xa=5 then(A.get x).data.toList else [])++A.Zi l:=rfl;rw[e,List.length_append,textOf_len A l,List.map_cons,List.sum_cons];unfold tx;split;·{rw[Go.ByteArray.toList_eq];rfl};·rfl}
theorem textOf_mass {A:Ar}(hI:A.Inv)(h:Int)(hh:A.has h):(A.Zi (A.below h)).length≤A.Xk:=by
 rw[textOf_len,Xce]
 exact Xax (List.nodup_cons.1 (Xfn hI hh)).2 (fun x hx=>ZW.2 (Zt hI h hh x hx).1)
end
section
open Go.RowKit Go.Shelf Classical
theorem below_get {A:Ar}{h k:Int}(e:A.get h=A.get k):A.below h=A.below k:=by
 unfold Ar.below
 cases A.ns.length with|zero=>{rfl}|succ n=>unfold belowF;rw[e]
theorem textOf_any {A:Ar}(hI:A.Inv)(h:Int):(A.Zi (A.below h)).length≤A.Xk:=by
 by_cases hh:A.has h
 ·exact textOf_mass hI h hh
 ·have hz:A.get h=XL→(A.Zi (A.below h)).length≤A.Xk:=fun e=>by{have:A.below h= []:=by{unfold Ar.below;cases A.ns.length with|zero=>{rfl}|succ n=>unfold belowF;rw[e];rfl};rw[this];exact Nat.zero_le _};by_cases h0:h≤0;·{have e:A.get h=A.get 1:=by{unfold Ar.get;rw[show h.toNat-1=0 by(omega)];rfl};by_cases h1:A.has 1;·{rw[below_get e];exact textOf_mass hI 1 h1};·refine hz ?_;have:A.ns.length=0:=Classical.not_not.1 (fun q=>h1 ⟨Int.le_refl _,by unfold Ar.n;omega⟩);unfold Ar.get;rw[List.getElem?_eq_none (by omega)];rfl};·refine hz ?_;have:A.ns.length≤h.toNat-1:=Nat.le_of_not_lt (fun q=>hh ⟨by omega,by unfold Ar.n;omega⟩);unfold Ar.get;rw[List.getElem?_eq_none this];rfl
end
section
open Go.RowKit Go.Shelf
theorem snoc_ind' {α:Type}{P:List α→Prop}(nil:P [])(snoc:∀l x,P l→P (l++ [x])):∀l,P l:=by
 have key:∀(n:Nat)(l:List α),l.length≤n→P l:=by intro n;induction n with|zero=>{intro l h;have:l= []:=List.eq_nil_of_length_eq_zero (by omega);rw[this];exact nil}|succ n ih=>intro l h;by_cases q:l= [];·{rw[q];exact nil};·rw[←List.dropLast_concat_getLast q];exact snoc _ _ (ih _ (by rw[List.length_dropLast];omega))
 exact fun l=>key _ l (Nat.le_refl _)
theorem empty_kids {A:Ar}(hI:A.Inv){p:Int}(hp:A.has p):((A.empty p).get p).Xc= []:=by
 have key:∀(l1 l2:List Int),(A.get p).Xc=l1++l2→(l1.foldl (fun B k=>B.cut k) A).Inv∧(l1.foldl (fun B k=>B.cut k) A).n=A.n∧((l1.foldl (fun B k=>B.cut k) A).get p).Xc=l2:=by intro l1;induction l1 using snoc_ind' with|nil=>{intro l2 e;exact⟨hI,rfl,e⟩}|snoc l1 x ih=>intro l2 e;rw[List.append_assoc]at e;obtain⟨h1,h2,h3⟩:=ih (x::l2) (by simpa using e);rw[List.foldl_append];simp only[List.foldl_cons,List.foldl_nil];generalize l1.foldl (fun B k=>B.cut k) A=B at*;have hpB:B.has p:=by{unfold Ar.has;rw[h2];exact hp};obtain⟨x1,x2⟩:=h1.wf.Xc p hpB x (by rw[h3];simp);refine⟨Ar.XC.cut h1 x1,(Ar.XaG B x).trans h2,?_⟩;rw[Ar.Xjj h1.wf x1 hpB,if_pos x2.symm,h3];have hnd:=h1.wf.nodup p hpB;rw[h3]at hnd;have hx:=(List.nodup_cons.1 hnd).1;unfold XQ;rw[List.filter_cons_of_neg (by simp),List.filter_eq_self.2];intro y hy;simp;rintro rfl;exact hx hy
 exact(key (A.get p).Xc [] (by simp)).2.2
theorem texts_no {A:Ar}(hI:A.Inv){h:Int}{s:ByteArray}(hk:¬A.has h∨(A.get h).Xa=1∨(A.get h).Xa=3):A.YE h s=((A.Xbl h).2,A):=by
 unfold Ar.YE Ar.Xbl
 by_cases hh:A.has h
 ·have hk':=hk.resolve_left (fun q=>q hh);have a5:¬((A.get h).Xa=5∨(A.get h).Xa=6):=by{omega};have a4:¬((A.get h).Xa=4∨(A.get h).Xa=2):=by{omega};have ah:¬¬A.has h:=fun q=>q hh;rw[if_neg ah,if_neg ah,if_neg a5,if_neg a5,if_neg a4,if_pos hk']
 ·rw[if_pos hh,if_pos hh]
theorem texts_data {A:Ar}{h:Int}{s:ByteArray}(hh:A.has h)(hk:(A.get h).Xa=5∨(A.get h).Xa=6):(A.YE h s).1=0∧(A.Xbl h).2=0∧(A.YE h s).2.has h∧((A.YE h s).2.get h).Xa=(A.get h).Xa∧((A.YE h s).2.get h).data=s∧(A.YE h s).2.Xbl h=(s,0):=by
 have e:A.YE h s=(0,A.mod h (fun x=>{x with data:=s})):=by unfold Ar.YE;rw[if_neg (fun q=>q hh),if_pos hk];unfold Ar.XG;rw[if_neg (fun q=>q hh),if_neg (fun q=>q hk)]
 rw[e]
 dsimp only
 have g:(A.mod h (fun x=>{x with data:=s})).get h={A.get h with data:=s}:=by rw[Ar.Zr _ hh hh,if_pos rfl]
 have hh':(A.mod h (fun x=>{x with data:=s})).has h:=(Ar.ZU A h _ h).2 hh
 refine⟨rfl,?_,hh',by rw[g],by rw[g],?_⟩
 ·unfold Ar.Xbl;rw[if_neg (fun q=>q hh),if_pos hk]
 ·unfold Ar.Xbl;rw[if_neg (fun q=>q hh'),if_pos (by rw[g];exact hk),g]
theorem texts_kids {A:Ar}(hI:A.Inv){h:Int}{s:ByteArray}(hh:A.has h)(hk:(A.get h).Xa=4∨(A.get h).Xa=2):(A.YE h s).1=0∧(A.Xbl h).2=0∧(A.YE h s).2.has h∧((A.YE h s).2.get h).Xa=(A.get h).Xa∧((A.YE h s).2.get h).Xc.length=(if s=ByteArray.empty then 0 else 1)∧(A.YE h s).2.Xbl h=(s,0):=by
 obtain⟨e1,e2,e3,e4⟩:=Xcg hI hh
 have hhE:(A.empty h).has h:=by unfold Ar.has;rw[e2];exact hh
 have hkE:=empty_kids hI hh
 have ht0:(A.Xbl h).2=0:=by unfold Ar.Xbl;rw[if_neg (fun q=>q hh),if_neg (by omega),if_neg (by omega)]
 by_cases hs:s=ByteArray.empty
 ·have e:A.YE h s=(0,A.empty h):=by{unfold Ar.YE;rw[if_neg (fun q=>q hh),if_neg (by omega),if_pos hk,if_pos hs]};rw[e];refine⟨rfl,ht0,hhE,(e4 h hh).1,by rw[hkE,if_pos hs];rfl,?_⟩;unfold Ar.Xbl;rw[if_neg (fun q=>q hhE),if_neg (by rw[(e4 h hh).1];omega),if_neg (by rw[(e4 h hh).1];omega),ZD e1 hhE,hkE,hs];rfl
 ·have hEk:((A.empty h).get h).Xa=4∨((A.empty h).get h).Xa=2:=by{rw[(e4 h hh).1];exact hk};obtain⟨d1,d2⟩:=e1.ZV h hhE;have hpt:=Xor (s:=s) e1 hhE hEk d1 d2;have hm:=Xb7 (A:=A.empty h) (d:=((A.empty h).get h).doc) (Xs s) (J6 d1 d2);have hI2:((A.empty h).make ((A.empty h).get h).doc (Xs s)).2.Inv:=e1.make rfl rfl rfl rfl (JX _) (by simp[Xs]) (by simp[Xs]);have e:A.YE h s=((((A.empty h).make ((A.empty h).get h).doc (Xs s)).2.put h ((A.empty h).make ((A.empty h).get h).doc (Xs s)).1.1 0).1,(((A.empty h).make ((A.empty h).get h).doc (Xs s)).2.put h ((A.empty h).make ((A.empty h).get h).doc (Xs s)).1.1 0).2):=by{unfold Ar.YE;rw[if_neg (fun q=>q hh),if_neg (by omega),if_pos hk,if_neg hs]};rw[e];rw[hm]at hpt hI2⊢;dsimp only at hpt hI2⊢;have kd:=(e4 h hh).1;generalize A.empty h=E at*;have hy:(E.add {Xs s with doc:=(E.get h).doc}).has (E.n+1):=(Ar.XO _ _ _).2 (.inr rfl);have gy:(E.add {Xs s with doc:=(E.get h).doc}).get (E.n+1)={Xs s with doc:=(E.get h).doc}:=Ar.YS _ _;have hc:(E.add {Xs s with doc:=(E.get h).doc}).has h:=(Ar.XO _ _ _).2 (.inl hhE);have gc:(E.add {Xs s with doc:=(E.get h).doc}).get h=E.get h:=Ar.Zb _ hhE;have hne:h≠E.n+1:=by{have:=hhE.2;omega};generalize E.add {Xs s with doc:=(E.get h).doc}=F at*;have hw:F.Xi (E.n+1)= [E.n+1]:=by{rw[Ym hI2 hy,gy];simp[Xs,XL]};obtain⟨f1,f2⟩:=Xl3 hI2 (c:=h) (y:=E.n+1) hc hy (by rw[gc];omega) (by rw[gy];exact⟨by show(5:Int)≠1;decide,by show(5:Int)≠2;decide⟩) (by rw[gy];rfl) (by rw[hw];simp;exact hne);obtain⟨g1,g2⟩:=f2 h hc;obtain⟨g3,g4⟩:=f2 _ hy;clear f2;generalize(F.put h (E.n+1) 0).2=G at*;rw[gc,if_pos rfl,hkE,if_neg hne]at g2;rw[gy,if_neg (fun q=>hne q.symm),if_pos rfl]at g4;have k1:(G.get h).Xa=(E.get h).Xa:=(congrArg Nd.Xa g2).trans rfl;have k2:(G.get h).Xc= [E.n+1]:=(congrArg Nd.Xc g2).trans rfl;have k3:(G.get (E.n+1)).Xa=5:=(congrArg Nd.Xa g4).trans rfl;have k4:(G.get (E.n+1)).data=s:=(congrArg Nd.data g4).trans rfl;have k5:(G.get (E.n+1)).Xc= []:=(congrArg Nd.Xc g4).trans rfl;refine⟨hpt,ht0,g1,by rw[k1];exact kd,by rw[k2,if_neg hs];rfl,?_⟩;unfold Ar.Xbl;rw[if_neg (fun q=>q g1),if_neg (by rw[k1];omega),if_neg (by rw[k1];omega),ZD f1 g1,k2];have hb:G.below (E.n+1)= []:=by{rw[ZD f1 g3,k5];rfl};simp only[List.flatMap_cons,List.flatMap_nil,List.append_nil,hb];unfold Ar.Zi;simp only[List.flatMap_cons,List.flatMap_nil,List.append_nil,k3,k4,if_true];rw[Go.ByteArray.toList_eq]
end
section
open Go.RowKit Go.Shelf
theorem setText_inv {A:Ar}(hI:A.Inv)(h:Int)(s:ByteArray):(A.YE h s).2.Inv∧(A.YE h s).2.ns.length≤A.ns.length+3:=by
 unfold Ar.YE
 split
 ·exact⟨hI,Nat.le_add_right _ 3⟩
 ·rename_i hh;have hh:=Classical.not_not.1 hh;split;·{exact⟨hI.XG _ _,by rw[(J7 _ _ _).2.1];omega⟩};·split;·{obtain⟨q1,q2,q3,q4⟩:=Xcg hI hh;have hl:=Xbw q2;split;·{exact⟨q1,by dsimp only;omega⟩};·dsimp only;refine⟨Ar.Inv.put (q1.make rfl rfl rfl rfl (JX _) (by simp[Xs]) (by simp[Xs])) _ _ _,?_⟩;rw[XhJ];have:=JM (A.empty h) ((A.empty h).get h).doc (Xs s);omega};·exact⟨hI,Nat.le_add_right _ 3⟩
theorem uv_59' :∀c:Nat,c<9→2^c*(uv (59-c)).1+400≤140737488355328:=by
 decide+kernel
theorem run60_mass' {l:List OpD}{m:Int}(h:Jj l m)(hm:m≤60):(Zj l).Xk+400≤140737488355328:=by
 obtain⟨-,hx,hc⟩:=Xir h (by omega)
 have hl:l.length≤60:=by have:=h.1.1;omega
 cases l with|nil=>{have:=new_mass;exact Nat.le_trans (Nat.add_le_add_right (Nat.le_of_eq new_mass) 400) (by omega)}|cons x l=>have h1:=Xna (hx x (by simp));obtain⟨f1,f2⟩:=Xfk Xen (XcY 900) x (hx x (by simp)).2.2.2.1;have g:=XhA f1;have gk:=Xil f1;have f3:=XeG (XcY 20) x (hx x (by simp)).2.2.2.1;obtain⟨-,-,-,q4,-,-⟩:=Xdz l (A:=(Ar.new.Xo x).2) (t:=21) (c:=0) (n:=0) f1 f3 (by omega) (by simp at hl;omega) (fun y hy=>hx y (by simp[hy])) (by omega) (by omega) (by omega);have e:=Xfy l;rw[Xfz]at hc;have hcl:cpN l<9:=by{split at hc<;>omega};refine Nat.le_trans (Nat.add_le_add_right (Nat.le_trans q4 ?_) 400) (uv_59' (cpN l) hcl);rw[Nat.zero_add,Nat.zero_add];exact Nat.mul_le_mul_left _ (uv_mono (by simp at hl;omega))
theorem NodeL_own {w0 w:World}{B b:Nat}{A:Ar}{l:List Xf}{h:Int}(o:Own w0 B l w)(hm:Xf.arena b A∈l)(hS:A.YC){n:Nd}{er:Int}(hn:(if A.has h then A.get h else XL)=n)(he:(if A.has h then(0:Int)else 3)=er):Calls Tryz.prog 34 #[.pointer (some ⟨b,0,none⟩),.int .i64 h] w fun e w'=>∃ka kc aa ac,e= .returned (.tuple #[.agg (n.cells (.slice ka n.Xc.length kc) (.slice aa n.Xb.length ac)).toArray,.int .i64 er])∧Own w0 B l w'∧Below w.heap.size w w':=by
 subst hn
 subst he
 obtain⟨ρ,hA⟩:=o.arena hm
 refine(XcO A ρ b h w hA hS).mono ?_
 rintro e w'⟨hB,kv,av,rfl,h1,h2⟩
 obtain⟨ka,kc,rfl⟩:=X6 h1
 obtain⟨aa,ac,rfl⟩:=X6 h2
 exact⟨ka,kc,aa,ac,rfl,o.read hB,hB⟩
end
section
open Go.RowKit Go.Shelf Classical
theorem texts_facts {A:Ar}(hI:A.Inv)(h:Int)(s:ByteArray){B:Ar}(hB:(A.YE h s).2=B){nd:Nd}(hnd:(if B.has h then B.get h else XL)=nd):(A.YE h s).1=(A.Xbl h).2∧((B=A∧((A.Xbl h).2≠0∨(A.Xbl h).2=0∧nd.Xa=1∨(A.Xbl h).2=0∧nd.Xa=3))∨((A.Xbl h).2=0∧(nd.Xa=5∨nd.Xa=6)∧B.Xbl h=(s,0)∧nd.data=s)∨((A.Xbl h).2=0∧(nd.Xa=4∨nd.Xa=2)∧B.Xbl h=(s,0)∧nd.Xc.length=(if s=ByteArray.empty then 0 else 1))):=by
 subst hB hnd
 by_cases hh:A.has h
 ·have k1:=(hI.loc h hh).k1;have k6:=(hI.loc h hh).k6;by_cases hk:(A.get h).Xa=1∨(A.get h).Xa=3;·{have e:=texts_no hI (s:=s) (.inr hk);have e0:(A.Xbl h).2=0:=by{unfold Ar.Xbl;rw[if_neg (fun q=>q hh),if_neg (by omega),if_pos hk]};rw[e];refine⟨rfl,.inl ⟨rfl,?_⟩⟩;dsimp only;rw[if_pos hh];rcases hk with q|q;·{exact .inr (.inl ⟨e0,q⟩)};·exact .inr (.inr ⟨e0,q⟩)};·by_cases hd:(A.get h).Xa=5∨(A.get h).Xa=6;·{obtain⟨t1,t2,t3,t4,t5,t6⟩:=texts_data (s:=s) hh hd;refine⟨by rw[t1,t2],.inr (.inl ?_)⟩;rw[if_pos t3,t4,t5];exact⟨t2,hd,t6,rfl⟩};·have h4:(A.get h).Xa=4∨(A.get h).Xa=2:=by{omega};obtain⟨t1,t2,t3,t4,t5,t6⟩:=texts_kids hI (s:=s) hh h4;refine⟨by rw[t1,t2],.inr (.inr ?_)⟩;rw[if_pos t3,t4,t5];exact⟨t2,h4,t6,rfl⟩
 ·have e:=texts_no hI (s:=s) (h:=h) (.inl hh);rw[e];refine⟨rfl,.inl ⟨rfl,.inl ?_⟩⟩;unfold Ar.Xbl;rw[if_pos hh];decide
theorem DomTexts_no (v:Value)(l:List OpD)(h:Int)(s:ByteArray)(w:World)(hv:JW w v l)(hs:¬Jj l 60):Calls Tryz.prog 10 #[v,.int .i64 h,.string s] w fun e w'=>e= .returned (.bool true)∧Below w.heap.size w w':=by
 have HS:=Xqh (XdA v l 60 w hv)
 have HD:=Xqh (show decide (Jj l 60)=false from decide_eq_false hs)
 obtain⟨av,cv,rfl,-⟩:=hv
 go_enter Tryz.func10,Tryz.ntmps10
 go_wp2_with fail
 refine HS.out.mono ?_
 rintro e w1⟨rfl,hB1⟩
 rw[HD.out]
 go_wp2_with fail
 refine(XdO w1).mono ?_
 rintro e w2⟨rfl,hB2⟩
 go_wp2
 go_ret
 exact⟨rfl,hB1.trans (hB2.mono hB1.size)⟩
theorem DomTexts_long (v:Value)(l:List OpD)(h:Int)(s:ByteArray)(w:World)(hv:JW w v l)(hs:Jj l 60)(hb:¬s.size≤400):Calls Tryz.prog 10 #[v,.int .i64 h,.string s] w fun e w'=>e= .returned (.bool true)∧Below w.heap.size w w':=by
 have HS:=Xqh (XdA v l 60 w hv)
 have HD:=Xqh (show decide (Jj l 60)=true from decide_eq_true hs)
 have hb1:(400:Int)<(s.size:Int):=by omega
 obtain⟨av,cv,rfl,-⟩:=hv
 go_enter Tryz.func10,Tryz.ntmps10
 go_wp2_with fail
 refine HS.out.mono ?_
 rintro e w1⟨rfl,hB1⟩
 rw[HD.out]
 go_wp2_with fail
 refine(XdO w1).mono ?_
 rintro e w2⟨rfl,hB2⟩
 go_wp2
 go_ret
 exact⟨rfl,hB1.trans (hB2.mono hB1.size)⟩
theorem DomTexts_any (v:Value)(l:List OpD)(h:Int)(s:ByteArray)(w:World)(hv:JW w v l):Calls Tryz.prog 10 #[v,.int .i64 h,.string s] w fun e w'=>e= .returned (.bool true)∧Below w.heap.size w w':=by
 by_cases hs:Jj l 60
 case neg=>exact DomTexts_no v l h s w hv hs
 by_cases hb:s.size≤400
 case neg=>exact DomTexts_long v l h s w hv hs hb
 have HS:=Xqh (XdA v l 60 w hv)
 have HD:=Xqh (show decide (Jj l 60)=true from decide_eq_true hs)
 obtain⟨i1,-,hlen,-⟩:=XfA hs (by omega) (Nat.le_refl l.length)
 rw[List.take_length]at i1 hlen
 have HP:=Xqh (fun W(o:Own w w.heap.size [] W)=>Xi6 o v l (fun W' o'=>hv.below o'.low) hs (by omega))
 have HI:=Xqh (i1.short (show(Zj l).ns.length≤1000000 by omega))
 have o0:=Own.start w
 obtain⟨av,cv,rfl,-⟩:=hv
 have hmass:=run60_mass' hs (by omega)
 clear hs
 generalize Zj l=A at*
 have HTX:=Xqh (fun(W:World)(b:Nat)(ll:List Xf)(o:Own w w.heap.size (.arena b A::ll) W)=>Xnw (h:=h) o i1 (by omega) (Nat.le_trans (textOf_any i1 h) (by omega)))
 have HRT:=Xqh (fun(W:World)(c:Nat)(ll:List Xf)(o:Own w w.heap.size ll W)(hm:Xf.refar c A∈ll)=>RText_own (h:=h) o hm i1 (by omega) (Nat.le_trans (textOf_any i1 h) (by omega)))
 have HST:=Xqh (fun(W:World)(b:Nat)(ll:List Xf)(o:Own w w.heap.size (.arena b A::ll) W)=>Xmp (h:=h) (s:=s) o i1 (by omega))
 obtain⟨q1,q2⟩:=setText_inv i1 h s
 have q3:=Xm5 A h s
 have HTB:=Xqh (fun(W:World)(b:Nat)(ll:List Xf)(o:Own w w.heap.size (.arena b (A.YE h s).2::ll) W)=>Xnw (h:=h) o q1 (by omega) (Nat.le_trans (textOf_any q1 h) (by omega)))
 have HBS:=Xqh (q1.short (show(A.YE h s).2.ns.length≤1000000 by omega))
 obtain⟨B,hB⟩:∃B,(A.YE h s).2=B:=⟨_,rfl⟩
 obtain⟨nd,hnd⟩:∃nd,(if B.has h then B.get h else XL)=nd:=⟨_,rfl⟩
 obtain⟨en,hen⟩:∃en,(if B.has h then(0:Int)else 3)=en:=⟨_,rfl⟩
 obtain⟨f1,f2⟩:=texts_facts i1 h s hB hnd
 rw[f1]at HST
 rw[hB]at HST HTB HBS
 have HND:=Xqh (fun(W:World)(b:Nat)(ll:List Xf)(o:Own w w.heap.size ll W)(hm:Xf.arena b B∈ll)=>NodeL_own o hm HBS.out hnd hen)
 have HLAW:=Xqh f2
 have hbs:¬(400:Int)<(s.size:Int):=by omega
 clear i1 q1 q2 q3 hB hnd hen f1 f2 hmass hlen HBS
 obtain⟨er,her⟩:∃er,er=(A.Xbl h).2:=⟨_,rfl⟩
 obtain⟨t,ht⟩:∃t,t=(A.Xbl h).1:=⟨_,rfl⟩
 obtain⟨g,hg⟩:∃g,g=(B.Xbl h).2:=⟨_,rfl⟩
 obtain⟨got,hgot⟩:∃got,got=(B.Xbl h).1:=⟨_,rfl⟩
 have HE:=Xqh (And.intro her (And.intro ht (And.intro hg hgot)))
 rw[←her,←ht]at HTX HRT
 rw[←her]at HST
 rw[←hg,←hgot]at HTB
 have hee:(er !=er)=false:=by simp
 have htt:(t.toList==t.toList)=true:=by simp
 clear her ht hg hgot
 go_enter Tryz.func10,Tryz.ntmps10
 go_wp2_with fail
 refine HS.out.mono ?_
 rintro e w1⟨rfl,hB1⟩
 rw[HD.out]
 have o1:=o0.read hB1
 clear o0 HS HD hB1
 go_wp2_with fail
 refine(HP.out _ o1).mono ?_
 rintro e w2⟨b,c,rfl,o2⟩
 clear o1 HP
 go_wp2_with fail
 refine(HTX.out _ b _ o2).mono ?_
 rintro e w3⟨rfl,o3⟩
 clear o2 HTX
 go_wp2_with fail
 refine(HRT.out _ c _ o3 (by simp)).mono ?_
 rintro e w4⟨rfl,hB4⟩
 have o4:=o3.read hB4
 clear o3 hB4 HRT
 go_wp2_with fail
 refine(HST.out _ b _ o4).mono ?_
 rintro e w5⟨rfl,o5⟩
 clear o4 HST
 go_wp2_with fail
 refine(HND.out _ b _ o5 (by simp)).mono ?_
 rintro e w6⟨ka,kc,aa,ac,rfl,o6,-⟩
 clear o5 HND
 have HT:=Xqh (XV (w:=w6) nd ka kc aa ac nd.Xc.length nd.Xb.length)
 have o7:=o6.XU nd (.slice ka nd.Xc.length kc) (.slice aa nd.Xb.length ac)
 go_wp2_with((with_reducible refine wpList_store_mid ?_ 46 (.tmp 14) (.tmp 69) ?_ w6.heap.size 0 (nd.cells (.slice ka nd.Xc.length kc) (.slice aa nd.Xb.length ac)).toArray ?_ ?_ ?_ ?_ ?_ ?_);exact rfl;exact rfl;exact rfl;exact rfl;exact HT.out.1;exact XM _ _ _;exact all_oneCell_toArray HT.out.2;clear HT;generalize hw7:World.setCells _ _ _ _=w7 at o7⊢;generalize hg5:w6.heap.size=g5 at o7⊢;clear hw7 hg5;skip)
 clear o6
 refine(HTB.out _ b _ o7.swap).mono ?_
 rintro e w8⟨rfl,o8⟩
 clear o7 HTB
 have bx:=o8.box (g:=g5) (o:= .cells (nd.cells (.slice ka nd.Xc.length kc) (.slice aa nd.Xb.length ac)).toArray 46 (0,0)) (by simp)
 have n0:w8.cell? ⟨g5,0,none⟩=some (.int .i64 nd.Xa):=(cell_of_row w8 _ _ _ _ _ bx).trans rfl
 have n2:w8.cell? ⟨g5,2,none⟩=some (.slice ka nd.Xc.length kc):=(cell_of_row w8 _ _ _ _ _ bx).trans rfl
 have n7:w8.cell? ⟨g5,7,none⟩=some (.string nd.data):=(cell_of_row w8 _ _ _ _ _ bx).trans rfl
 have HO:=Xqh o8
 clear o8 bx
 rcases HLAW.out with⟨rfl,hk⟩|⟨h0,hk,he,hd⟩|⟨h0,hk,he,hd⟩
 ·obtain⟨z1,z2,z3,z4⟩:=HE.out;rw[←z1]at hk;obtain rfl:g=er:=z3.trans z1.symm;obtain rfl:got=t:=z4.trans z2.symm;have hge:(g==g)=true:=by{simp};have HM:=Xqh (Xl1 HO.out (b:=b) (c:=c) (by simp) (by simp) HI.out);clear z1 z2 z3 z4 HE HLAW n2 n7;rcases hk with hk|⟨h0,hk⟩|⟨h0,hk⟩;·{have y1:(g !=0)=true:=by{simp[hk]};clear hk;go_wp2_with fail;refine(HM.out).mono ?_;rintro e w9⟨rfl,o9⟩;clear HM HO;go_wp2_with fail;refine(XdO _).mono ?_;rintro e wk⟨rfl,hBk⟩;have HB:=Xqh (o9.back hBk);clear hBk;go_wp2;go_ret;exact⟨rfl,HB.out⟩};·{have y1:(g !=0)=false:=by{simp[h0]};have y2:(nd.Xa==1)=true:=by{simp[hk]};clear hk h0;go_wp2_with fail;refine(HM.out).mono ?_;rintro e w9⟨rfl,o9⟩;clear HM HO;go_wp2_with fail;refine(XdO _).mono ?_;rintro e wk⟨rfl,hBk⟩;have HB:=Xqh (o9.back hBk);clear hBk;go_wp2;go_ret;exact⟨rfl,HB.out⟩};·have y1:(g !=0)=false:=by{simp[h0]};have y2:(nd.Xa==1)=false:=by{simp[hk]};have y3:(nd.Xa==3)=true:=by{simp[hk]};clear hk h0;go_wp2_with fail;refine(HM.out).mono ?_;rintro e w9⟨rfl,o9⟩;clear HM HO;go_wp2_with fail;refine(XdO _).mono ?_;rintro e wk⟨rfl,hBk⟩;have HB:=Xqh (o9.back hBk);clear hBk;go_wp2;go_ret;exact⟨rfl,HB.out⟩
 ·obtain⟨z1,z2,z3,z4⟩:=HE.out;rw[he]at z3 z4;rw[←z1]at h0;obtain rfl:got=s:=z4;have hs2:(got.toList==got.toList)=true:=by{simp};have y1:(er !=0)=false:=by{simp[h0]};have y2:(nd.Xa==1)=false:=by{rcases hk with q|q<;>simp[q]};have y3:(nd.Xa==3)=false:=by{rcases hk with q|q<;>simp[q]};rw[hd]at n7;have HO2:=Xqh HO.out;clear z1 z2 z3 HE HLAW n2 he hd h0;rcases hk with hk|hk;·{have y5:(nd.Xa==5)=true:=by{simp[hk]};clear hk;go_wp2_with fail;refine(XdO _).mono ?_;rintro e wk⟨rfl,hBk⟩;have HB:=Xqh (HO2.out.back hBk);clear hBk;go_wp2;go_ret;exact⟨rfl,HB.out⟩};·have y5:(nd.Xa==5)=false:=by{simp[hk]};have y6:(nd.Xa==6)=true:=by{simp[hk]};clear hk;go_wp2_with fail;refine(XdO _).mono ?_;rintro e wk⟨rfl,hBk⟩;have HB:=Xqh (HO2.out.back hBk);clear hBk;go_wp2;go_ret;exact⟨rfl,HB.out⟩
 ·obtain⟨z1,z2,z3,z4⟩:=HE.out;rw[he]at z3 z4;rw[←z1]at h0;obtain rfl:got=s:=z4;obtain rfl:g=0:=z3;have hs2:(got.toList==got.toList)=true:=by{simp};have y1:(er !=0)=false:=by{simp[h0]};have y2:(nd.Xa==1)=false:=by{rcases hk with q|q<;>simp[q]};have y3:(nd.Xa==3)=false:=by{rcases hk with q|q<;>simp[q]};have y5:(nd.Xa==5)=false:=by{rcases hk with q|q<;>simp[q]};have y6:(nd.Xa==6)=false:=by{rcases hk with q|q<;>simp[q]};have HK:=Xqh (fun x:Wld w8=>XdO x.val);clear z1 z2 HE HLAW n7 he h0 hk;by_cases q:got=ByteArray.empty;·{have hem:got.toList.isEmpty=true:=by{rw[Xck];exact decide_eq_true q};have hk0:nd.Xc.length=0:=by{rw[hd,if_pos q]};rw[hk0]at n2;have x0:=Wld.cell (w:=w8) n0;have x2:=Wld.cell (w:=w8) n2;have HON:=Xqh (fun(x:Wld w8)=>(Xib false x.val).mono (fun e w' hh=>show e= .returned (.int .i64 0)∧x.val=w' from⟨hh.1,hh.2.symm⟩));clear hd hk0 q;go_wp2;refine XaV (by kernel_rfl) (by kernel_rfl) ?_;(repeat(go_big_quiet_step(first|(go_at_call 56;exact Wld.same (HON.out _))|(go_at_call 19;exact Wld.call (HK.out _)))));refine wpQuiet_nil ?_;rintro _⟨⟨W9,hW9⟩,rfl⟩;have HB9:=Xqh (HO.out.back hW9);clear hW9 HK HON;go_wp2;go_ret;exact⟨rfl,HB9.out⟩};·have hem:got.toList.isEmpty=false:=by{rw[Xck];exact decide_eq_false q};have hk0:nd.Xc.length=1:=by{rw[hd,if_neg q]};rw[hk0]at n2;have x0:=Wld.cell (w:=w8) n0;have x2:=Wld.cell (w:=w8) n2;have HON:=Xqh (fun(x:Wld w8)=>(Xib true x.val).mono (fun e w' hh=>show e= .returned (.int .i64 1)∧x.val=w' from⟨hh.1,hh.2.symm⟩));clear hd hk0 q;go_wp2;refine XaV (by kernel_rfl) (by kernel_rfl) ?_;(repeat(go_big_quiet_step(first|(go_at_call 56;exact Wld.same (HON.out _))|(go_at_call 19;exact Wld.call (HK.out _)))));refine wpQuiet_nil ?_;rintro _⟨⟨W9,hW9⟩,rfl⟩;have HB9:=Xqh (HO.out.back hW9);clear hW9 HK HON;go_wp2;go_ret;exact⟨rfl,HB9.out⟩
end
end Go.Proofs.YtpicinjcmjaogaaGreat
