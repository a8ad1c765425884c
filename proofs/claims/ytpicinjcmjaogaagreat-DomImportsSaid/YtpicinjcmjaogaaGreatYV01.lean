import Derived.Deep.Slices
import Derived.Deep.Fields
import Derived.ChangeSame
import Derived.ProofKit
import Derived.BigQuiet
import Derived.Test.YtpicinjcmjaogaaGreatY43
set_option maxRecDepth 100000
set_option maxHeartbeats 4000000
set_option linter.unusedVariables false
namespace Go.Proofs.YtpicinjcmjaogaaGreat
section
open Go.RowKit
end
section
open Go.RowKit Go.ChangeShapes Go.WideShapes Go.Deep
section
variable {H : Type} {enc : TypeId × Value → H} {P : Program} {w : World} {base : Nat} {spare : Nat → Bool} {held : Bool}
theorem open_slice_fields {t e:TypeId}{fs:Array Field}{fuel:Nat}{cs:List Value}{x:DataW H×List MemPlace}(ht:P.underlying t=some (.slice e))(he:P.underlying e=some (.struct fs))(hone:oneCellFields P fs=true)(hC:P.cellsOf e=fs.size)(h:DataW.trod enc P w base spare held fuel t cs=some x):cs= [.slice none 0 0]∨∃(a:Addr)(len cap:Nat)(D:Nat→DataW H),cs= [.slice (some a) len cap]∧len≤cap∧cap≤maxLen∧∀i,i<len→∃(ys:List (DataW H×List MemPlace))(n:Nat),∀(j:Nat)(f:Field),fs[j]?=some f→∃(v:Value)(y:DataW H×List MemPlace),w.cell? (a.add (i*fs.size+j))=some v∧ys[j]?=some y∧DataW.trod enc P w base spare held n f.type [v]=some y:=by
 rcases open_slice ht h with h0|⟨a,len,cap,m,n,D,Pl,hcs,hb,hl,hm,hmm,hx,hi⟩
 ·exact .inl h0.1
 ·refine .inr ⟨a,len,cap,D,hcs,hl,hm,fun i hil=>?_⟩;have him:i<m:=by{rw[hmm];split<;>omega};obtain⟨cs',hc,ht'⟩:=hi i him;rw[hC]at hc;obtain⟨ys,n',hn',hy,hlen,hyl,hf⟩:=DataW.trod_struct he ht';obtain⟨_,hcl,hat⟩:=World.cells?_some hc;refine⟨ys,n',fun j f hj=>?_⟩;obtain⟨ho,hk⟩:=hone_of hone j f hj;have hjl:j<fs.size:=(Array.getElem?_eq_some_iff.1 hj).1;have hcell:=hat j hjl;have hv:cs'[j]?=some (cs'[j]'(by omega)):=List.getElem?_eq_getElem (by omega);have h1:=hf j f hj;rw[ho,hk]at h1;have hone':(cs'.drop j).take 1= [cs'[j]'(by omega)]:=by{rw[List.drop_eq_getElem_cons (by omega)];rfl};rw[hone']at h1;have hys:ys[j]?=some (ys[j]'(by omega)):=List.getElem?_eq_getElem (by omega);refine⟨_,_,?_,hys,h1.trans hys⟩;rw[←Go.Deep.add_add,hcell,hv]
end
theorem spot_none {w:World}{a:Addr}{v:Value}(h:w.cell? a=some v):a.spot=none:=by
 unfold World.cell? at h
 split at h
 ·split at h;·{cases h};·rename_i hs;simpa using hs
 ·cases h
theorem list_of {α:Type}(Q:Nat→α→Prop):∀n:Nat,(∀i,i<n→∃x,Q i x)→∃l:List α,l.length=n∧∀i x,l[i]?=some x→Q i x
 |0,_=>⟨[],rfl,fun i x h=>by simp at h⟩
 |n+1,h=>by{obtain⟨l,hl,hq⟩:=list_of Q n (fun i hi=>h i (by omega));obtain⟨x,hx⟩:=h n (by omega);refine⟨l++ [x],by simp[hl],fun i y hy=>?_⟩;rw[List.getElem?_append]at hy;split at hy;·{exact hq i y hy};·have:i=n:=by{have:=(List.getElem?_eq_some_iff.1 hy).1;simp at this;omega};subst this;simp[hl]at hy;subst hy;exact hx}
section
variable {H : Type} {enc : TypeId × Value → H} {w : World} {base : Nat} {spare : Nat → Bool} {held : Bool}
theorem open_attrs {fuel:Nat}{v:Value}{x:DataW H×List MemPlace}(h:DataW.trod enc Tryz.prog w base spare held fuel 44 [v]=some x):∃l:List Xm,XE w v l:=by
 rcases open_slice_fields Tryz.underlying44 Tryz.underlying132 (by kernel_rfl) (by kernel_rfl) h with h0|⟨a,len,cap,D,hcs,hl,hm,hi⟩
 ·simp at h0;subst h0;exact⟨[],rfl,none,0,rfl,Nat.le_refl _,Nat.zero_le _,fun h=>absurd h (by simp)⟩
 ·simp at hcs;subst hcs;have hq:∀i,i<len→∃y:Xm,w.cell? (a.add (i*3+0))=some (.int .i64 y.1)∧w.cell? (a.add (i*3+1))=some (.string y.2.1)∧w.cell? (a.add (i*3+2))=some (.string y.2.2):=by{intro i hil;obtain⟨ys,n,hf⟩:=hi i hil;obtain⟨v0,y0,c0,-,t0⟩:=hf 0 _ rfl;obtain⟨v1,y1,c1,-,t1⟩:=hf 1 _ rfl;obtain⟨v2,y2,c2,-,t2⟩:=hf 2 _ rfl;obtain⟨s,e0,-⟩:=DataW.trod_int Tryz.underlying34 t0;obtain⟨nm,e1,-⟩:=DataW.trod_string Tryz.underlying9 t1;obtain⟨vl,e2,-⟩:=DataW.trod_string Tryz.underlying9 t2;simp at e0 e1 e2;subst e0;subst e1;subst e2;exact⟨(s,nm,vl),c0,c1,c2⟩};obtain⟨l,hll,hlq⟩:=list_of _ len hq;subst hll;refine⟨l,XcP l,some a,cap,rfl,hl,hm,fun hp=>?_⟩;have hsp:a.spot=none:=by{obtain⟨q,-⟩:=hlq 0 _ (List.getElem?_eq_getElem hp);exact spot_none (by simpa[Addr.add]using q)};obtain⟨b,o,sp⟩:=a;simp at hsp;subst hsp;refine⟨b,o,rfl,fun j x hx=>?_⟩;have hj:j<l.length*3:=by{have:=(List.getElem?_eq_some_iff.1 hx).1;rwa[XcP]at this};have h3:j=3*(j/3)+j%3:=by{omega};have hy:l[j/3]?=some (l[j/3]'(by omega)):=List.getElem?_eq_getElem (by omega);rw[h3,XdQ hy _ (by omega)]at hx;have hq:=hlq _ _ hy;have hm3:j%3<3:=by{omega};generalize j%3=r at*;rw[h3];simp only[Addr.add_mid]at hq;rcases(show r=0∨r=1∨r=2 by omega)with rfl|rfl|rfl;·{simp[Xv]at hx;subst hx;rw[show o+(3*(j/3)+0)=o+(j/3*3+0)by(omega)];exact hq.1};·{simp[Xv]at hx;subst hx;rw[show o+(3*(j/3)+1)=o+(j/3*3+1)by(omega)];exact hq.2.1};·simp[Xv]at hx;subst hx;rw[show o+(3*(j/3)+2)=o+(j/3*3+2)by(omega)];exact hq.2.2
theorem open_ops {fuel:Nat}{v:Value}{x:DataW H×List MemPlace}(h:DataW.trod enc Tryz.prog w base spare held fuel 38 [v]=some x):∃l:List OpD,JW w v l:=by
 rcases open_slice_fields Tryz.underlying38 Tryz.underlying92 (by kernel_rfl) (by kernel_rfl) h with h0|⟨a,len,cap,D,hcs,hl,hm,hi⟩
 ·simp at h0;subst h0;exact⟨[],none,0,rfl,Nat.le_refl _,Nat.zero_le _,fun h=>absurd h (by simp)⟩
 ·simp at hcs;subst hcs;have hq:∀i,i<len→∃y:OpD,∃av,(∀j v,(y.cells av)[j]?=some v→w.cell? (a.add (i*10+j))=some v)∧XE w av y.Xb:=by{intro i hil;obtain⟨ys,n,hf⟩:=hi i hil;obtain⟨v0,y0,c0,-,t0⟩:=hf 0 _ rfl;obtain⟨v1,y1,c1,-,t1⟩:=hf 1 _ rfl;obtain⟨v2,y2,c2,-,t2⟩:=hf 2 _ rfl;obtain⟨v3,y3,c3,-,t3⟩:=hf 3 _ rfl;obtain⟨v4,y4,c4,-,t4⟩:=hf 4 _ rfl;obtain⟨v5,y5,c5,-,t5⟩:=hf 5 _ rfl;obtain⟨v6,y6,c6,-,t6⟩:=hf 6 _ rfl;obtain⟨v7,y7,c7,-,t7⟩:=hf 7 _ rfl;obtain⟨v8,y8,c8,-,t8⟩:=hf 8 _ rfl;obtain⟨v9,y9,c9,-,t9⟩:=hf 9 _ rfl;obtain⟨x0,e0,-⟩:=DataW.trod_int Tryz.underlying3 t0;obtain⟨x1,e1,-⟩:=DataW.trod_int Tryz.underlying3 t1;obtain⟨x2,e2,-⟩:=DataW.trod_int Tryz.underlying3 t2;obtain⟨x3,e3,-⟩:=DataW.trod_int Tryz.underlying3 t3;obtain⟨x4,e4,-⟩:=DataW.trod_bool Tryz.underlying4 t4;obtain⟨x5,e5,-⟩:=DataW.trod_int Tryz.underlying34 t5;obtain⟨x6,e6,-⟩:=DataW.trod_string Tryz.underlying9 t6;obtain⟨x7,e7,-⟩:=DataW.trod_string Tryz.underlying9 t7;obtain⟨x8,e8,-⟩:=DataW.trod_string Tryz.underlying9 t8;obtain⟨l,hl⟩:=open_attrs t9;simp at e0 e1 e2 e3 e4 e5 e6 e7 e8;subst e0;subst e1;subst e2;subst e3;subst e4;subst e5;subst e6;subst e7;subst e8;refine⟨⟨x0,x1,x2,x3,x4,x5,x6,x7,x8,l⟩,v9,fun j v hv=>?_,hl⟩;have hj:j<10:=(List.getElem?_eq_some_iff.1 hv).1;rcases(show j=0∨j=1∨j=2∨j=3∨j=4∨j=5∨j=6∨j=7∨j=8∨j=9 by omega)with rfl|rfl|rfl|rfl|rfl|rfl|rfl|rfl|rfl|rfl<;>(simp[OpD.cells]at hv;subst hv;assumption)};obtain⟨l,hll,hlq⟩:=list_of _ len hq;subst hll;refine⟨l,some a,cap,rfl,hl,hm,fun hp=>?_⟩;have hsp:a.spot=none:=by{obtain⟨av,q,-⟩:=hlq 0 _ (List.getElem?_eq_getElem hp);exact spot_none (by simpa[Addr.add]using q 0 _ rfl)};obtain⟨b,o,sp⟩:=a;simp at hsp;subst hsp;refine⟨b,o,rfl,fun i x hx=>?_⟩;obtain⟨av,q,hA⟩:=hlq i x hx;refine⟨av,fun j v hv=>?_,hA⟩;have:=q j v hv;rw[Addr.add_mid]at this;rw[show o+i*10+j=o+(i*10+j)by(omega)];exact this
end
end
section
open Go.RowKit
end
section
open Go.RowKit
end
section
open Go.RowKit
end
section
open Go.RowKit
end
section
open Go.ChangeShapes Go.WideShapes Go.ChangeAt Go.RowKit
theorem own_knob :ownKnob Tryz.prog.godebug=none:=by
 kernel_rfl
theorem laid_out :laidOutB Tryz.prog=true:=by
 kernel_rfl
theorem arg_ops {H:Type}{enc:TypeId×Value→H}{W:World}{base:Nat}{spare:Nat→Bool}{held:Bool}{v:Value}{d:DataW H}{p:List MemPlace}{r:Reach}{b0:Nat}(hv:Value.okWide Tryz.prog W r b0 38 v)(h:DataW.Trod enc Tryz.prog W base spare held 38 v d p):∃l,JW W v l:=by
 obtain⟨a,len,cap,rfl⟩:=okWide_slice Tryz.underlying38 hv
 obtain⟨fuel,hf⟩:=h
 simp only[Value.cells]at hf
 exact open_ops (fuel:=fuel) (x:=(d,p)) hf
end
section
theorem alikeP_symm {x y:Nd}(h:Y1 x y):Y1 y x:=by
 obtain⟨a,b,c,d,e,f,g,i⟩:=h
 exact⟨a.symm,b.symm,c.symm,d.symm,e.symm,f.symm,g.symm,i.symm⟩
theorem ZJ.symm {A B:Ar}{h k:Int}(q:ZJ A B h k):ZJ B A k h:=by
 induction q with|mk ha hb h1 h2 h3 h4 h5 ih4 ih5=>exact .mk hb ha (alikeP_symm h1) h2.symm h3.symm (fun hc=>ih4 (fun e=>hc (h3.1 e))) (fun i x y hx hy=>ih5 i y x hy hx)
end
section
open Go.RowKit Go.Shelf
theorem Xi6 {w0 w:World}{B:Nat}{ll:List Xf}(o:Own w0 B ll w)(v:Value)(l:List OpD)(hv:∀W,Own w0 B ll W→JW W v l){m:Int}(hs:Jj l m)(hm:m≤100):Calls Tryz.prog 42 #[v] w fun e w'=>∃b c,e= .returned (.tuple #[.pointer (some ⟨b,0,none⟩),.pointer (some ⟨c,0,none⟩),.bool true])∧Own w0 B (.arena b (Zj l):: .refar c (Zj l)::ll) w':=by
 have hv0:=hv w o
 have HV:=Xqh hv
 obtain⟨av,cv,rfl,hc1,hc2,-⟩:=id hv0
 have HN:=Xqh (Xgv w)
 have HT5:=Xqh (fun k(hk:k≤l.length)=>XfA hs hm hk)
 have HSM:=Xqh (Xir hs hm)
 clear hv hv0 hs hm
 go_enter Tryz.func42,Tryz.ntmps42
 go_wp2_with fail
 refine HN.out.mono ?_
 rintro e w1⟨rfl,hw1⟩
 have o1:=o.XgB
 rw[←hw1]at o1
 have HB:=Xqh (show Below w.heap.size w w1 by rw[hw1];exact Xw _ _)
 clear hw1 HN o
 generalize w.heap.size=ba at*
 go_wp2_with fail
 refine(XlV o1).mono ?_
 rintro e w2⟨rfl,o2⟩
 generalize w1.heap.size+2=bc at*
 have HO:=Xqh o2
 clear o1 o2
 go_wp2
 go_loopw [7](fun i wr=>∃k:Nat,k≤l.length∧i= .int .i64 k∧Hid (Own w0 B (.refar bc (Zj (l.take k)):: .arena ba (Zj (l.take k))::ll) wr))(fun i _=>l.length-(intOf i).toNat)
 case atStart=>exact⟨0,Nat.zero_le _,rfl,HO.out⟩
 case round=>obtain⟨k,hk,rfl,hT⟩:=hrel;by_cases hlt:k<l.length;·{obtain⟨a',c',e',-,-,hc3⟩:=HV.out wr hT.out.drop.drop;simp only[Value.slice.injEq,true_and]at e';obtain⟨rfl,rfl⟩:=e';obtain⟨b1,o1,rfl,hcs⟩:=hc3 (by omega);obtain⟨x,hx⟩:∃x,l[k]?=some x:=⟨_,List.getElem?_eq_getElem hlt⟩;obtain⟨xv,F⟩:=hcs k x hx;have hxat:=F.at';obtain⟨aa,ac,rfl,-⟩:=F.at'.form;obtain⟨c0,c1,c2,c3,c4,c5,c6,c7,c8,c9⟩:=F.facts;obtain⟨q1,-,q2,q3⟩:=HT5.out k hk;obtain⟨-,s2,-⟩:=HSM.out;have hxs:=s2 x (List.mem_of_getElem? hx);have HX:=Xqh (And.intro hx (Xnp hx));have HC:=Xqh (Xm4 hT.out.swap q1 q2 (Nat.le_trans hxs.1 (by omega)) F.at' (Nat.le_trans hxs.2.2.2.1 (by omega)) (fun _=>q3));have HQ:=Xqh (And.intro q1 (And.intro q2 q3));have HXS:=Xqh hxs;clear hcs F q1 q2 q3 s2 hxs hx hT hc3 hxat;go_wp2_with fail;refine HC.out.mono ?_;rintro e w3⟨rfl,o3⟩;clear HC c0 c1 c2 c3 c4 c5 c6 c7 c8 c9;obtain⟨a',c',e',-,-,hc3⟩:=HV.out w3 o3.drop.drop;simp only[Value.slice.injEq,true_and]at e';obtain⟨rfl,rfl⟩:=e';obtain⟨b2,o2',e',hcs⟩:=hc3 (by omega);simp only[Option.some.injEq,Addr.mk.injEq,and_true]at e';obtain⟨rfl,rfl⟩:=e';obtain⟨xv,F⟩:=hcs k x HX.out.1;obtain⟨aa',ac',rfl,-⟩:=F.at'.form;obtain⟨c0,c1,c2,c3,c4,c5,c6,c7,c8,c9⟩:=F.facts;have HC:=Xqh (Xpg o3.swap HQ.out.1 HQ.out.2.1 (Nat.le_trans HXS.out.1 (by omega)) F.at' (Nat.le_trans HXS.out.2.2.2.1 (by omega)) (fun _=>HQ.out.2.2));clear hcs F hc3 o3;unfold Xl;generalize(Ar.Xo (Zj (l.take k)) x).1=R at*;obtain⟨r1,r2⟩:=R;go_wp2_with fail;refine HC.out.mono ?_;rintro e w4⟨rfl,o4⟩;clear HC c0 c1 c2 c3 c4 c5 c6 c7 c8 c9;rw[←HX.out.2]at o4;have HO4:=Xqh o4;have hr1:(r1 !=r1)=false:=by{simp};have hr2:(r2 !=r2)=false:=by{simp};clear o4;unfold Xl;go_wp2;go_roundw;(case rel=>exact⟨k+1,hlt,by go_num,HO4⟩);case measure=>simp[intOf];omega};·have hkl:l.take k=l:=List.take_of_length_le (by omega);have ho:=hT.out;rw[hkl]at ho;have HO4:=Xqh ho.swap;clear ho hT hkl;go_wp2;exact bodyPost_ret (v:= .tuple #[.pointer (some ⟨ba,0,none⟩),.pointer (some ⟨bc,0,none⟩),.bool true]) (by simp[results,Tryz.f42,go_sem]) rfl ⟨ba,bc,rfl,HO4.out⟩
end
section
open Go.RowKit Go.Shelf
attribute [local go_sem] Oper.semAt_some
def dk0 : Ar := Ar.new
def dk1 : Ar := dk0.Xn false
def dk2 : Ar := (dk1.element 1 1 ⟨#[104, 116, 109, 108]⟩ []).2
def dk3 : Ar := (dk2.element 1 1 ⟨#[112]⟩ []).2
def dk4 : Ar := (dk3.make 1 (Xs ⟨#[97, 98]⟩)).2
def dk5 : Ar := (dk4.make 1 (YT ⟨#[104, 116, 109, 108]⟩ ⟨#[]⟩ ⟨#[]⟩)).2
def dk6 : Ar := (dk5.make 1 Zm).2
def dk7 : Ar := (dk6.XX 6 3 0).2
def dk8 : Ar := (dk7.XX 6 4 0).2
def dk9 : Ar := (dk8.XX 1 2 0).2
def XbE : Ar := (dk9.XX 1 3 0).2
def XbF : Ar := (XbE.XX 1 4 0).2
def XbG : Ar := (XbF.XX 1 5 0).2
def XbH : Ar := (XbG.XX 1 5 2).2
def Jo : Ar := (XbH.XX 2 6 0).2
def Z9 : Ar := (Jo.split 4 1).2
def XaD : Ar := (Z9.normalize 2).2
theorem Xph :(dk6.XX 6 3 0).1=0:=by
 decide+kernel
theorem Xpi :(dk7.XX 6 4 0).1=0:=by
 decide+kernel
theorem Xpj :(dk8.XX 1 2 0).1=0:=by
 decide+kernel
theorem Xpk :(dk9.XX 1 3 0).1=4:=by
 decide+kernel
theorem Xpl :(XbE.XX 1 4 0).1=4:=by
 decide+kernel
theorem Xpm :(XbF.XX 1 5 0).1=4:=by
 decide+kernel
theorem Xpn :(XbG.XX 1 5 2).1=0:=by
 decide+kernel
theorem Xpo :(XbH.XX 2 6 0).1=0:=by
 decide+kernel
theorem Xpp :Jo.YN 2= [3,4]:=by
 decide+kernel
theorem Xpq :Jo.YN 6= []:=by
 decide+kernel
theorem Xpr :(Jo.split 4 1).1=(7,0):=by
 decide+kernel
theorem Xps :Z9.YN 2= [3,4,7]:=by
 decide+kernel
theorem Xpt :Z9.Xbl 2=(⟨#[97,98]⟩,0):=by
 decide+kernel
theorem Xpu :(Z9.normalize 2).1=0:=by
 decide+kernel
theorem Xpv :XaD.YN 2= [3,4]:=by
 decide+kernel
theorem Xpw :Z9.Xk≤9223372036854775807:=by
 decide+kernel
theorem Xpx :(Z9.Zi (Z9.below 2)).length≤140737488355328:=by
 decide+kernel
theorem Xac {A:Ar}{t:Nat}(h:A.Inv∧A.XB t)(x:OpD)(hx:x.Xb.length≤20)(h1:20≤t)(h2:t≤900):(A.Xo x).2.Inv∧(A.Xo x).2.XB (t+1):=⟨(Xfk h.1 (h.2.mono h2) x hx).1,XeG h.2 x (Nat.le_trans hx h1)⟩
theorem XaE {A:Ar}{t:Nat}(h:A.Inv∧A.XB t)(a b c:Int)(h1:20≤t)(h2:t≤900):(A.XX a b c).2.Inv∧(A.XX a b c).2.XB (t+1):=Xac h ⟨21,a,b,c,false,0,ByteArray.empty,ByteArray.empty,ByteArray.empty,[]⟩ (Nat.zero_le _) h1 h2
theorem Xpy {A:Ar}{t:Nat}(h:A.Inv∧A.XB t)(a b:Int)(h1:20≤t)(h2:t≤900):(A.split a b).2.Inv∧(A.split a b).2.XB (t+1):=Xac h ⟨35,a,b,0,false,0,ByteArray.empty,ByteArray.empty,ByteArray.empty,[]⟩ (Nat.zero_le _) h1 h2
theorem Xpz {A:Ar}{t:Nat}(h:A.Inv∧A.XB t)(a:Int)(h1:20≤t)(h2:t≤900):(A.normalize a).2.Inv∧(A.normalize a).2.XB (t+1):=Xac h ⟨34,a,0,0,false,0,ByteArray.empty,ByteArray.empty,ByteArray.empty,[]⟩ (Nat.zero_le _) h1 h2
theorem XdN {w0 w:World}{B b:Nat}{A:Ar}{l:List Xf}{h:Int}(o:Own w0 B l w)(hm:Xf.arena b A∈l)(hS:A.YC){y:List Int}(hy:A.YN h=y):Calls Tryz.prog 33 #[.pointer (some ⟨b,0,none⟩),.int .i64 h] w fun e w'=>∃a c,e= .returned (.slice a y.length c)∧Own w0 B (.ints (.slice a y.length c) y::l) w':=by
 subst hy
 exact Xap o hm hS
theorem XpA :dk0.Inv∧dk0.XB 20:=⟨Xen,XcY _⟩
theorem XpB :dk1.Inv∧dk1.XB 21:=Xac XpA ⟨1,0,0,0,false,0,ByteArray.empty,ByteArray.empty,ByteArray.empty,[]⟩ (by decide) (by decide) (by decide)
theorem XpC :dk2.Inv∧dk2.XB 22:=Xac XpB ⟨3,1,0,0,false,1,⟨#[104,116,109,108]⟩,ByteArray.empty,ByteArray.empty,[]⟩ (by decide) (by decide) (by decide)
theorem XpD :dk3.Inv∧dk3.XB 23:=Xac XpC ⟨3,1,0,0,false,1,⟨#[112]⟩,ByteArray.empty,ByteArray.empty,[]⟩ (by decide) (by decide) (by decide)
theorem XpE :dk4.Inv∧dk4.XB 24:=Xac XpD ⟨4,1,0,0,false,0,ByteArray.empty,⟨#[97,98]⟩,ByteArray.empty,[]⟩ (by decide) (by decide) (by decide)
theorem XpF :dk5.Inv∧dk5.XB 25:=Xac XpE ⟨2,1,0,0,false,0,⟨#[104,116,109,108]⟩,⟨#[]⟩,⟨#[]⟩,[]⟩ (by decide) (by decide) (by decide)
theorem Xi7 :dk6.Inv∧dk6.XB 26:=Xac XpF ⟨6,1,0,0,false,0,ByteArray.empty,ByteArray.empty,ByteArray.empty,[]⟩ (by decide) (by decide) (by decide)
theorem Xi8 :dk7.Inv∧dk7.XB 27:=XaE Xi7 6 3 0 (by decide) (by decide)
theorem Xi9 :dk8.Inv∧dk8.XB 28:=XaE Xi8 6 4 0 (by decide) (by decide)
theorem Xja :dk9.Inv∧dk9.XB 29:=XaE Xi9 1 2 0 (by decide) (by decide)
theorem Xjb :XbE.Inv∧XbE.XB 30:=XaE Xja 1 3 0 (by decide) (by decide)
theorem Xjc :XbF.Inv∧XbF.XB 31:=XaE Xjb 1 4 0 (by decide) (by decide)
theorem Xjd :XbG.Inv∧XbG.XB 32:=XaE Xjc 1 5 0 (by decide) (by decide)
theorem Xje :XbH.Inv∧XbH.XB 33:=XaE Xjd 1 5 2 (by decide) (by decide)
theorem XfY :Jo.Inv∧Jo.XB 34:=XaE Xje 2 6 0 (by decide) (by decide)
theorem Xco :Z9.Inv∧Z9.XB 35:=Xpy XfY 4 1 (by decide) (by decide)
theorem XpG :XaD.Inv∧XaD.XB 36:=Xpz Xco 2 (by decide) (by decide)
theorem XpH :dk0.ns.length≤20:=by
 decide+kernel
theorem XpI :dk1.ns.length≤20:=by
 decide+kernel
theorem XpJ :dk2.ns.length≤20:=by
 decide+kernel
theorem XpK :dk3.ns.length≤20:=by
 decide+kernel
theorem XpL :dk4.ns.length≤20:=by
 decide+kernel
theorem XpM :dk5.ns.length≤20:=by
 decide+kernel
theorem XpN :dk6.ns.length≤20:=by
 decide+kernel
theorem XpO :dk7.ns.length≤20:=by
 decide+kernel
theorem XpP :dk8.ns.length≤20:=by
 decide+kernel
theorem XpQ :dk9.ns.length≤20:=by
 decide+kernel
theorem XpR :XbE.ns.length≤20:=by
 decide+kernel
theorem XpS :XbF.ns.length≤20:=by
 decide+kernel
theorem XpT :XbG.ns.length≤20:=by
 decide+kernel
theorem XpU :XbH.ns.length≤20:=by
 decide+kernel
theorem Xjf :Jo.ns.length≤20:=by
 decide+kernel
theorem XfZ :Z9.ns.length≤20:=by
 decide+kernel
theorem XpV :XaD.ns.length≤20:=by
 decide+kernel
theorem Xjg :Jo.YC:=XfY.1.short (Nat.le_trans Xjf (by decide))
theorem XpW :Z9.YC:=Xco.1.short (Nat.le_trans XfZ (by decide))
theorem XpX :XaD.YC:=XpG.1.short (Nat.le_trans XpV (by decide))
theorem XdO (w:World):Calls Tryz.prog 19 #[] w fun e w'=>e= .returned (.bool true)∧Below w.heap.size w w':=by
 have HN:=Xqh (Xgv w)
 go_enter Tryz.func19,Tryz.ntmps19
 go_wp2_with fail
 refine HN.out.mono ?_
 rintro e w0⟨rfl,hw1⟩
 have o:=(Own.start w).XgB
 rw[←hw1]at o
 clear hw1 HN
 have o:Own w w.heap.size [.arena w.heap.size dk0] w0:=o
 obtain⟨g,hg⟩:∃g,w.heap.size=g:=⟨_,rfl⟩
 rw[show(Xf.arena w.heap.size dk0)=Xf.arena g dk0 by(rw[hg])]at o
 rw[show(Value.pointer (some (⟨w.heap.size,0,none⟩:Addr)))=Value.pointer (some ⟨g,0,none⟩)by(rw[hg])]
 clear hg
 have HC:=Xqh (o.call (fun ρ hA=>XbO dk0 ρ g false _ hA (Nat.le_trans XpH (by decide))))
 clear o
 go_wp2_with fail
 refine HC.out.mono ?_
 rintro e w1⟨rfl,o1⟩
 clear HC
 have o:Own w w.heap.size [.arena g dk1] w1:=o1
 clear o1
 generalize w1=w0 at*
 have HC:=Xqh (o.call (fun ρ hA=>XaO dk1 ρ g 1 1 ⟨#[104,116,109,108]⟩ (.slice none 0 0) [] _ hA (Xfu (b:=0) (l:= []) (World.ownsRow_nil _ 0 132 3)) (Nat.le_trans (Nat.add_le_add_right XpI _) (by decide)) (by decide)))
 clear o
 go_wp2_with fail
 refine HC.out.mono ?_
 rintro e w1⟨rfl,o1⟩
 clear HC
 have o:Own w w.heap.size [.arena g dk2] w1:=o1
 clear o1
 generalize w1=w0 at*
 have HC:=Xqh (o.call (fun ρ hA=>XaO dk2 ρ g 1 1 ⟨#[112]⟩ (.slice none 0 0) [] _ hA (Xfu (b:=0) (l:= []) (World.ownsRow_nil _ 0 132 3)) (Nat.le_trans (Nat.add_le_add_right XpJ _) (by decide)) (by decide)))
 clear o
 go_wp2_with fail
 refine HC.out.mono ?_
 rintro e w1⟨rfl,o1⟩
 clear HC
 have o:Own w w.heap.size [.arena g dk3] w1:=o1
 clear o1
 generalize w1=w0 at*
 have HC:=Xqh (o.call (fun ρ hA=>Xbe dk3 ρ g 1 ⟨#[97,98]⟩ _ hA (Nat.le_trans XpK (by decide))))
 clear o
 go_wp2_with fail
 refine HC.out.mono ?_
 rintro e w1⟨rfl,o1⟩
 clear HC
 have o:Own w w.heap.size [.arena g dk4] w1:=o1
 clear o1
 generalize w1=w0 at*
 have HC:=Xqh (o.call (fun ρ hA=>XcE dk4 ρ g 1 ⟨#[104,116,109,108]⟩ ⟨#[]⟩ ⟨#[]⟩ _ hA (Nat.le_trans XpL (by decide))))
 clear o
 go_wp2_with fail
 refine HC.out.mono ?_
 rintro e w1⟨rfl,o1⟩
 clear HC
 have o:Own w w.heap.size [.arena g dk5] w1:=o1
 clear o1
 generalize w1=w0 at*
 have HC:=Xqh (o.call (fun ρ hA=>XcF dk5 ρ g 1 _ hA (Nat.le_trans XpM (by decide))))
 clear o
 go_wp2_with fail
 refine HC.out.mono ?_
 rintro e w1⟨rfl,o1⟩
 clear HC
 have o:Own w w.heap.size [.arena g dk6] w1:=o1
 clear o1
 generalize w1=w0 at*
 have HC:=Xqh (Xas (p:=6) (n:=3) o Xi7.1 (Nat.le_trans (Nat.add_le_add_right XpN _) (by decide)))
 rw[Xph]at HC
 clear o
 go_wp2_with fail
 refine HC.out.mono ?_
 rintro e w1⟨rfl,o1⟩
 clear HC
 have o:Own w w.heap.size [.arena g dk7] w1:=o1
 clear o1
 generalize w1=w0 at*
 have HC:=Xqh (Xas (p:=6) (n:=4) o Xi8.1 (Nat.le_trans (Nat.add_le_add_right XpO _) (by decide)))
 rw[Xpi]at HC
 clear o
 go_wp2_with fail
 refine HC.out.mono ?_
 rintro e w1⟨rfl,o1⟩
 clear HC
 have o:Own w w.heap.size [.arena g dk8] w1:=o1
 clear o1
 generalize w1=w0 at*
 have HC:=Xqh (Xas (p:=1) (n:=2) o Xi9.1 (Nat.le_trans (Nat.add_le_add_right XpP _) (by decide)))
 rw[Xpj]at HC
 clear o
 go_wp2_with fail
 refine HC.out.mono ?_
 rintro e w1⟨rfl,o1⟩
 clear HC
 have o:Own w w.heap.size [.arena g dk9] w1:=o1
 clear o1
 generalize w1=w0 at*
 have HC:=Xqh (Xas (p:=1) (n:=3) o Xja.1 (Nat.le_trans (Nat.add_le_add_right XpQ _) (by decide)))
 rw[Xpk]at HC
 clear o
 go_wp2_with fail
 refine HC.out.mono ?_
 rintro e w1⟨rfl,o1⟩
 clear HC
 have o:Own w w.heap.size [.arena g XbE] w1:=o1
 clear o1
 generalize w1=w0 at*
 have HC:=Xqh (Xas (p:=1) (n:=4) o Xjb.1 (Nat.le_trans (Nat.add_le_add_right XpR _) (by decide)))
 rw[Xpl]at HC
 clear o
 go_wp2_with fail
 refine HC.out.mono ?_
 rintro e w1⟨rfl,o1⟩
 clear HC
 have o:Own w w.heap.size [.arena g XbF] w1:=o1
 clear o1
 generalize w1=w0 at*
 have HC:=Xqh (Xas (p:=1) (n:=5) o Xjc.1 (Nat.le_trans (Nat.add_le_add_right XpS _) (by decide)))
 rw[Xpm]at HC
 clear o
 go_wp2_with fail
 refine HC.out.mono ?_
 rintro e w1⟨rfl,o1⟩
 clear HC
 have o:Own w w.heap.size [.arena g XbG] w1:=o1
 clear o1
 generalize w1=w0 at*
 have HC:=Xqh (Xe0 (p:=1) (n:=5) (c:=2) o Xjd.1 (Nat.le_trans (Nat.add_le_add_right XpT _) (by decide)))
 rw[Xpn]at HC
 clear o
 go_wp2_with fail
 refine HC.out.mono ?_
 rintro e w1⟨rfl,o1⟩
 clear HC
 have o:Own w w.heap.size [.arena g XbH] w1:=o1
 clear o1
 generalize w1=w0 at*
 have HC:=Xqh (Xas (p:=2) (n:=6) o Xje.1 (Nat.le_trans (Nat.add_le_add_right XpU _) (by decide)))
 rw[Xpo]at HC
 clear o
 go_wp2_with fail
 refine HC.out.mono ?_
 rintro e w1⟨rfl,o1⟩
 clear HC
 have o:Own w w.heap.size [.arena g Jo] w1:=o1
 clear o1
 generalize w1=w0 at*
 have HC:=Xqh (XdN (b:=g) (A:=Jo) (h:=2) o (by simp) Xjg Xpp)
 clear o
 go_wp2_with fail
 refine HC.out.mono ?_
 rintro e w1⟨ka,kc,rfl,o1⟩
 clear HC
 simp only[List.length_cons,List.length_nil,Nat.zero_add,Nat.reduceAdd]at o1⊢
 have o2:=o1.alloc (.cells #[.int .i64 3,.int .i64 4] 3)
 have HC:=Xqh (XcU (.slice ka 2 kc) (.slice (some ⟨w1.heap.size,0,none⟩) 2 2) [3,4] [3,4] _ (o2.ints (by simp)) (Xbq w1 [3,4] 3 (by decide)))
 rw[show decide (([3,4]:List Int)= [3,4])=true from by{decide}]at HC
 have HO:=Xqh o2
 clear o1 o2
 go_wp2_with fail
 refine HC.out.mono ?_
 rintro e w2⟨rfl,hB⟩
 clear HC
 have o:Own w w.heap.size [.arena g Jo] w2:=(HO.out.read hB).drop.drop
 clear HO hB
 generalize w2=w0 at*
 have HC:=Xqh (XdN (b:=g) (A:=Jo) (h:=6) o (by simp) Xjg Xpq)
 clear o
 go_wp2_with fail
 refine HC.out.mono ?_
 rintro e w1⟨ka,kc,rfl,o1⟩
 clear HC
 simp only[List.length_nil]at o1⊢
 have o:Own w w.heap.size [.arena g Jo] w1:=o1.drop
 clear o1
 generalize w1=w0 at*
 have HC:=Xqh (Xh9 (h:=4) (at':=1) o XfY.1 (Nat.le_trans (Nat.add_le_add_right Xjf _) (by decide)))
 rw[Xpr,show Xl (7,0)= .tuple #[.int .i64 7,.int .i64 0]from rfl]at HC
 clear o
 go_wp2_with fail
 refine HC.out.mono ?_
 rintro e w1⟨rfl,o1⟩
 clear HC
 have o:Own w w.heap.size [.arena g Z9] w1:=o1
 clear o1
 generalize w1=w0 at*
 have HC:=Xqh (Xnw (h:=2) o Xco.1 (Nat.le_trans XfZ (by decide)) Xpx)
 rw[Xpt]at HC
 clear o
 go_wp2_with fail
 refine HC.out.mono ?_
 rintro e w1⟨rfl,o1⟩
 clear HC
 have o:Own w w.heap.size [.arena g Z9] w1:=o1
 clear o1
 generalize w1=w0 at*
 have HC:=Xqh (XdN (b:=g) (A:=Z9) (h:=2) o (by simp) XpW Xps)
 clear o
 go_wp2_with fail
 refine HC.out.mono ?_
 rintro e w1⟨ka,kc,rfl,o1⟩
 clear HC
 simp only[List.length_cons,List.length_nil,Nat.zero_add,Nat.reduceAdd]at o1⊢
 have o2:=o1.alloc (.cells #[.int .i64 3,.int .i64 4,.int .i64 7] 3)
 have HC:=Xqh (XcU (.slice ka 3 kc) (.slice (some ⟨w1.heap.size,0,none⟩) 3 3) [3,4,7] [3,4,7] _ (o2.ints (by simp)) (Xbq w1 [3,4,7] 3 (by decide)))
 rw[show decide (([3,4,7]:List Int)= [3,4,7])=true from by{decide}]at HC
 have HO:=Xqh o2
 clear o1 o2
 go_wp2_with fail
 refine HC.out.mono ?_
 rintro e w2⟨rfl,hB⟩
 clear HC
 have o:Own w w.heap.size [.arena g Z9] w2:=(HO.out.read hB).drop.drop
 clear HO hB
 generalize w2=w0 at*
 have HC:=Xqh (Xia (h:=2) o Xco.1 (Nat.le_trans XfZ (by decide)) (fun y hy=>Nat.le_trans (Xmg Xco.1 hy) Xpw))
 rw[Xpu]at HC
 clear o
 go_wp2_with fail
 refine HC.out.mono ?_
 rintro e w1⟨rfl,o1⟩
 clear HC
 have o:Own w w.heap.size [.arena g XaD] w1:=o1
 clear o1
 generalize w1=w0 at*
 have HC:=Xqh (XdN (b:=g) (A:=XaD) (h:=2) o (by simp) XpX Xpv)
 clear o
 go_wp2_with fail
 refine HC.out.mono ?_
 rintro e w1⟨ka,kc,rfl,o1⟩
 clear HC
 simp only[List.length_cons,List.length_nil,Nat.zero_add,Nat.reduceAdd]at o1⊢
 have o2:=o1.alloc (.cells #[.int .i64 3,.int .i64 4] 3)
 have HC:=Xqh (XcU (.slice ka 2 kc) (.slice (some ⟨w1.heap.size,0,none⟩) 2 2) [3,4] [3,4] _ (o2.ints (by simp)) (Xbq w1 [3,4] 3 (by decide)))
 rw[show decide (([3,4]:List Int)= [3,4])=true from by{decide}]at HC
 have HO:=Xqh o2
 clear o1 o2
 go_wp2_with fail
 refine HC.out.mono ?_
 rintro e w2⟨rfl,hB⟩
 clear HC
 have o:Own w w.heap.size [.arena g XaD] w2:=(HO.out.read hB).drop.drop
 clear HO hB
 generalize w2=w0 at*
 have HO:=Xqh o
 clear o
 go_wp2
 go_ret
 exact⟨rfl,HO.out.low⟩
end
section
open Go.RowKit Go.Shelf
theorem NodeL_own {w0 w:World}{B b:Nat}{A:Ar}{l:List Xf}{h:Int}(o:Own w0 B l w)(hm:Xf.arena b A∈l)(hS:A.YC){n:Nd}{er:Int}(hn:(if A.has h then A.get h else XL)=n)(he:(if A.has h then(0:Int)else 3)=er):Calls Tryz.prog 34 #[.pointer (some ⟨b,0,none⟩),.int .i64 h] w fun e w'=>∃ka kc aa ac,e= .returned (.tuple #[.agg (n.cells (.slice ka n.Xc.length kc) (.slice aa n.Xb.length ac)).toArray,.int .i64 er])∧Own w0 B l w'∧Below w.heap.size w w':=by
 subst hn
 subst he
 obtain⟨ρ,hA⟩:=o.arena hm
 refine(XcO A ρ b h w hA hS).mono ?_
 rintro e w'⟨hB,kv,av,rfl,h1,h2⟩
 obtain⟨ka,kc,rfl⟩:=X6 h1
 obtain⟨aa,ac,rfl⟩:=X6 h2
 exact⟨ka,kc,aa,ac,rfl,o.read hB,hB⟩
end
section
open Go.RowKit
theorem EqualAttrs_any (v1 v2:Value)(l1 l2:List Xm)(w:World)(h1:XE w v1 l1)(h2:XE w v2 l2):Calls Tryz.prog 205 #[v1,v2] w fun e w'=>e= .returned (.bool (decide (l1=l2)))∧∃m,w'=w.drewN m:=by
 obtain⟨a1,c1,rfl,p1,p2,p3⟩:=h1.form
 obtain⟨a2,c2,rfl,q1,q2,q3⟩:=h2.form
 have H1:=Xqh h1
 have H2:=Xqh h2
 clear h1 h2 p3 q3
 by_cases hl:l1.length=l2.length
 ·have hl1:((l1.length:Int)!=l2.length)=false:=by{simp[hl]};have HL:=Xqh hl;go_enter Tryz.func205,Tryz.ntmps205;go_wp2;go_loopw [13](fun i wr=>∃k:Nat,k≤l1.length∧i= .int .i64 k∧Hid (∀j:Nat,j<k→l1[j]?=l2[j]?)∧∃m,wr=w.drewN m)(fun i _=>l1.length-(intOf i).toNat);(case atStart=>exact⟨0,Nat.zero_le _,rfl,fun j hj=>by omega,0,rfl⟩);case round=>obtain⟨k,hk,rfl,hT,m0,rfl⟩:=hrel;by_cases hlt:k<l1.length;·{have hlt2:k<l2.length:=by{have:=HL.out;omega};obtain⟨b1,o1,rfl,-,hcs1⟩:=H1.out.cells (by omega);obtain⟨b2,o2,rfl,-,hcs2⟩:=H2.out.cells (by omega);obtain⟨x,hx⟩:∃x,l1[k]?=some x:=⟨_,List.getElem?_eq_getElem hlt⟩;obtain⟨y,hy⟩:∃y,l2[k]?=some y:=⟨_,List.getElem?_eq_getElem hlt2⟩;obtain⟨d1,d2,d3⟩:=hcs1 k x hx;obtain⟨e1,e2,e3⟩:=hcs2 k y hy;have HX:=Xqh (And.intro hx hy);clear hcs1 hcs2 hx hy;obtain⟨xs,xn,xv⟩:=x;obtain⟨ys,yn,yv⟩:=y;dsimp only at d1 d2 d3 e1 e2 e3;by_cases t1:xs=ys;·{have u1:(xs==ys)=true:=by{simp[t1]};by_cases t2:xn=yn;·{have u2:(xn.toList==yn.toList)=true:=by{simp[t2]};by_cases t3:xv=yv;·{have u3:(xv.toList==yv.toList)=true:=by{simp[t3]};have HT:=Xqh (And.intro t1 (And.intro t2 t3));clear t1 t2 t3;go_wp2_with(go_quiet(fail));go_wp2;go_roundw;(case rel=>exact⟨k+1,hlt,by go_num,fun j hj=>by by_cases hjk:j<k;·{exact hT.out j hjk};·have:j=k:=by{omega};rw[this,HX.out.1,HX.out.2,HT.out.1,HT.out.2.1,HT.out.2.2],(m0+nq),by first|(rfl)|rw[World.drewN_drewN]⟩);case measure=>simp[intOf];omega};·have u3:(xv.toList==yv.toList)=false:=by{rw[Xa7];simp[t3]};have HT:=Xqh t3;clear t1 t2 t3;go_wp2_with(go_quiet(fail));go_wp2;go_ret;exact⟨XW (decide_eq_false (fun h=>HT.out (by have a:=HX.out.1;have b:=HX.out.2;rw[h,b]at a;simp at a;exact a.2.2.symm))).symm,(m0+nq),by first|(rfl)|rw[World.drewN_drewN]⟩};·have u2:(xn.toList==yn.toList)=false:=by{rw[Xa7];simp[t2]};have HT:=Xqh t2;clear t1 t2;go_wp2_with(go_quiet(fail));go_wp2;go_ret;exact⟨XW (decide_eq_false (fun h=>HT.out (by have a:=HX.out.1;have b:=HX.out.2;rw[h,b]at a;simp at a;exact a.2.1.symm))).symm,(m0+nq),by first|(rfl)|rw[World.drewN_drewN]⟩};·have u1:(xs==ys)=false:=by{simp[t1]};have HT:=Xqh t1;clear t1;go_wp2_with(go_quiet(fail));go_wp2;go_ret;exact⟨XW (decide_eq_false (fun h=>HT.out (by have a:=HX.out.1;have b:=HX.out.2;rw[h,b]at a;simp at a;exact a.1.symm))).symm,(m0+nq),by first|(rfl)|rw[World.drewN_drewN]⟩};·have hfin:l1=l2:=by{apply List.ext_getElem?;intro j;by_cases hj:j<k;·{exact hT.out j hj};·have:=HL.out;rw[List.getElem?_eq_none (by omega),List.getElem?_eq_none (by omega)]};have HF:=Xqh hfin;clear hfin;go_wp2;go_ret;exact⟨XW (decide_eq_true HF.out).symm,m0,rfl⟩
 ·have hl1:((l1.length:Int)!=l2.length)=true:=by{simp;omega};have HL:=Xqh hl;clear hl;go_enter Tryz.func205,Tryz.ntmps205;go_wp2;go_ret;exact⟨XW (decide_eq_false (fun h=>HL.out (by rw[h]))).symm,0,rfl⟩
theorem arenaAlike_any (x y:Nd)(kv av kv' av':Value)(nb1 o1 nb2 o2:Nat)(w:World)(F1:YB w nb1 o1 x kv av)(F2:YB w nb2 o2 y kv' av')(hx:XE w av x.Xb)(hy:XE w av' y.Xb):Calls Tryz.prog 146 #[.pointer (some ⟨nb1,o1,none⟩),.pointer (some ⟨nb2,o2,none⟩)] w fun e w'=>e= .returned (.bool (decide (Y1 x y)))∧∃m,w'=w.drewN m:=by
 obtain⟨x0,x1,x2,x3,x4,x5,x6,x7,x8,x9,x10,x11,x12⟩:=x
 obtain⟨y0,y1,y2,y3,y4,y5,y6,y7,y8,y9,y10,y11,y12⟩:=y
 dsimp only at hx hy
 have HX:=Xqh (And.intro hx hy)
 have g10:=F1.c0
 have g14:=F1.c4
 have g15:=F1.c5
 have g16:=F1.c6
 have g17:=F1.c7
 have g18:=F1.c8
 have g19:=F1.c9
 have g1a:=F1.c10
 have g20:=F2.c0
 have g24:=F2.c4
 have g25:=F2.c5
 have g26:=F2.c6
 have g27:=F2.c7
 have g28:=F2.c8
 have g29:=F2.c9
 have g2a:=F2.c10
 dsimp only at g10 g14 g15 g16 g17 g18 g19 g1a g20 g24 g25 g26 g27 g28 g29 g2a
 clear hx hy F1 F2
 obtain⟨aa,ac,rfl,-⟩:=HX.out.1.form
 obtain⟨ba,bc,rfl,-⟩:=HX.out.2.form
 have HE:=Xqh (fun n=>EqualAttrs_any _ _ _ _ (w.drewN n) (XE.below HX.out.1 (Below.drewN (Below.refl _ _) n)) (XE.below HX.out.2 (Below.drewN (Below.refl _ _) n)))
 clear HX
 have HE0:=HE
 clear HE
 go_enter Tryz.func146,Tryz.ntmps146
 go_wp2_with fail
 simp only[List.append_eq,List.cons_append,List.nil_append]
 refine wp_region_quiet_lit (by kernel_rfl) (by kernel_rfl) ?_
 by_cases b0:x0=y0
 ·have u0:(x0==y0)=true:=by{simp[b0]};have HB0:=Xqh b0;clear b0;by_cases b1:x4=y4;·{have u1:(x4==y4)=true:=by{simp[b1]};have HB1:=Xqh b1;clear b1;by_cases b2:x5=y5;·{have u2:(x5.toList==y5.toList)=true:=by{simp[b2]};have HB2:=Xqh b2;clear b2;by_cases b3:x6=y6;·{have HE:=Xqh (fun n=>(HE0.out n).mono (fun e w' hh=>show e= .returned (.bool true)∧_ from⟨by rw[hh.1,decide_eq_true b3],hh.2⟩));have HB3:=Xqh b3;clear b3;by_cases b4:x7=y7;·{have u4:(x7.toList==y7.toList)=true:=by{simp[b4]};have HB4:=Xqh b4;clear b4;by_cases b5:x8=y8;·{have u5:(x8.toList==y8.toList)=true:=by{simp[b5]};have HB5:=Xqh b5;clear b5;by_cases b6:x9=y9;·{have u6:(x9.toList==y9.toList)=true:=by{simp[b6]};have HB6:=Xqh b6;clear b6;by_cases b7:x10=y10;·{have u7:(x10==y10)=true:=by{simp[b7]};have HB7:=Xqh b7;clear b7;(repeat(go_big_quiet_step((first|(go_at_call 205;exact Calls.quiet_of (HE.out _))))));refine wpQuiet_nil ?_;intro _ hw';obtain⟨nq,hw''⟩:=hw';subst hw'';go_wp2;go_ret;exact⟨XW (decide_eq_true ⟨HB0.out,HB1.out,HB2.out,HB3.out,HB4.out,HB5.out,HB6.out,HB7.out⟩).symm,_,rfl⟩};·have u7:(x10==y10)=false:=by{simp[b7]};have HB7:=Xqh b7;clear b7;(repeat(go_big_quiet_step((first|(go_at_call 205;exact Calls.quiet_of (HE.out _))))));refine wpQuiet_nil ?_;intro _ hw';obtain⟨nq,hw''⟩:=hw';subst hw'';go_wp2;go_ret;exact⟨XW (decide_eq_false (fun h=>HB7.out h.2.2.2.2.2.2.2)).symm,_,rfl⟩};·have u6:(x9.toList==y9.toList)=false:=by{rw[Xa7];simp[b6]};have HB6:=Xqh b6;clear b6;(repeat(go_big_quiet_step((first|(go_at_call 205;exact Calls.quiet_of (HE.out _))))));refine wpQuiet_nil ?_;intro _ hw';obtain⟨nq,hw''⟩:=hw';subst hw'';go_wp2;go_ret;exact⟨XW (decide_eq_false (fun h=>HB6.out h.2.2.2.2.2.2.1)).symm,_,rfl⟩};·have u5:(x8.toList==y8.toList)=false:=by{rw[Xa7];simp[b5]};have HB5:=Xqh b5;clear b5;(repeat(go_big_quiet_step((first|(go_at_call 205;exact Calls.quiet_of (HE.out _))))));refine wpQuiet_nil ?_;intro _ hw';obtain⟨nq,hw''⟩:=hw';subst hw'';go_wp2;go_ret;exact⟨XW (decide_eq_false (fun h=>HB5.out h.2.2.2.2.2.1)).symm,_,rfl⟩};·have u4:(x7.toList==y7.toList)=false:=by{rw[Xa7];simp[b4]};have HB4:=Xqh b4;clear b4;(repeat(go_big_quiet_step((first|(go_at_call 205;exact Calls.quiet_of (HE.out _))))));refine wpQuiet_nil ?_;intro _ hw';obtain⟨nq,hw''⟩:=hw';subst hw'';go_wp2;go_ret;exact⟨XW (decide_eq_false (fun h=>HB4.out h.2.2.2.2.1)).symm,_,rfl⟩};·have HE:=Xqh (fun n=>(HE0.out n).mono (fun e w' hh=>show e= .returned (.bool false)∧_ from⟨by rw[hh.1,decide_eq_false b3],hh.2⟩));have HB3:=Xqh b3;clear b3;(repeat(go_big_quiet_step((first|(go_at_call 205;exact Calls.quiet_of (HE.out _))))));refine wpQuiet_nil ?_;intro _ hw';obtain⟨nq,hw''⟩:=hw';subst hw'';go_wp2;go_ret;exact⟨XW (decide_eq_false (fun h=>HB3.out h.2.2.2.1)).symm,_,rfl⟩};·have u2:(x5.toList==y5.toList)=false:=by{rw[Xa7];simp[b2]};have HB2:=Xqh b2;clear b2;(repeat(go_big_quiet_step((fail))));refine wpQuiet_nil ?_;intro _ hw';obtain⟨nq,hw''⟩:=hw';subst hw'';go_wp2;go_ret;exact⟨XW (decide_eq_false (fun h=>HB2.out h.2.2.1)).symm,_,rfl⟩};·have u1:(x4==y4)=false:=by{simp[b1]};have HB1:=Xqh b1;clear b1;(repeat(go_big_quiet_step((fail))));refine wpQuiet_nil ?_;intro _ hw';obtain⟨nq,hw''⟩:=hw';subst hw'';go_wp2;go_ret;exact⟨XW (decide_eq_false (fun h=>HB1.out h.2.1)).symm,_,rfl⟩
 ·have u0:(x0==y0)=false:=by{simp[b0]};have HB0:=Xqh b0;clear b0;(repeat(go_big_quiet_step((fail))));refine wpQuiet_nil ?_;intro _ hw';obtain⟨nq,hw''⟩:=hw';subst hw'';go_wp2;go_ret;exact⟨XW (decide_eq_false (fun h=>HB0.out h.1)).symm,_,rfl⟩
end
section
open Go.RowKit Classical
/-- Only the tape has been drawn from. -/
def DrewOf (w w' : World) : Prop := ∃ m, w' = w.drewN m
theorem DrewOf.step {w W:World}(h:DrewOf w W)(n:Nat):DrewOf w (W.drewN n):=by
 obtain⟨m,rfl⟩:=h
 exact⟨m+n,by simp⟩
theorem DrewOf.below {w W:World}(h:DrewOf w W):Below w.heap.size w W:=by
 obtain⟨m,rfl⟩:=h
 exact Below.drewN (Below.refl _ _) m
theorem DrewOf.cell {w W:World}(h:DrewOf w W){p:Addr}{v:Value}(hv:w.cell? p=some v):W.cell? p=some v:=Below.old h.below hv
theorem Same_has (A B:Ar)(ρ σ:Nat→Nat)(b c:Nat)(hI:A.Inv)(hJ:B.Inv):∀h,A.has h→∀k w,Xz w ρ b A→Xz w σ c B→Calls Tryz.prog 72 #[.pointer (some ⟨b,0,none⟩),.int .i64 h,.pointer (some ⟨c,0,none⟩),.int .i64 k] w fun e w'=>e= .returned (.bool (decide (ZJ A B h k)))∧∃m,w'=w.drewN m:=by
 refine Jc hI (fun h hh ihc ihk k w hA hB=>?_)
 obtain⟨a1,c1,m1,g1,-,-,hb1,hm1,hN1⟩:=hA.head
 obtain⟨a2,c2,m2,g2,-,-,hb2,hm2,hN2⟩:=hB.head
 have hd1:decide (A.has h)=true:=by simp[hh]
 by_cases hk:B.has k
 ·have hd2:decide (B.has k)=true:=by{simp[hk]};obtain⟨n1,rfl,-,-,-,hX1⟩:=hN1 (by have:=hh.1;have:=hh.2;unfold Ar.n at this;omega);obtain⟨n2,rfl,-,-,-,hX2⟩:=hN2 (by have:=hk.1;have:=hk.2;unfold Ar.n at this;omega);obtain⟨kv,av,F1,hK1,hA1⟩:=hX1 h hh;obtain⟨kv',av',F2,hK2,hA2⟩:=hX2 k hk;have HE:=Xqh (fun n=>arenaAlike_any (A.get h) (B.get k) kv av kv' av' n1 _ n2 _ (w.drewN n) (F1.below (Below.drewN (Below.refl _ _) n)) (F2.below (Below.drewN (Below.refl _ _) n)) (XE.below hA1.reads (Below.drewN (Below.refl _ _) n)) (XE.below hA2.reads (Below.drewN (Below.refl _ _) n)));have HIC:=Xqh (fun hc W(hW:DrewOf w W)=>ihc hc (B.get k).Xg W (hA.below hW.below) (hB.below hW.below));have HIK:=Xqh (fun x hx y W(hW:DrewOf w W)=>ihk x hx y W (hA.below hW.below) (hB.below hW.below));have f2:=F1.c2;have f11:=F1.c11;have e2:=F2.c2;have e11:=F2.c11;have HR1:=Xqh (show Xy w kv (A.get h).Xc from hK1.reads);have HR2:=Xqh (show Xy w kv' (B.get k).Xc from hK2.reads);obtain⟨ka,kc,rfl,kl1,kl2,-⟩:=HR1.out.form;obtain⟨ka',kc',rfl,kl3,kl4,-⟩:=HR2.out.form;have h1:=hh.1;have h2:=hh.2;have h3:=hk.1;have h4:=hk.2;unfold Ar.n at h2 h4;have HH:=Xqh (And.intro hh hk);have HA1:=Xqh (ZH A b _ c1 h w g1);have HA2:=Xqh (ZH B c _ c2 k w g2);have HAT1:=Xqh (XY b n1 A.ns.length c1 h w g1 h1 h2 hm1);have HAT2:=Xqh (XY c n2 B.ns.length c2 k w g2 h3 h4 hm2);clear hA hB hX1 hX2 hK1 hK2 hA1 hA2 F1 F2 ihc ihk hN1 hN2 hh hk;by_cases q1:Y1 (A.get h) (B.get k);·{have HE1:=Xqh (fun n=>(HE.out n).mono (fun e w' hh=>show e= .returned (.bool true)∧_ from⟨by rw[hh.1,decide_eq_true q1],hh.2⟩));have HQ1:=Xqh q1;clear q1 HE;by_cases q2:(A.get h).Xc.length=(B.get k).Xc.length;·{have u2:((((A.get h).Xc.length:Int))!=((B.get k).Xc.length:Int))=false:=by{simp[q2]};have HQ2:=Xqh q2;clear q2;by_cases q3:(A.get h).Xg=0↔(B.get k).Xg=0;·{have u3:(((A.get h).Xg==0)!=((B.get k).Xg==0))=false:=by{by_cases z:(A.get h).Xg=0;·{simp[z,q3.1 z]};·rw[beq_eq_false_iff_ne.2 z,beq_eq_false_iff_ne.2 (fun y=>z (q3.2 y))];rfl};have u3':(!(((A.get h).Xg==0)==((B.get k).Xg==0)))=false:=u3;have HQ3:=Xqh q3;clear q3;by_cases z1:(A.get h).Xg=0;·{have z2:(B.get k).Xg=0:=HQ3.out.1 z1;have v1:((A.get h).Xg !=0)=false:=by{simp[z1]};have HCON:Hid ((A.get h).Xg≠0→ZJ A B (A.get h).Xg (B.get k).Xg):=Xqh (fun hc=>absurd z1 hc);clear z1 z2;go_enter Tryz.func72,Tryz.ntmps72;go_wp2_with fail;refine HA1.out.mono ?_;rintro e w'⟨rfl,rfl⟩;rw[hd1];go_wp2_with fail;refine HA2.out.mono ?_;rintro e w'⟨rfl,rfl⟩;rw[hd2];go_wp2_with fail;refine HAT1.out.mono ?_;rintro e w'⟨rfl,rfl⟩;go_wp2_with fail;refine HAT2.out.mono ?_;rintro e w'⟨rfl,rfl⟩;go_wp2_with fail;go_quiet(first|(go_at_call 146;exact Calls.quiet_of (HE1.out _)));generalize hW1:w.drewN nq=W1 at*;have HW1:Hid (DrewOf w W1):=Xqh ⟨_,hW1.symm⟩;clear hW1;have f2':=HW1.out.cell f2;have f11':=HW1.out.cell f11;have e2':=HW1.out.cell e2;have e11':=HW1.out.cell e11;go_wp2_with fail;go_quiet(fail);generalize hW2:W1.drewN _=W2 at*;have HW2:Hid (DrewOf w W2):=Xqh (by rw[←hW2];exact HW1.out.step _);clear hW2 f2' f11' e2' e11';have f2':=HW2.out.cell f2;have f11':=HW2.out.cell f11;have e2':=HW2.out.cell e2;have e11':=HW2.out.cell e11;go_wp2;go_loopw [94](fun i wr=>∃k':Nat,k'≤(A.get h).Xc.length∧i= .int .i64 k'∧Hid (∀(j:Nat)(x y:Int),j<k'→(A.get h).Xc[j]?=some x→(B.get k).Xc[j]?=some y→ZJ A B x y)∧Hid (DrewOf w wr))(fun i _=>(A.get h).Xc.length-(intOf i).toNat);(case atStart=>exact⟨0,Nat.zero_le _,rfl,fun j x y hj=>by omega,HW2.out⟩);case round=>obtain⟨k',hk',rfl,hT,hW⟩:=hrel;have r2:=hW.out.cell f2;have s2:=hW.out.cell e2;clear f2 e2;by_cases hlt:k'<(A.get h).Xc.length;·{have hlt2:k'<(B.get k).Xc.length:=by{have:=HQ2.out;omega};obtain⟨kb1,ko1,rfl,-,hcs1⟩:=(Xy.below HR1.out hW.out.below).cells (by omega);obtain⟨kb2,ko2,rfl,-,hcs2⟩:=(Xy.below HR2.out hW.out.below).cells (by omega);obtain⟨x,hx⟩:∃x,(A.get h).Xc[k']?=some x:=⟨_,List.getElem?_eq_getElem hlt⟩;obtain⟨y,hy⟩:∃y,(B.get k).Xc[k']?=some y:=⟨_,List.getElem?_eq_getElem hlt2⟩;have t1:=hcs1 k' x hx;have t2:=hcs2 k' y hy;have HX:=Xqh (And.intro hx hy);have HS:=Xqh (fun n=>HIK.out x (List.mem_of_getElem? hx) y (wr.drewN n) (hW.out.step n));clear hcs1 hcs2 hx hy HIK HIC HR1 HR2;by_cases q5:ZJ A B x y;·{have HS1:=Xqh (fun n=>(HS.out n).mono (fun e w' hh=>show e= .returned (.bool true)∧_ from⟨by rw[hh.1,decide_eq_true q5],hh.2⟩));have HQ5:=Xqh q5;clear q5 HS;go_wp2_with fail;go_quiet(first|(go_at_call 72;exact Calls.quiet_of (HS1.out _)));go_wp2;go_roundw;(case rel=>exact⟨k'+1,hlt,by go_num,fun j x' y' hj hx' hy'=>by by_cases hjk:j<k';·{exact hT.out j x' y' hjk hx' hy'};·have:j=k':=by{omega};subst this;rw[HX.out.1]at hx';rw[HX.out.2]at hy';injection hx' with hx';injection hy' with hy';rw[←hx',←hy'];exact HQ5.out,hW.out.step _⟩);case measure=>simp[intOf];omega};·have HS1:=Xqh (fun n=>(HS.out n).mono (fun e w' hh=>show e= .returned (.bool false)∧_ from⟨by rw[hh.1,decide_eq_false q5],hh.2⟩));have HQ5:=Xqh q5;clear q5 HS;go_wp2_with fail;go_quiet(first|(go_at_call 72;exact Calls.quiet_of (HS1.out _)));go_wp2;go_ret;exact⟨XW (decide_eq_false (fun h=>HQ5.out (h.inv.2.2.2.2.2.2 k' x y HX.out.1 HX.out.2))).symm,hW.out.step _⟩};·have HT:=Xqh (fun(j:Nat)(x y:Int)(hx:(A.get h).Xc[j]?=some x)(hy:(B.get k).Xc[j]?=some y)=>hT.out j x y (by have:=(List.getElem?_eq_some_iff.1 hx).1;omega) hx hy);clear hT;go_wp2;go_ret;exact⟨XW (decide_eq_true (ZJ.mk HH.out.1 HH.out.2 HQ1.out HQ2.out HQ3.out HCON.out HT.out)).symm,hW.out⟩};·by_cases z3:ZJ A B (A.get h).Xg (B.get k).Xg;·{have v1:((A.get h).Xg !=0)=true:=by{simp[z1]};have HIC1:=Xqh (fun W(hW:DrewOf w W)=>(HIC.out z1 W hW).mono (fun e w' hh=>show e= .returned (.bool true)∧_ from⟨by rw[hh.1,decide_eq_true z3],hh.2⟩));have HZ1:=Xqh z1;have HZ3:=Xqh z3;clear z1 z3;go_enter Tryz.func72,Tryz.ntmps72;go_wp2_with fail;refine HA1.out.mono ?_;rintro e w'⟨rfl,rfl⟩;rw[hd1];go_wp2_with fail;refine HA2.out.mono ?_;rintro e w'⟨rfl,rfl⟩;rw[hd2];go_wp2_with fail;refine HAT1.out.mono ?_;rintro e w'⟨rfl,rfl⟩;go_wp2_with fail;refine HAT2.out.mono ?_;rintro e w'⟨rfl,rfl⟩;go_wp2_with fail;go_quiet(first|(go_at_call 146;exact Calls.quiet_of (HE1.out _)));generalize hW1:w.drewN nq=W1 at*;have HW1:Hid (DrewOf w W1):=Xqh ⟨_,hW1.symm⟩;clear hW1;have f2':=HW1.out.cell f2;have f11':=HW1.out.cell f11;have e2':=HW1.out.cell e2;have e11':=HW1.out.cell e11;go_wp2_with fail;go_quiet(first|(go_at_call 72;exact Calls.quiet_of (HIC1.out _ (HW1.out.step _))));generalize hW2:W1.drewN _=W2 at*;have HW2:Hid (DrewOf w W2):=Xqh (by rw[←hW2];exact HW1.out.step _);clear hW2 f2' f11' e2' e11';have f2':=HW2.out.cell f2;have f11':=HW2.out.cell f11;have e2':=HW2.out.cell e2;have e11':=HW2.out.cell e11;have HCON:Hid ((A.get h).Xg≠0→ZJ A B (A.get h).Xg (B.get k).Xg):=Xqh (fun _=>HZ3.out);go_wp2;go_loopw [94](fun i wr=>∃k':Nat,k'≤(A.get h).Xc.length∧i= .int .i64 k'∧Hid (∀(j:Nat)(x y:Int),j<k'→(A.get h).Xc[j]?=some x→(B.get k).Xc[j]?=some y→ZJ A B x y)∧Hid (DrewOf w wr))(fun i _=>(A.get h).Xc.length-(intOf i).toNat);(case atStart=>exact⟨0,Nat.zero_le _,rfl,fun j x y hj=>by omega,HW2.out⟩);case round=>obtain⟨k',hk',rfl,hT,hW⟩:=hrel;have r2:=hW.out.cell f2;have s2:=hW.out.cell e2;clear f2 e2;by_cases hlt:k'<(A.get h).Xc.length;·{have hlt2:k'<(B.get k).Xc.length:=by{have:=HQ2.out;omega};obtain⟨kb1,ko1,rfl,-,hcs1⟩:=(Xy.below HR1.out hW.out.below).cells (by omega);obtain⟨kb2,ko2,rfl,-,hcs2⟩:=(Xy.below HR2.out hW.out.below).cells (by omega);obtain⟨x,hx⟩:∃x,(A.get h).Xc[k']?=some x:=⟨_,List.getElem?_eq_getElem hlt⟩;obtain⟨y,hy⟩:∃y,(B.get k).Xc[k']?=some y:=⟨_,List.getElem?_eq_getElem hlt2⟩;have t1:=hcs1 k' x hx;have t2:=hcs2 k' y hy;have HX:=Xqh (And.intro hx hy);have HS:=Xqh (fun n=>HIK.out x (List.mem_of_getElem? hx) y (wr.drewN n) (hW.out.step n));clear hcs1 hcs2 hx hy HIK HIC HR1 HR2;by_cases q5:ZJ A B x y;·{have HS1:=Xqh (fun n=>(HS.out n).mono (fun e w' hh=>show e= .returned (.bool true)∧_ from⟨by rw[hh.1,decide_eq_true q5],hh.2⟩));have HQ5:=Xqh q5;clear q5 HS;go_wp2_with fail;go_quiet(first|(go_at_call 72;exact Calls.quiet_of (HS1.out _)));go_wp2;go_roundw;(case rel=>exact⟨k'+1,hlt,by go_num,fun j x' y' hj hx' hy'=>by by_cases hjk:j<k';·{exact hT.out j x' y' hjk hx' hy'};·have:j=k':=by{omega};subst this;rw[HX.out.1]at hx';rw[HX.out.2]at hy';injection hx' with hx';injection hy' with hy';rw[←hx',←hy'];exact HQ5.out,hW.out.step _⟩);case measure=>simp[intOf];omega};·have HS1:=Xqh (fun n=>(HS.out n).mono (fun e w' hh=>show e= .returned (.bool false)∧_ from⟨by rw[hh.1,decide_eq_false q5],hh.2⟩));have HQ5:=Xqh q5;clear q5 HS;go_wp2_with fail;go_quiet(first|(go_at_call 72;exact Calls.quiet_of (HS1.out _)));go_wp2;go_ret;exact⟨XW (decide_eq_false (fun h=>HQ5.out (h.inv.2.2.2.2.2.2 k' x y HX.out.1 HX.out.2))).symm,hW.out.step _⟩};·have HT:=Xqh (fun(j:Nat)(x y:Int)(hx:(A.get h).Xc[j]?=some x)(hy:(B.get k).Xc[j]?=some y)=>hT.out j x y (by have:=(List.getElem?_eq_some_iff.1 hx).1;omega) hx hy);clear hT;go_wp2;go_ret;exact⟨XW (decide_eq_true (ZJ.mk HH.out.1 HH.out.2 HQ1.out HQ2.out HQ3.out HCON.out HT.out)).symm,hW.out⟩};·have v1:((A.get h).Xg !=0)=true:=by{simp[z1]};have HIC1:=Xqh (fun W(hW:DrewOf w W)=>(HIC.out z1 W hW).mono (fun e w' hh=>show e= .returned (.bool false)∧_ from⟨by rw[hh.1,decide_eq_false z3],hh.2⟩));have HZ1:=Xqh z1;have HZ3:=Xqh z3;clear z1 z3;go_enter Tryz.func72,Tryz.ntmps72;go_wp2_with fail;refine HA1.out.mono ?_;rintro e w'⟨rfl,rfl⟩;rw[hd1];go_wp2_with fail;refine HA2.out.mono ?_;rintro e w'⟨rfl,rfl⟩;rw[hd2];go_wp2_with fail;refine HAT1.out.mono ?_;rintro e w'⟨rfl,rfl⟩;go_wp2_with fail;refine HAT2.out.mono ?_;rintro e w'⟨rfl,rfl⟩;go_wp2_with fail;go_quiet(first|(go_at_call 146;exact Calls.quiet_of (HE1.out _)));generalize hW1:w.drewN nq=W1 at*;have HW1:Hid (DrewOf w W1):=Xqh ⟨_,hW1.symm⟩;clear hW1;have f2':=HW1.out.cell f2;have f11':=HW1.out.cell f11;have e2':=HW1.out.cell e2;have e11':=HW1.out.cell e11;go_wp2_with fail;go_quiet(first|(go_at_call 72;exact Calls.quiet_of (HIC1.out _ (HW1.out.step _))));go_wp2;go_ret;exact⟨XW (decide_eq_false (fun h=>HZ3.out (h.inv.2.2.2.2.2.1 HZ1.out))).symm,HW1.out.step _⟩};·have u3:(((A.get h).Xg==0)!=((B.get k).Xg==0))=true:=by{by_cases z:(A.get h).Xg=0;·{by_cases y:(B.get k).Xg=0;·{exact absurd (by simp[z,y]) q3};·simp[z,y]};·by_cases y:(B.get k).Xg=0;·{simp[z,y]};·exact absurd (by simp[z,y]) q3};have u3':(!(((A.get h).Xg==0)==((B.get k).Xg==0)))=true:=u3;have HQ3:=Xqh q3;clear q3;go_enter Tryz.func72,Tryz.ntmps72;go_wp2_with fail;refine HA1.out.mono ?_;rintro e w'⟨rfl,rfl⟩;rw[hd1];go_wp2_with fail;refine HA2.out.mono ?_;rintro e w'⟨rfl,rfl⟩;rw[hd2];go_wp2_with fail;refine HAT1.out.mono ?_;rintro e w'⟨rfl,rfl⟩;go_wp2_with fail;refine HAT2.out.mono ?_;rintro e w'⟨rfl,rfl⟩;go_wp2_with fail;go_quiet(first|(go_at_call 146;exact Calls.quiet_of (HE1.out _)));go_wp2;go_ret;exact⟨XW (decide_eq_false (fun h=>HQ3.out h.inv.2.2.2.2.1)).symm,_,rfl⟩};·have u2:((((A.get h).Xc.length:Int))!=((B.get k).Xc.length:Int))=true:=by{simp;omega};have HQ2:=Xqh q2;clear q2;go_enter Tryz.func72,Tryz.ntmps72;go_wp2_with fail;refine HA1.out.mono ?_;rintro e w'⟨rfl,rfl⟩;rw[hd1];go_wp2_with fail;refine HA2.out.mono ?_;rintro e w'⟨rfl,rfl⟩;rw[hd2];go_wp2_with fail;refine HAT1.out.mono ?_;rintro e w'⟨rfl,rfl⟩;go_wp2_with fail;refine HAT2.out.mono ?_;rintro e w'⟨rfl,rfl⟩;go_wp2_with fail;go_quiet(first|(go_at_call 146;exact Calls.quiet_of (HE1.out _)));go_wp2;go_ret;exact⟨XW (decide_eq_false (fun h=>HQ2.out h.inv.2.2.2.1)).symm,_,rfl⟩};·have HE1:=Xqh (fun n=>(HE.out n).mono (fun e w' hh=>show e= .returned (.bool false)∧_ from⟨by rw[hh.1,decide_eq_false q1],hh.2⟩));have HQ1:=Xqh q1;clear q1 HE;go_enter Tryz.func72,Tryz.ntmps72;go_wp2_with fail;refine HA1.out.mono ?_;rintro e w'⟨rfl,rfl⟩;rw[hd1];go_wp2_with fail;refine HA2.out.mono ?_;rintro e w'⟨rfl,rfl⟩;rw[hd2];go_wp2_with fail;refine HAT1.out.mono ?_;rintro e w'⟨rfl,rfl⟩;go_wp2_with fail;refine HAT2.out.mono ?_;rintro e w'⟨rfl,rfl⟩;go_wp2_with fail;go_quiet(first|(go_at_call 146;exact Calls.quiet_of (HE1.out _)));go_wp2;go_ret;exact⟨XW (decide_eq_false (fun h=>HQ1.out h.inv.2.2.1)).symm,_,rfl⟩
 ·have hd2:decide (B.has k)=false:=by{simp[hk]};have HK:=Xqh hk;clear hk hN1 hN2;have HA2:=Xqh (ZH B c _ c2 k w g2);have HA1:=Xqh (ZH A b _ c1 h w g1);go_enter Tryz.func72,Tryz.ntmps72;go_wp2_with fail;refine HA1.out.mono ?_;rintro e w'⟨rfl,rfl⟩;rw[hd1];go_wp2_with fail;refine HA2.out.mono ?_;rintro e w'⟨rfl,rfl⟩;rw[hd2];go_wp2;go_ret;exact⟨XW (decide_eq_false (fun h=>HK.out h.inv.2.1)).symm,0,rfl⟩
theorem Same_any (A B:Ar)(ρ σ:Nat→Nat)(b c:Nat)(hI:A.Inv)(hJ:B.Inv)(h k:Int)(w:World)(hA:Xz w ρ b A)(hB:Xz w σ c B):Calls Tryz.prog 72 #[.pointer (some ⟨b,0,none⟩),.int .i64 h,.pointer (some ⟨c,0,none⟩),.int .i64 k] w fun e w'=>e= .returned (.bool (decide (ZJ A B h k)))∧∃m,w'=w.drewN m:=by
 by_cases hh:A.has h
 ·exact Same_has A B ρ σ b c hI hJ h hh k w hA hB
 ·obtain⟨a1,c1,m1,g1,-⟩:=hA.head;have hd1:decide (A.has h)=false:=by{simp[hh]};have HK:=Xqh hh;have HA1:=Xqh (ZH A b _ c1 h w g1);clear hh hA hB;go_enter Tryz.func72,Tryz.ntmps72;go_wp2_with fail;refine HA1.out.mono ?_;rintro e w'⟨rfl,rfl⟩;rw[hd1];go_wp2;go_ret;exact⟨XW (decide_eq_false (fun h=>HK.out h.inv.1)).symm,0,rfl⟩
end
section
open Go.RowKit Go.Shelf Classical
theorem SameI_own {w0 w:World}{D b c:Nat}{A B:Ar}{l:List Xf}{h k:Int}{r:Bool}(o:Own w0 D l w)(h1:Xf.arena b A∈l)(h2:Xf.arena c B∈l)(hI:A.Inv)(hJ:B.Inv)(hr:decide (ZJ A B h k)=r):Calls Tryz.prog 72 #[.pointer (some ⟨b,0,none⟩),.int .i64 h,.pointer (some ⟨c,0,none⟩),.int .i64 k] w fun e w'=>e= .returned (.bool r)∧Own w0 D l w':=by
 obtain⟨ρ,hA⟩:=o.arena h1
 obtain⟨σ,hB⟩:=o.arena h2
 refine(Same_any A B ρ σ b c hI hJ h k w hA hB).mono ?_
 rintro e w'⟨rfl,m,rfl⟩
 exact⟨by rw[hr],o.read (Below.drewN (Below.refl _ _) _)⟩
theorem import_inv {A C:Ar}(hA:A.Inv)(hC:C.Inv)(d h:Int):(A.Zp C d h).2.Inv∧(A.Zp C d h).2.ns.length≤A.ns.length+2*C.ns.length+2:=by
 unfold Ar.Zp
 split
 ·rename_i hh;split;·{exact⟨hA,by dsimp only;omega⟩};·rename_i hk;obtain⟨q1,q2⟩:=Xhh (deep:=true) hC hA hh.1 (Classical.not_not.1 (fun z=>hk (.inl z))) hh.2 (Z3 hC h);have:=Z3 hC h;exact⟨q1,by dsimp only;omega⟩
 ·exact⟨hA,by dsimp only;omega⟩
theorem import_law {A C:Ar}(hA:A.Inv)(hC:C.Inv){d h:Int}(e:(A.Zp C d h).1.2=0):C.has h∧(A.Zp C d h).2.has (A.Zp C d h).1.1∧((A.Zp C d h).2.get (A.Zp C d h).1.1).doc=d∧((A.Zp C d h).2.get (A.Zp C d h).1.1).Xd=0∧ZJ (A.Zp C d h).2 C (A.Zp C d h).1.1 h:=by
 unfold Ar.Zp at e⊢
 by_cases hh:A.has d∧C.has h
 ·rw[if_pos hh]at e⊢;by_cases hk:(A.get d).Xa≠1∨(C.get h).Xa=1;·{rw[if_pos hk]at e;exact absurd e (show(9:Int)≠0 by decide)};·rw[if_neg hk];have R:=Xaw hC C.ns.length hA hh.1 (Classical.not_not.1 (fun z=>hk (.inl z))) hh.2 (fun z=>hk (.inr z)) (Z3 hC h);exact⟨hh.2,R.has,R.doc,R.Xd,R.alk.symm⟩
 ·rw[if_neg hh]at e;exact absurd e (show(3:Int)≠0 by decide)
theorem DomImports_no1 (v v2:Value)(l m:List OpD)(d h:Int)(w:World)(hv:JW w v l)(hv2:JW w v2 m)(hs:¬Jj l 50):Calls Tryz.prog 14 #[v,v2,.int .i64 d,.int .i64 h] w fun e w'=>e= .returned (.bool true)∧Below w.heap.size w w':=by
 have HS:=Xqh (XdA v l 50 w hv)
 have HD:=Xqh (show decide (Jj l 50)=false from decide_eq_false hs)
 obtain⟨av,cv,rfl,-⟩:=hv
 obtain⟨av2,cv2,rfl,-⟩:=hv2
 go_enter Tryz.func14,Tryz.ntmps14
 go_wp2_with fail
 refine HS.out.mono ?_
 rintro e w1⟨rfl,hB1⟩
 rw[HD.out]
 go_wp2_with fail
 refine(XdO _).mono ?_
 rintro e w2⟨rfl,hB2⟩
 go_wp2
 go_ret
 exact⟨rfl,hB1.trans (hB2.mono hB1.size)⟩
theorem DomImports_no2 (v v2:Value)(l m:List OpD)(d h:Int)(w:World)(hv:JW w v l)(hv2:JW w v2 m)(hs:Jj l 50)(hs2:¬Jj m 50):Calls Tryz.prog 14 #[v,v2,.int .i64 d,.int .i64 h] w fun e w'=>e= .returned (.bool true)∧Below w.heap.size w w':=by
 have HS:=Xqh (XdA v l 50 w hv)
 have HD:=Xqh (show decide (Jj l 50)=true from decide_eq_true hs)
 have HS2:=Xqh (fun W(hb:Below w.heap.size w W)=>XdA v2 m 50 W (hv2.below hb))
 have HD2:=Xqh (show decide (Jj m 50)=false from decide_eq_false hs2)
 obtain⟨av,cv,rfl,-⟩:=hv
 obtain⟨av2,cv2,rfl,-⟩:=hv2
 go_enter Tryz.func14,Tryz.ntmps14
 go_wp2_with fail
 refine HS.out.mono ?_
 rintro e w1⟨rfl,hB1⟩
 rw[HD.out]
 have HS3:=Xqh (HS2.out w1 hB1)
 clear HS2
 go_wp2_with fail
 refine HS3.out.mono ?_
 rintro e w3⟨rfl,hB3⟩
 rw[HD2.out]
 have hB1:=hB1.trans (hB3.mono hB1.size)
 go_wp2_with fail
 refine(XdO _).mono ?_
 rintro e w2⟨rfl,hB2⟩
 go_wp2
 go_ret
 exact⟨rfl,hB1.trans (hB2.mono hB1.size)⟩
theorem DomImports_any (v v2:Value)(l m:List OpD)(d h:Int)(w:World)(hv:JW w v l)(hv2:JW w v2 m):Calls Tryz.prog 14 #[v,v2,.int .i64 d,.int .i64 h] w fun e w'=>e= .returned (.bool true)∧Below w.heap.size w w':=by
 by_cases hs:Jj l 50
 case neg=>exact DomImports_no1 v v2 l m d h w hv hv2 hs
 by_cases hs2:Jj m 50
 case neg=>exact DomImports_no2 v v2 l m d h w hv hv2 hs hs2
 have HS:=Xqh (XdA v l 50 w hv)
 have HD:=Xqh (show decide (Jj l 50)=true from decide_eq_true hs)
 have HS2:=Xqh (fun W(hb:Below w.heap.size w W)=>XdA v2 m 50 W (hv2.below hb))
 have HD2:=Xqh (show decide (Jj m 50)=true from decide_eq_true hs2)
 obtain⟨i1,-,hlen,-⟩:=XfA hs (by omega) (Nat.le_refl l.length)
 rw[List.take_length]at i1 hlen
 obtain⟨j1,-,hlen2,-⟩:=XfA hs2 (by omega) (Nat.le_refl m.length)
 rw[List.take_length]at j1 hlen2
 have HP:=Xqh (fun W(o:Own w w.heap.size [] W)=>Xi6 o v l (fun W' o'=>hv.below o'.low) hs (by omega))
 have HP2:=Xqh (fun W ll(o:Own w w.heap.size ll W)=>Xi6 o v2 m (fun W' o'=>hv2.below o'.low) hs2 (by omega))
 have o0:=Own.start w
 obtain⟨av,cv,rfl,-⟩:=hv
 obtain⟨av2,cv2,rfl,-⟩:=hv2
 clear hs hs2
 generalize Zj l=A at*
 generalize Zj m=C at*
 have HIM:=Xqh (fun(W:World)(b b2:Nat)(ll:List Xf)(o:Own w w.heap.size (.arena b A::ll) W)(hm:Xf.arena b2 C∈ll)=>XmM (d:=d) (h:=h) o i1 j1 (.inr hm) (by omega))
 have HRI:=Xqh (fun(W:World)(c c2:Nat)(ll:List Xf)(o:Own w w.heap.size (.refar c A::ll) W)(hm:Xf.refar c2 C∈ll)=>XoZ (d:=d) (h:=h) o i1 j1 (.inr hm) (by omega))
 unfold Xl at HIM HRI
 obtain⟨q1,q2⟩:=import_inv i1 j1 d h
 have LAW:=fun e=>import_law i1 j1 (d:=d) (h:=h) e
 obtain⟨B,hB⟩:∃B,(A.Zp C d h).2=B:=⟨_,rfl⟩
 rw[hB]at HIM HRI q1 q2 LAW
 generalize(A.Zp C d h).1.2=er at*
 generalize(A.Zp C d h).1.1=t at*
 have HL:=Xqh (And.intro LAW (And.intro q1 j1))
 have HBS:=Xqh (q1.short (show B.ns.length≤1000000 by omega))
 have HCS:=Xqh (j1.short (show C.ns.length≤1000000 by omega))
 have h1:(t !=t)=false:=by simp
 have h2:(er !=er)=false:=by simp
 clear LAW q1 q2 hB i1 j1 hlen hlen2
 go_enter Tryz.func14,Tryz.ntmps14
 go_wp2_with fail
 refine HS.out.mono ?_
 rintro e w1⟨rfl,hB1⟩
 rw[HD.out]
 have HS3:=Xqh (HS2.out w1 hB1)
 have o1:=o0.read hB1
 clear o0 HS HD hB1 HS2
 go_wp2_with fail
 refine HS3.out.mono ?_
 rintro e w2⟨rfl,hB2⟩
 rw[HD2.out]
 have o2:=o1.read hB2
 clear o1 HS3 HD2 hB2
 go_wp2_with fail
 refine(HP.out _ o2).mono ?_
 rintro e w3⟨b,c,rfl,o3⟩
 clear o2 HP
 go_wp2_with fail
 refine(HP2.out _ _ o3).mono ?_
 rintro e w4⟨b2,c2,rfl,o4⟩
 clear o3 HP2
 go_wp2_with fail
 refine(HIM.out _ b b2 _ o4.ZI (by simp)).mono ?_
 rintro e w5⟨rfl,o5⟩
 clear o4 HIM
 go_wp2_with fail
 refine(HRI.out _ c c2 _ o5.Xb5 (by simp)).mono ?_
 rintro e w6⟨rfl,o6⟩
 clear o5 HRI
 go_wp2_with fail
 refine(Xl1 o6 (b:=b) (c:=c) (A:=B) (by simp) (by simp) HBS.out).mono ?_
 rintro e w7⟨rfl,o7⟩
 clear o6
 go_wp2_with fail
 refine(Xl1 o7 (b:=b2) (c:=c2) (A:=C) (by simp) (by simp) HCS.out).mono ?_
 rintro e w8⟨rfl,o8⟩
 clear o7
 by_cases hz:er=0
 case neg=>have y1:(er !=0)=true:=by{simp[hz]};clear hz HL;go_wp2_with fail;refine(XdO _).mono ?_;rintro e wk⟨rfl,hBk⟩;have HB:=Xqh (o8.back hBk);clear hBk;go_wp2;go_ret;exact⟨rfl,HB.out⟩
 case pos=>have y1:(er !=0)=false:=by{simp[hz]};obtain⟨LAW,q1,j1⟩:=HL.out;obtain⟨l1,l2,l3,l4,l5⟩:=LAW hz;obtain⟨n,hn⟩:∃n,C.get h=n:=⟨_,rfl⟩;obtain⟨x,hx⟩:∃x,B.get t=x:=⟨_,rfl⟩;rw[hx]at l3 l4;have HN:=Xqh (fun W(ll:List Xf)(o:Own w w.heap.size ll W)(hm:Xf.arena b2 C∈ll)=>NodeL_own (h:=h) o hm HCS.out ((if_pos l1).trans hn) (if_pos l1));have HX:=Xqh (fun W(ll:List Xf)(o:Own w w.heap.size ll W)(hm:Xf.arena b B∈ll)=>NodeL_own (h:=t) o hm HBS.out ((if_pos l2).trans hx) (if_pos l2));have HSM:=Xqh (fun W(ll:List Xf)(o:Own w w.heap.size ll W)(h1:Xf.arena b B∈ll)(h2:Xf.arena b2 C∈ll)=>SameI_own (h:=t) (k:=h) o h1 h2 q1 j1 (decide_eq_true l5));have HDP:=Xqh (And.intro l3 l4);clear LAW q1 j1 l1 l2 l3 l4 l5 hn hx hz HL;go_wp2_with fail;refine(HN.out _ _ o8 (by simp)).mono ?_;rintro e w9⟨kaa,kcaa,aa,acaa,rfl,o9,-⟩;clear o8 HN;have HT:=Xqh (XV (w:=w9) n kaa kcaa aa acaa n.Xc.length n.Xb.length);have o10:=o9.XU n (.slice kaa n.Xc.length kcaa) (.slice aa n.Xb.length acaa);go_wp2_with((with_reducible refine wpList_store_mid ?_ 46 (.tmp 19) (.tmp 93) ?_ w9.heap.size 0 (n.cells (.slice kaa n.Xc.length kcaa) (.slice aa n.Xb.length acaa)).toArray ?_ ?_ ?_ ?_ ?_ ?_);exact rfl;exact rfl;exact rfl;exact rfl;exact HT.out.1;exact XM _ _ _;exact all_oneCell_toArray HT.out.2;clear HT;generalize hw7:World.setCells _ _ _ _=xw9 at o10⊢;generalize hg5:w9.heap.size=g9 at o10⊢;clear hw7 hg5;skip);clear o9;refine(HX.out _ _ o10 (by simp)).mono ?_;rintro e w11⟨kab,kcab,ab,acab,rfl,o11,-⟩;clear o10 HX;have e0:(d==d)=true:=by{simp};by_cases hh:n.host=0;·{have y2:(n.host !=0)=false:=by{simp[hh]};clear hh;have HT:=Xqh (XV (w:=w11) x kab kcab ab acab x.Xc.length x.Xb.length);have o12:=o11.XU x (.slice kab x.Xc.length kcab) (.slice ab x.Xb.length acab);go_wp2_with((with_reducible refine wpList_store_mid ?_ 46 (.tmp 21) (.tmp 99) ?_ w11.heap.size 0 (x.cells (.slice kab x.Xc.length kcab) (.slice ab x.Xb.length acab)).toArray ?_ ?_ ?_ ?_ ?_ ?_);exact rfl;exact rfl;exact rfl;exact rfl;exact HT.out.1;exact XM _ _ _;exact all_oneCell_toArray HT.out.2;clear HT;generalize hw7:World.setCells _ _ _ _=xw11 at o12⊢;generalize hg5:w11.heap.size=g11 at o12⊢;clear hw7 hg5;have m12:xw11.cell? ⟨g9,12,none⟩=some (.int .i64 n.host):=(cell_of_row xw11 _ _ _ _ _ (o12.box (g:=g9) (o:= .cells (n.cells (.slice kaa n.Xc.length kcaa) (.slice aa n.Xb.length acaa)).toArray 46 (0,0)) (by simp))).trans rfl;have p3:xw11.cell? ⟨g11,3,none⟩=some (.int .i64 x.doc):=(cell_of_row xw11 _ _ _ _ _ (o12.box (g:=g11) (o:= .cells (x.cells (.slice kab x.Xc.length kcab) (.slice ab x.Xb.length acab)).toArray 46 (0,0)) (by simp))).trans rfl;have p1:xw11.cell? ⟨g11,1,none⟩=some (.int .i64 x.Xd):=(cell_of_row xw11 _ _ _ _ _ (o12.box (g:=g11) (o:= .cells (x.cells (.slice kab x.Xc.length kcab) (.slice ab x.Xb.length acab)).toArray 46 (0,0)) (by simp))).trans rfl;rw[HDP.out.1]at p3;rw[HDP.out.2]at p1);clear o11 m12 p3 p1;refine(HSM.out _ _ o12 (by simp) (by simp)).mono ?_;rintro e w13⟨rfl,o13⟩;clear o12 HSM;go_wp2_with fail;refine(XdO _).mono ?_;rintro e wk⟨rfl,hBk⟩;have HB:=Xqh (o13.back hBk);clear hBk;go_wp2;go_ret;exact⟨rfl,HB.out⟩};·have y2:(n.host !=0)=true:=by{simp[hh]};clear hh HSM;have HT:=Xqh (XV (w:=w11) x kab kcab ab acab x.Xc.length x.Xb.length);have o12:=o11.XU x (.slice kab x.Xc.length kcab) (.slice ab x.Xb.length acab);go_wp2_with((with_reducible refine wpList_store_mid ?_ 46 (.tmp 21) (.tmp 99) ?_ w11.heap.size 0 (x.cells (.slice kab x.Xc.length kcab) (.slice ab x.Xb.length acab)).toArray ?_ ?_ ?_ ?_ ?_ ?_);exact rfl;exact rfl;exact rfl;exact rfl;exact HT.out.1;exact XM _ _ _;exact all_oneCell_toArray HT.out.2;clear HT;generalize hw7:World.setCells _ _ _ _=xw11 at o12⊢;generalize hg5:w11.heap.size=g11 at o12⊢;clear hw7 hg5;have m12:xw11.cell? ⟨g9,12,none⟩=some (.int .i64 n.host):=(cell_of_row xw11 _ _ _ _ _ (o12.box (g:=g9) (o:= .cells (n.cells (.slice kaa n.Xc.length kcaa) (.slice aa n.Xb.length acaa)).toArray 46 (0,0)) (by simp))).trans rfl;have p3:xw11.cell? ⟨g11,3,none⟩=some (.int .i64 x.doc):=(cell_of_row xw11 _ _ _ _ _ (o12.box (g:=g11) (o:= .cells (x.cells (.slice kab x.Xc.length kcab) (.slice ab x.Xb.length acab)).toArray 46 (0,0)) (by simp))).trans rfl;have p1:xw11.cell? ⟨g11,1,none⟩=some (.int .i64 x.Xd):=(cell_of_row xw11 _ _ _ _ _ (o12.box (g:=g11) (o:= .cells (x.cells (.slice kab x.Xc.length kcab) (.slice ab x.Xb.length acab)).toArray 46 (0,0)) (by simp))).trans rfl;rw[HDP.out.1]at p3;rw[HDP.out.2]at p1);clear o11 m12 p3 p1;refine(XdO _).mono ?_;rintro e wk⟨rfl,hBk⟩;have HB:=Xqh (o12.back hBk);clear hBk;go_wp2;go_ret;exact⟨rfl,HB.out⟩
end
end Go.Proofs.YtpicinjcmjaogaaGreat
