import Derived.Deep.Slices
import Derived.Deep.Fields
import Derived.ChangeSame
import Derived.ProofKit
import Derived.Test.YtpicinjcmjaogaaGreatY43
set_option maxRecDepth 100000
set_option maxHeartbeats 4000000
set_option linter.unusedVariables false
namespace Go.Proofs.YtpicinjcmjaogaaGreat
section
open Go.RowKit
end
section
open Go.RowKit Go.ChangeShapes Go.WideShapes Go.Deep
section
variable {H : Type} {enc : TypeId × Value → H} {P : Program} {w : World} {base : Nat} {spare : Nat → Bool} {held : Bool}
theorem W6 {t e:TypeId}{fs:Array Field}{fuel:Nat}{cs:List Value}{x:DataW H×List MemPlace}(ht:P.underlying t=some (.slice e))(he:P.underlying e=some (.struct fs))(hone:oneCellFields P fs=true)(hC:P.cellsOf e=fs.size)(h:DataW.trod enc P w base spare held fuel t cs=some x):cs= [.slice none 0 0]∨∃(a:Addr)(len cap:Nat)(D:Nat→DataW H),cs= [.slice (some a) len cap]∧len≤cap∧cap≤maxLen∧∀i,i<len→∃(ys:List (DataW H×List MemPlace))(n:Nat),∀(j:Nat)(f:Field),fs[j]?=some f→∃(v:Value)(y:DataW H×List MemPlace),w.cell? (a.add (i*fs.size+j))=some v∧ys[j]?=some y∧DataW.trod enc P w base spare held n f.type [v]=some y:=by
 rcases open_slice ht h with h0|⟨a,len,cap,m,n,D,Pl,hcs,hb,hl,hm,hmm,hx,hi⟩
 ·exact .inl h0.1
 ·refine .inr ⟨a,len,cap,D,hcs,hl,hm,fun i hil=>?_⟩;have him:i<m:=by{rw[hmm];split<;>omega};obtain⟨cs',hc,ht'⟩:=hi i him;rw[hC]at hc;obtain⟨ys,n',hn',hy,hlen,hyl,hf⟩:=DataW.trod_struct he ht';obtain⟨_,hcl,hat⟩:=World.cells?_some hc;refine⟨ys,n',fun j f hj=>?_⟩;obtain⟨ho,hk⟩:=hone_of hone j f hj;have hjl:j<fs.size:=(Array.getElem?_eq_some_iff.1 hj).1;have hcell:=hat j hjl;have hv:cs'[j]?=some (cs'[j]'(by omega)):=List.getElem?_eq_getElem (by omega);have h1:=hf j f hj;rw[ho,hk]at h1;have hone':(cs'.drop j).take 1= [cs'[j]'(by omega)]:=by{rw[List.drop_eq_getElem_cons (by omega)];rfl};rw[hone']at h1;have hys:ys[j]?=some (ys[j]'(by omega)):=List.getElem?_eq_getElem (by omega);refine⟨_,_,?_,hys,h1.trans hys⟩;rw[←Go.Deep.add_add,hcell,hv]
end
theorem W7 {w:World}{a:Addr}{v:Value}(h:w.cell? a=some v):a.spot=none:=by
 unfold World.cell? at h
 split at h
 ·split at h;·{cases h};·rename_i hs;simpa using hs
 ·cases h
theorem W8 {α:Type}(Q:Nat→α→Prop):∀n:Nat,(∀i,i<n→∃x,Q i x)→∃l:List α,l.length=n∧∀i x,l[i]?=some x→Q i x
 |0,_=>⟨[],rfl,fun i x h=>by simp at h⟩
 |n+1,h=>by{obtain⟨l,hl,hq⟩:=W8 Q n (fun i hi=>h i (by omega));obtain⟨x,hx⟩:=h n (by omega);refine⟨l++ [x],by simp[hl],fun i y hy=>?_⟩;rw[List.getElem?_append]at hy;split at hy;·{exact hq i y hy};·have:i=n:=by{have:=(List.getElem?_eq_some_iff.1 hy).1;simp at this;omega};subst this;simp[hl]at hy;subst hy;exact hx}
section
variable {H : Type} {enc : TypeId × Value → H} {w : World} {base : Nat} {spare : Nat → Bool} {held : Bool}
theorem Wa {fuel:Nat}{v:Value}{x:DataW H×List MemPlace}(h:DataW.trod enc Tryz.prog w base spare held fuel 44 [v]=some x):∃l:List Xm,XE w v l:=by
 rcases W6 Tryz.underlying44 Tryz.underlying132 (by kernel_rfl) (by kernel_rfl) h with h0|⟨a,len,cap,D,hcs,hl,hm,hi⟩
 ·simp at h0;subst h0;exact⟨[],rfl,none,0,rfl,Nat.le_refl _,Nat.zero_le _,fun h=>absurd h (by simp)⟩
 ·simp at hcs;subst hcs;have hq:∀i,i<len→∃y:Xm,w.cell? (a.add (i*3+0))=some (.int .i64 y.1)∧w.cell? (a.add (i*3+1))=some (.string y.2.1)∧w.cell? (a.add (i*3+2))=some (.string y.2.2):=by{intro i hil;obtain⟨ys,n,hf⟩:=hi i hil;obtain⟨v0,y0,c0,-,t0⟩:=hf 0 _ rfl;obtain⟨v1,y1,c1,-,t1⟩:=hf 1 _ rfl;obtain⟨v2,y2,c2,-,t2⟩:=hf 2 _ rfl;obtain⟨s,e0,-⟩:=DataW.trod_int Tryz.underlying34 t0;obtain⟨nm,e1,-⟩:=DataW.trod_string Tryz.underlying9 t1;obtain⟨vl,e2,-⟩:=DataW.trod_string Tryz.underlying9 t2;simp at e0 e1 e2;subst e0;subst e1;subst e2;exact⟨(s,nm,vl),c0,c1,c2⟩};obtain⟨l,hll,hlq⟩:=W8 _ len hq;subst hll;refine⟨l,XcP l,some a,cap,rfl,hl,hm,fun hp=>?_⟩;have hsp:a.spot=none:=by{obtain⟨q,-⟩:=hlq 0 _ (List.getElem?_eq_getElem hp);exact W7 (by simpa[Addr.add]using q)};obtain⟨b,o,sp⟩:=a;simp at hsp;subst hsp;refine⟨b,o,rfl,fun j x hx=>?_⟩;have hj:j<l.length*3:=by{have:=(List.getElem?_eq_some_iff.1 hx).1;rwa[XcP]at this};have h3:j=3*(j/3)+j%3:=by{omega};have hy:l[j/3]?=some (l[j/3]'(by omega)):=List.getElem?_eq_getElem (by omega);rw[h3,XdQ hy _ (by omega)]at hx;have hq:=hlq _ _ hy;have hm3:j%3<3:=by{omega};generalize j%3=r at*;rw[h3];simp only[Addr.add_mid]at hq;rcases(show r=0∨r=1∨r=2 by omega)with rfl|rfl|rfl;·{simp[Xv]at hx;subst hx;rw[show o+(3*(j/3)+0)=o+(j/3*3+0)by(omega)];exact hq.1};·{simp[Xv]at hx;subst hx;rw[show o+(3*(j/3)+1)=o+(j/3*3+1)by(omega)];exact hq.2.1};·simp[Xv]at hx;subst hx;rw[show o+(3*(j/3)+2)=o+(j/3*3+2)by(omega)];exact hq.2.2
theorem Wb {fuel:Nat}{v:Value}{x:DataW H×List MemPlace}(h:DataW.trod enc Tryz.prog w base spare held fuel 38 [v]=some x):∃l:List OpD,JW w v l:=by
 rcases W6 Tryz.underlying38 Tryz.underlying92 (by kernel_rfl) (by kernel_rfl) h with h0|⟨a,len,cap,D,hcs,hl,hm,hi⟩
 ·simp at h0;subst h0;exact⟨[],none,0,rfl,Nat.le_refl _,Nat.zero_le _,fun h=>absurd h (by simp)⟩
 ·simp at hcs;subst hcs;have hq:∀i,i<len→∃y:OpD,∃av,(∀j v,(y.cells av)[j]?=some v→w.cell? (a.add (i*10+j))=some v)∧XE w av y.Xb:=by{intro i hil;obtain⟨ys,n,hf⟩:=hi i hil;obtain⟨v0,y0,c0,-,t0⟩:=hf 0 _ rfl;obtain⟨v1,y1,c1,-,t1⟩:=hf 1 _ rfl;obtain⟨v2,y2,c2,-,t2⟩:=hf 2 _ rfl;obtain⟨v3,y3,c3,-,t3⟩:=hf 3 _ rfl;obtain⟨v4,y4,c4,-,t4⟩:=hf 4 _ rfl;obtain⟨v5,y5,c5,-,t5⟩:=hf 5 _ rfl;obtain⟨v6,y6,c6,-,t6⟩:=hf 6 _ rfl;obtain⟨v7,y7,c7,-,t7⟩:=hf 7 _ rfl;obtain⟨v8,y8,c8,-,t8⟩:=hf 8 _ rfl;obtain⟨v9,y9,c9,-,t9⟩:=hf 9 _ rfl;obtain⟨x0,e0,-⟩:=DataW.trod_int Tryz.underlying3 t0;obtain⟨x1,e1,-⟩:=DataW.trod_int Tryz.underlying3 t1;obtain⟨x2,e2,-⟩:=DataW.trod_int Tryz.underlying3 t2;obtain⟨x3,e3,-⟩:=DataW.trod_int Tryz.underlying3 t3;obtain⟨x4,e4,-⟩:=DataW.trod_bool Tryz.underlying4 t4;obtain⟨x5,e5,-⟩:=DataW.trod_int Tryz.underlying34 t5;obtain⟨x6,e6,-⟩:=DataW.trod_string Tryz.underlying9 t6;obtain⟨x7,e7,-⟩:=DataW.trod_string Tryz.underlying9 t7;obtain⟨x8,e8,-⟩:=DataW.trod_string Tryz.underlying9 t8;obtain⟨l,hl⟩:=Wa t9;simp at e0 e1 e2 e3 e4 e5 e6 e7 e8;subst e0;subst e1;subst e2;subst e3;subst e4;subst e5;subst e6;subst e7;subst e8;refine⟨⟨x0,x1,x2,x3,x4,x5,x6,x7,x8,l⟩,v9,fun j v hv=>?_,hl⟩;have hj:j<10:=(List.getElem?_eq_some_iff.1 hv).1;rcases(show j=0∨j=1∨j=2∨j=3∨j=4∨j=5∨j=6∨j=7∨j=8∨j=9 by omega)with rfl|rfl|rfl|rfl|rfl|rfl|rfl|rfl|rfl|rfl<;>(simp[OpD.cells]at hv;subst hv;assumption)};obtain⟨l,hll,hlq⟩:=W8 _ len hq;subst hll;refine⟨l,some a,cap,rfl,hl,hm,fun hp=>?_⟩;have hsp:a.spot=none:=by{obtain⟨av,q,-⟩:=hlq 0 _ (List.getElem?_eq_getElem hp);exact W7 (by simpa[Addr.add]using q 0 _ rfl)};obtain⟨b,o,sp⟩:=a;simp at hsp;subst hsp;refine⟨b,o,rfl,fun i x hx=>?_⟩;obtain⟨av,q,hA⟩:=hlq i x hx;refine⟨av,fun j v hv=>?_,hA⟩;have:=q j v hv;rw[Addr.add_mid]at this;rw[show o+i*10+j=o+(i*10+j)by(omega)];exact this
end
end
section
open Go.RowKit
end
section
open Go.RowKit
end
section
open Go.RowKit
end
section
open Go.RowKit
end
section
def Ar.getAttr (A : Ar) (el s : Int) (name : ByteArray) : (ByteArray × Bool) × Int :=
  if A.Yo el s ≠ 0 then ((ByteArray.empty, false), A.Yo el s)
  else if A.Y6 el s name < 0 then ((ByteArray.empty, false), 0)
  else ((((A.get el).Xb[(A.Y6 el s name).toNat]?.getD (0, ByteArray.empty, ByteArray.empty)).2.2, true), 0)
end
section
open Go.ChangeShapes Go.WideShapes Go.ChangeAt Go.RowKit
theorem Wc :ownKnob Tryz.prog.godebug=none:=by
 kernel_rfl
theorem Wd :laidOutB Tryz.prog=true:=by
 kernel_rfl
theorem We {H:Type}{enc:TypeId×Value→H}{W:World}{base:Nat}{spare:Nat→Bool}{held:Bool}{v:Value}{d:DataW H}{p:List MemPlace}{r:Reach}{b0:Nat}(hv:Value.okWide Tryz.prog W r b0 38 v)(h:DataW.Trod enc Tryz.prog W base spare held 38 v d p):∃l,JW W v l:=by
 obtain⟨a,len,cap,rfl⟩:=okWide_slice Tryz.underlying38 hv
 obtain⟨fuel,hf⟩:=h
 simp only[Value.cells]at hf
 exact Wb (fuel:=fuel) (x:=(d,p)) hf
end
section
open Go.RowKit Go.Shelf
theorem Wf {fn:Func}{t u v:Tmp}(h:fn.results= #[.tmp t,.tmp u,.tmp v])(tmps:Array Value)(P:Program)(w:World):(results fn tmps).run P w= .ok (.tuple #[tmps.getD t undef,tmps.getD u undef,tmps.getD v undef]) w:=by
 simp[results,h]
theorem Wg (A:Ar)(el s:Int)(name:ByteArray):A.getAttr el s name=if(A.Yp el s name).2.2.2≠0 then((ByteArray.empty,false),(A.Yp el s name).2.2.2)else if(A.Yp el s name).2.1<0 then((ByteArray.empty,false),0)else((((A.Yp el s name).1[(A.Yp el s name).2.1.toNat]?.getD (0,ByteArray.empty,ByteArray.empty)).2.2,true),0):=by
 unfold Ar.getAttr Ar.Yp
 by_cases h:A.Yo el s=0
 ·simp[h]
 ·simp[h]
theorem Wh {A:Ar}(hS:A.YC)(el s:Int)(name:ByteArray):(A.Yp el s name).1.length≤1000000:=by
 unfold Ar.Yp
 split
 ·exact Nat.zero_le _
 ·rename_i h;by_cases hh:A.has el;·{exact(hS.get hh).2};·exact absurd (show A.Yo el s≠0 by unfold Ar.Yo;rw[if_pos hh];decide) h
theorem Wi {w0 w:World}{B b:Nat}{A:Ar}{L:List Xf}{el s:Int}{name:ByteArray}(o:Own w0 B L w)(hm:Xf.arena b A∈L)(hS:A.YC)(hs:name.size≤1000000):Calls Tryz.prog 57 #[.pointer (some ⟨b,0,none⟩),.int .i64 el,.int .i64 s,.string name] w fun e w'=>e= .returned (.tuple #[.string (A.getAttr el s name).1.1,.bool (A.getAttr el s name).1.2,.int .i64 (A.getAttr el s name).2])∧Own w0 B L w':=by
 have HC:=Xqh (XhZ (el:=el) (s:=s) o hm hS hs)
 have hgr:=Wg A el s name
 have hat:=Xh0 A el s name
 have hlen:=Wh hS el s name
 clear o hm hS
 generalize A.Yp el s name=R at*
 generalize A.getAttr el s name=G at*
 obtain⟨l,i,nm,er⟩:=R
 dsimp only at*
 have HG:=Xqh hgr
 clear hgr
 by_cases he:er=0
 ·subst he;rcases hat with hi|⟨k,x,hi,hx⟩;·{subst hi;have HF:Hid (G=((ByteArray.empty,false),0)):=Xqh HG.out;go_enter Tryz.func57,Tryz.ntmps57;go_wp2_with fail;refine HC.out.mono ?_;rintro e w1⟨aa,ac,rfl,o1⟩;have HO:=Xqh o1;clear HC o1;go_wp2;refine bodyPost_ret (Wf rfl _ _ _) rfl ?_;rw[HF.out];exact⟨rfl,HO.out.drop⟩};·subst hi;have hk:=(List.getElem?_eq_some_iff.1 hx).1;have HF:Hid (G=((x.2.2,true),0)):=Xqh (by rw[HG.out,if_neg (fun q=>q rfl),if_neg (by omega),Int.toNat_natCast,hx];rfl);clear HG;go_enter Tryz.func57,Tryz.ntmps57;go_wp2_with fail;refine HC.out.mono ?_;rintro e w1⟨aa,ac,rfl,o1⟩;obtain⟨av,cv,he,hc1,hc2,hc3⟩:=(o1.atts (v:= .slice aa l.length ac) (x:=l) (by simp)).form;obtain⟨b1,o2,rfl,hcs⟩:=hc3 (by omega);have hea:aa=some ⟨b1,o2,none⟩:=by{injection he};subst hea;obtain⟨d0,d1,d2⟩:=hcs k x hx;have HO:=Xqh o1;have hk1:(k:Int)<(l.length:Int):=by{omega};have hk2:(l.length:Int)≤1000000:=by{omega};clear HC o1 he hc1 hc2 hc3 hcs hx;go_wp2;refine bodyPost_ret (Wf rfl _ _ _) rfl ?_;rw[HF.out];exact⟨rfl,HO.out.drop⟩
 ·have HF:Hid (G=((ByteArray.empty,false),er)):=Xqh (HG.out.trans (if_pos he));have e1:(er !=0)=true:=by{simp[he]};clear he HG hat;go_enter Tryz.func57,Tryz.ntmps57;go_wp2_with fail;refine HC.out.mono ?_;rintro e w1⟨aa,ac,rfl,o1⟩;have HO:=Xqh o1;clear HC o1;go_wp2;refine bodyPost_ret (Wf rfl _ _ _) rfl ?_;rw[HF.out];exact⟨rfl,HO.out.drop⟩
end
section
theorem Wj {α:Type}{p:α→Bool}{l:List α}(h:¬Yt p l<0):∃(k:Nat)(x:α),Yt p l=k∧l[k]?=some x∧p x=true:=by
 unfold Yt at h⊢
 cases hf:l.findIdx? p with|none=>{rw[hf]at h;exact absurd (by decide) h}|some i=>rw[List.findIdx?_eq_some_iff_getElem]at hf;obtain⟨hi,hp,-⟩:=hf;exact⟨i,l[i],rfl,List.getElem?_eq_getElem hi,hp⟩
end
section
open Go.RowKit Go.Shelf
theorem Wk {w0 w:World}{B b:Nat}{A:Ar}{L:List Xf}{el s:Int}{name:ByteArray}(o:Own w0 B L w)(hm:Xf.refar b A∈L)(hS:A.YC)(hs:name.size≤1000000):Calls Tryz.prog 58 #[.pointer (some ⟨b,0,none⟩),.int .i64 el,.int .i64 s,.string name] w fun e w'=>e= .returned (.tuple #[.string (A.getAttr el s name).1.1,.bool (A.getAttr el s name).1.2,.int .i64 (A.getAttr el s name).2])∧Own w0 B L w':=by
 have HE:=Xqh (XiO (el:=el) (s:=s) o hm)
 have HG:Hid (A.getAttr el s name=if A.Yo el s≠0 then((ByteArray.empty,false),A.Yo el s)else if A.Y6 el s name<0 then((ByteArray.empty,false),0)else((((A.get el).Xb[(A.Y6 el s name).toNat]?.getD (0,ByteArray.empty,ByteArray.empty)).2.2,true),0)):=Xqh rfl
 have HO:=Xqh o
 by_cases he:A.Yo el s=0
 case neg=>replace HG:=Xqh (HG.out.trans (if_pos he));have e1:(A.Yo el s !=0)=true:=by{simp[he]};clear o hm hS he;generalize A.getAttr el s name=G at*;generalize A.Yo el s=er at*;go_enter Tryz.func58,Tryz.ntmps58;go_wp2_with fail;refine HE.out.mono ?_;rintro e w1⟨rfl,rfl⟩;go_wp2;refine bodyPost_ret (Wf rfl _ _ _) rfl ?_;rw[HG.out];exact⟨rfl,HO.out⟩
 case pos=>replace HG:=Xqh (HG.out.trans (if_neg (fun q=>q he)));obtain⟨hh,hk4,hsp⟩:=Xb4 he;rw[he]at HE;have HFI:=Xqh (XiP (el:=el) (s:=s) (name:=name) o hm hS hh hs);have HAT:=Xqh (Xdu (YW s (A.Zh el s name)) (A.get el).Xb);have hat:A.Y6 el s name=Yt (YW s (A.Zh el s name)) (A.get el).Xb:=rfl;rw[←hat]at HAT;have hln:=(hS.get hh).2;have HM:=Xqh hm;have HH:=Xqh hh;clear o hm hS he hh hk4 hsp hat;generalize A.getAttr el s name=G at*;generalize A.Zh el s name=nm at*;generalize A.Y6 el s name=at' at*;rcases HAT.out with hi|⟨k,x,hi,hx,-⟩;·{subst hi;replace HG:=Xqh (HG.out.trans (if_pos (by decide)));clear HAT;go_enter Tryz.func58,Tryz.ntmps58;go_wp2_with fail;refine HE.out.mono ?_;rintro e w1⟨rfl,rfl⟩;go_wp2_with fail;refine HFI.out.mono ?_;rintro e w1⟨rfl,Qi⟩;have HO1:=Xqh (HO.out.read Qi);clear Qi;go_wp2;refine bodyPost_ret (Wf rfl _ _ _) rfl ?_;rw[HG.out];exact⟨rfl,HO1.out⟩};·subst hi;have hk:=(List.getElem?_eq_some_iff.1 hx).1;replace HG:=Xqh (HG.out.trans (if_neg (by omega)));rw[Int.toNat_natCast,hx]at HG;clear HAT;go_enter Tryz.func58,Tryz.ntmps58;go_wp2_with fail;refine HE.out.mono ?_;rintro e w1⟨rfl,rfl⟩;go_wp2_with fail;refine HFI.out.mono ?_;rintro e w1⟨rfl,Qi⟩;have o1:=HO.out.read Qi;have HO1:=Xqh o1;obtain⟨nb,c,h0,h1,h2,h3,h4,h5,-,h7⟩:=o1.Y9 HM.out;obtain⟨p1,p2,ka,kc,aa,ac,F,-,hAt,-⟩:=h7 el HH.out;have c6:=F.c6;obtain⟨b',o',rfl,-,hcs⟩:=hAt.cells (by omega);obtain⟨d0,d1,d2⟩:=hcs k x hx;have hx0:(0:Int)≤el:=by{omega};have hx1:el<((A.ns.length+1:Nat):Int):=by{omega};have hx2:el<(A.ns.length:Int)+1:=by{omega};have hk1:(k:Int)<((A.get el).Xb.length:Int):=by{omega};have hk2:((A.get el).Xb.length:Int)≤1000000:=by{omega};clear Qi o1 F h7 h1 h2 h3 h4 h5 hAt hcs HE HFI HH HM HO hx;go_wp2;refine bodyPost_ret (Wf rfl _ _ _) rfl ?_;rw[HG.out];exact⟨rfl,HO1.out⟩
end
section
open Go.RowKit Go.Shelf
theorem Xi6 {w0 w:World}{B:Nat}{ll:List Xf}(o:Own w0 B ll w)(v:Value)(l:List OpD)(hv:∀W,Own w0 B ll W→JW W v l){m:Int}(hs:Jj l m)(hm:m≤100):Calls Tryz.prog 42 #[v] w fun e w'=>∃b c,e= .returned (.tuple #[.pointer (some ⟨b,0,none⟩),.pointer (some ⟨c,0,none⟩),.bool true])∧Own w0 B (.arena b (Zj l):: .refar c (Zj l)::ll) w':=by
 have hv0:=hv w o
 have HV:=Xqh hv
 obtain⟨av,cv,rfl,hc1,hc2,-⟩:=id hv0
 have HN:=Xqh (Xgv w)
 have HT5:=Xqh (fun k(hk:k≤l.length)=>XfA hs hm hk)
 have HSM:=Xqh (Xir hs hm)
 clear hv hv0 hs hm
 go_enter Tryz.func42,Tryz.ntmps42
 go_wp2_with fail
 refine HN.out.mono ?_
 rintro e w1⟨rfl,hw1⟩
 have o1:=o.XgB
 rw[←hw1]at o1
 have HB:=Xqh (show Below w.heap.size w w1 by rw[hw1];exact Xw _ _)
 clear hw1 HN o
 generalize w.heap.size=ba at*
 go_wp2_with fail
 refine(XlV o1).mono ?_
 rintro e w2⟨rfl,o2⟩
 generalize w1.heap.size+2=bc at*
 have HO:=Xqh o2
 clear o1 o2
 go_wp2
 go_loopw [7](fun i wr=>∃k:Nat,k≤l.length∧i= .int .i64 k∧Hid (Own w0 B (.refar bc (Zj (l.take k)):: .arena ba (Zj (l.take k))::ll) wr))(fun i _=>l.length-(intOf i).toNat)
 case atStart=>exact⟨0,Nat.zero_le _,rfl,HO.out⟩
 case round=>obtain⟨k,hk,rfl,hT⟩:=hrel;by_cases hlt:k<l.length;·{obtain⟨a',c',e',-,-,hc3⟩:=HV.out wr hT.out.drop.drop;simp only[Value.slice.injEq,true_and]at e';obtain⟨rfl,rfl⟩:=e';obtain⟨b1,o1,rfl,hcs⟩:=hc3 (by omega);obtain⟨x,hx⟩:∃x,l[k]?=some x:=⟨_,List.getElem?_eq_getElem hlt⟩;obtain⟨xv,F⟩:=hcs k x hx;have hxat:=F.at';obtain⟨aa,ac,rfl,-⟩:=F.at'.form;obtain⟨c0,c1,c2,c3,c4,c5,c6,c7,c8,c9⟩:=F.facts;obtain⟨q1,-,q2,q3⟩:=HT5.out k hk;obtain⟨-,s2,-⟩:=HSM.out;have hxs:=s2 x (List.mem_of_getElem? hx);have HX:=Xqh (And.intro hx (Xnp hx));have HC:=Xqh (Xm4 hT.out.swap q1 q2 (Nat.le_trans hxs.1 (by omega)) F.at' (Nat.le_trans hxs.2.2.2.1 (by omega)) (fun _=>q3));have HQ:=Xqh (And.intro q1 (And.intro q2 q3));have HXS:=Xqh hxs;clear hcs F q1 q2 q3 s2 hxs hx hT hc3 hxat;go_wp2_with fail;refine HC.out.mono ?_;rintro e w3⟨rfl,o3⟩;clear HC c0 c1 c2 c3 c4 c5 c6 c7 c8 c9;obtain⟨a',c',e',-,-,hc3⟩:=HV.out w3 o3.drop.drop;simp only[Value.slice.injEq,true_and]at e';obtain⟨rfl,rfl⟩:=e';obtain⟨b2,o2',e',hcs⟩:=hc3 (by omega);simp only[Option.some.injEq,Addr.mk.injEq,and_true]at e';obtain⟨rfl,rfl⟩:=e';obtain⟨xv,F⟩:=hcs k x HX.out.1;obtain⟨aa',ac',rfl,-⟩:=F.at'.form;obtain⟨c0,c1,c2,c3,c4,c5,c6,c7,c8,c9⟩:=F.facts;have HC:=Xqh (Xpg o3.swap HQ.out.1 HQ.out.2.1 (Nat.le_trans HXS.out.1 (by omega)) F.at' (Nat.le_trans HXS.out.2.2.2.1 (by omega)) (fun _=>HQ.out.2.2));clear hcs F hc3 o3;unfold Xl;generalize(Ar.Xo (Zj (l.take k)) x).1=R at*;obtain⟨r1,r2⟩:=R;go_wp2_with fail;refine HC.out.mono ?_;rintro e w4⟨rfl,o4⟩;clear HC c0 c1 c2 c3 c4 c5 c6 c7 c8 c9;rw[←HX.out.2]at o4;have HO4:=Xqh o4;have hr1:(r1 !=r1)=false:=by{simp};have hr2:(r2 !=r2)=false:=by{simp};clear o4;unfold Xl;go_wp2;go_roundw;(case rel=>exact⟨k+1,hlt,by go_num,HO4⟩);case measure=>simp[intOf];omega};·have hkl:l.take k=l:=List.take_of_length_le (by omega);have ho:=hT.out;rw[hkl]at ho;have HO4:=Xqh ho.swap;clear ho hT hkl;go_wp2;exact bodyPost_ret (v:= .tuple #[.pointer (some ⟨ba,0,none⟩),.pointer (some ⟨bc,0,none⟩),.bool true]) (by simp[results,Tryz.f42,go_sem]) rfl ⟨ba,bc,rfl,HO4.out⟩
end
section
open Go.RowKit Go.Shelf
attribute [local go_sem] Oper.semAt_some
def dk0 : Ar := Ar.new
def dk1 : Ar := dk0.Xn false
def dk2 : Ar := (dk1.element 1 1 ⟨#[104, 116, 109, 108]⟩ []).2
def dk3 : Ar := (dk2.element 1 1 ⟨#[112]⟩ []).2
def dk4 : Ar := (dk3.make 1 (Xs ⟨#[97, 98]⟩)).2
def dk5 : Ar := (dk4.make 1 (YT ⟨#[104, 116, 109, 108]⟩ ⟨#[]⟩ ⟨#[]⟩)).2
def dk6 : Ar := (dk5.make 1 Zm).2
def dk7 : Ar := (dk6.XX 6 3 0).2
def dk8 : Ar := (dk7.XX 6 4 0).2
def dk9 : Ar := (dk8.XX 1 2 0).2
def XbE : Ar := (dk9.XX 1 3 0).2
def XbF : Ar := (XbE.XX 1 4 0).2
def XbG : Ar := (XbF.XX 1 5 0).2
def XbH : Ar := (XbG.XX 1 5 2).2
def Jo : Ar := (XbH.XX 2 6 0).2
def Z9 : Ar := (Jo.split 4 1).2
def XaD : Ar := (Z9.normalize 2).2
theorem Xph :(dk6.XX 6 3 0).1=0:=by
 decide+kernel
theorem Xpi :(dk7.XX 6 4 0).1=0:=by
 decide+kernel
theorem Xpj :(dk8.XX 1 2 0).1=0:=by
 decide+kernel
theorem Xpk :(dk9.XX 1 3 0).1=4:=by
 decide+kernel
theorem Xpl :(XbE.XX 1 4 0).1=4:=by
 decide+kernel
theorem Xpm :(XbF.XX 1 5 0).1=4:=by
 decide+kernel
theorem Xpn :(XbG.XX 1 5 2).1=0:=by
 decide+kernel
theorem Xpo :(XbH.XX 2 6 0).1=0:=by
 decide+kernel
theorem Xpp :Jo.YN 2= [3,4]:=by
 decide+kernel
theorem Xpq :Jo.YN 6= []:=by
 decide+kernel
theorem Xpr :(Jo.split 4 1).1=(7,0):=by
 decide+kernel
theorem Xps :Z9.YN 2= [3,4,7]:=by
 decide+kernel
theorem Xpt :Z9.Xbl 2=(⟨#[97,98]⟩,0):=by
 decide+kernel
theorem Xpu :(Z9.normalize 2).1=0:=by
 decide+kernel
theorem Xpv :XaD.YN 2= [3,4]:=by
 decide+kernel
theorem Xpw :Z9.Xk≤9223372036854775807:=by
 decide+kernel
theorem Xpx :(Z9.Zi (Z9.below 2)).length≤140737488355328:=by
 decide+kernel
theorem Xac {A:Ar}{t:Nat}(h:A.Inv∧A.XB t)(x:OpD)(hx:x.Xb.length≤20)(h1:20≤t)(h2:t≤900):(A.Xo x).2.Inv∧(A.Xo x).2.XB (t+1):=⟨(Xfk h.1 (h.2.mono h2) x hx).1,XeG h.2 x (Nat.le_trans hx h1)⟩
theorem XaE {A:Ar}{t:Nat}(h:A.Inv∧A.XB t)(a b c:Int)(h1:20≤t)(h2:t≤900):(A.XX a b c).2.Inv∧(A.XX a b c).2.XB (t+1):=Xac h ⟨21,a,b,c,false,0,ByteArray.empty,ByteArray.empty,ByteArray.empty,[]⟩ (Nat.zero_le _) h1 h2
theorem Xpy {A:Ar}{t:Nat}(h:A.Inv∧A.XB t)(a b:Int)(h1:20≤t)(h2:t≤900):(A.split a b).2.Inv∧(A.split a b).2.XB (t+1):=Xac h ⟨35,a,b,0,false,0,ByteArray.empty,ByteArray.empty,ByteArray.empty,[]⟩ (Nat.zero_le _) h1 h2
theorem Xpz {A:Ar}{t:Nat}(h:A.Inv∧A.XB t)(a:Int)(h1:20≤t)(h2:t≤900):(A.normalize a).2.Inv∧(A.normalize a).2.XB (t+1):=Xac h ⟨34,a,0,0,false,0,ByteArray.empty,ByteArray.empty,ByteArray.empty,[]⟩ (Nat.zero_le _) h1 h2
theorem XdN {w0 w:World}{B b:Nat}{A:Ar}{l:List Xf}{h:Int}(o:Own w0 B l w)(hm:Xf.arena b A∈l)(hS:A.YC){y:List Int}(hy:A.YN h=y):Calls Tryz.prog 33 #[.pointer (some ⟨b,0,none⟩),.int .i64 h] w fun e w'=>∃a c,e= .returned (.slice a y.length c)∧Own w0 B (.ints (.slice a y.length c) y::l) w':=by
 subst hy
 exact Xap o hm hS
theorem XpA :dk0.Inv∧dk0.XB 20:=⟨Xen,XcY _⟩
theorem XpB :dk1.Inv∧dk1.XB 21:=Xac XpA ⟨1,0,0,0,false,0,ByteArray.empty,ByteArray.empty,ByteArray.empty,[]⟩ (by decide) (by decide) (by decide)
theorem XpC :dk2.Inv∧dk2.XB 22:=Xac XpB ⟨3,1,0,0,false,1,⟨#[104,116,109,108]⟩,ByteArray.empty,ByteArray.empty,[]⟩ (by decide) (by decide) (by decide)
theorem XpD :dk3.Inv∧dk3.XB 23:=Xac XpC ⟨3,1,0,0,false,1,⟨#[112]⟩,ByteArray.empty,ByteArray.empty,[]⟩ (by decide) (by decide) (by decide)
theorem XpE :dk4.Inv∧dk4.XB 24:=Xac XpD ⟨4,1,0,0,false,0,ByteArray.empty,⟨#[97,98]⟩,ByteArray.empty,[]⟩ (by decide) (by decide) (by decide)
theorem XpF :dk5.Inv∧dk5.XB 25:=Xac XpE ⟨2,1,0,0,false,0,⟨#[104,116,109,108]⟩,⟨#[]⟩,⟨#[]⟩,[]⟩ (by decide) (by decide) (by decide)
theorem Xi7 :dk6.Inv∧dk6.XB 26:=Xac XpF ⟨6,1,0,0,false,0,ByteArray.empty,ByteArray.empty,ByteArray.empty,[]⟩ (by decide) (by decide) (by decide)
theorem Xi8 :dk7.Inv∧dk7.XB 27:=XaE Xi7 6 3 0 (by decide) (by decide)
theorem Xi9 :dk8.Inv∧dk8.XB 28:=XaE Xi8 6 4 0 (by decide) (by decide)
theorem Xja :dk9.Inv∧dk9.XB 29:=XaE Xi9 1 2 0 (by decide) (by decide)
theorem Xjb :XbE.Inv∧XbE.XB 30:=XaE Xja 1 3 0 (by decide) (by decide)
theorem Xjc :XbF.Inv∧XbF.XB 31:=XaE Xjb 1 4 0 (by decide) (by decide)
theorem Xjd :XbG.Inv∧XbG.XB 32:=XaE Xjc 1 5 0 (by decide) (by decide)
theorem Xje :XbH.Inv∧XbH.XB 33:=XaE Xjd 1 5 2 (by decide) (by decide)
theorem XfY :Jo.Inv∧Jo.XB 34:=XaE Xje 2 6 0 (by decide) (by decide)
theorem Xco :Z9.Inv∧Z9.XB 35:=Xpy XfY 4 1 (by decide) (by decide)
theorem XpG :XaD.Inv∧XaD.XB 36:=Xpz Xco 2 (by decide) (by decide)
theorem XpH :dk0.ns.length≤20:=by
 decide+kernel
theorem XpI :dk1.ns.length≤20:=by
 decide+kernel
theorem XpJ :dk2.ns.length≤20:=by
 decide+kernel
theorem XpK :dk3.ns.length≤20:=by
 decide+kernel
theorem XpL :dk4.ns.length≤20:=by
 decide+kernel
theorem XpM :dk5.ns.length≤20:=by
 decide+kernel
theorem XpN :dk6.ns.length≤20:=by
 decide+kernel
theorem XpO :dk7.ns.length≤20:=by
 decide+kernel
theorem XpP :dk8.ns.length≤20:=by
 decide+kernel
theorem XpQ :dk9.ns.length≤20:=by
 decide+kernel
theorem XpR :XbE.ns.length≤20:=by
 decide+kernel
theorem XpS :XbF.ns.length≤20:=by
 decide+kernel
theorem XpT :XbG.ns.length≤20:=by
 decide+kernel
theorem XpU :XbH.ns.length≤20:=by
 decide+kernel
theorem Xjf :Jo.ns.length≤20:=by
 decide+kernel
theorem XfZ :Z9.ns.length≤20:=by
 decide+kernel
theorem XpV :XaD.ns.length≤20:=by
 decide+kernel
theorem Xjg :Jo.YC:=XfY.1.short (Nat.le_trans Xjf (by decide))
theorem XpW :Z9.YC:=Xco.1.short (Nat.le_trans XfZ (by decide))
theorem XpX :XaD.YC:=XpG.1.short (Nat.le_trans XpV (by decide))
theorem XdO (w:World):Calls Tryz.prog 19 #[] w fun e w'=>e= .returned (.bool true)∧Below w.heap.size w w':=by
 have HN:=Xqh (Xgv w)
 go_enter Tryz.func19,Tryz.ntmps19
 go_wp2_with fail
 refine HN.out.mono ?_
 rintro e w0⟨rfl,hw1⟩
 have o:=(Own.start w).XgB
 rw[←hw1]at o
 clear hw1 HN
 have o:Own w w.heap.size [.arena w.heap.size dk0] w0:=o
 obtain⟨g,hg⟩:∃g,w.heap.size=g:=⟨_,rfl⟩
 rw[show(Xf.arena w.heap.size dk0)=Xf.arena g dk0 by(rw[hg])]at o
 rw[show(Value.pointer (some (⟨w.heap.size,0,none⟩:Addr)))=Value.pointer (some ⟨g,0,none⟩)by(rw[hg])]
 clear hg
 have HC:=Xqh (o.call (fun ρ hA=>XbO dk0 ρ g false _ hA (Nat.le_trans XpH (by decide))))
 clear o
 go_wp2_with fail
 refine HC.out.mono ?_
 rintro e w1⟨rfl,o1⟩
 clear HC
 have o:Own w w.heap.size [.arena g dk1] w1:=o1
 clear o1
 generalize w1=w0 at*
 have HC:=Xqh (o.call (fun ρ hA=>XaO dk1 ρ g 1 1 ⟨#[104,116,109,108]⟩ (.slice none 0 0) [] _ hA (Xfu (b:=0) (l:= []) (World.ownsRow_nil _ 0 132 3)) (Nat.le_trans (Nat.add_le_add_right XpI _) (by decide)) (by decide)))
 clear o
 go_wp2_with fail
 refine HC.out.mono ?_
 rintro e w1⟨rfl,o1⟩
 clear HC
 have o:Own w w.heap.size [.arena g dk2] w1:=o1
 clear o1
 generalize w1=w0 at*
 have HC:=Xqh (o.call (fun ρ hA=>XaO dk2 ρ g 1 1 ⟨#[112]⟩ (.slice none 0 0) [] _ hA (Xfu (b:=0) (l:= []) (World.ownsRow_nil _ 0 132 3)) (Nat.le_trans (Nat.add_le_add_right XpJ _) (by decide)) (by decide)))
 clear o
 go_wp2_with fail
 refine HC.out.mono ?_
 rintro e w1⟨rfl,o1⟩
 clear HC
 have o:Own w w.heap.size [.arena g dk3] w1:=o1
 clear o1
 generalize w1=w0 at*
 have HC:=Xqh (o.call (fun ρ hA=>Xbe dk3 ρ g 1 ⟨#[97,98]⟩ _ hA (Nat.le_trans XpK (by decide))))
 clear o
 go_wp2_with fail
 refine HC.out.mono ?_
 rintro e w1⟨rfl,o1⟩
 clear HC
 have o:Own w w.heap.size [.arena g dk4] w1:=o1
 clear o1
 generalize w1=w0 at*
 have HC:=Xqh (o.call (fun ρ hA=>XcE dk4 ρ g 1 ⟨#[104,116,109,108]⟩ ⟨#[]⟩ ⟨#[]⟩ _ hA (Nat.le_trans XpL (by decide))))
 clear o
 go_wp2_with fail
 refine HC.out.mono ?_
 rintro e w1⟨rfl,o1⟩
 clear HC
 have o:Own w w.heap.size [.arena g dk5] w1:=o1
 clear o1
 generalize w1=w0 at*
 have HC:=Xqh (o.call (fun ρ hA=>XcF dk5 ρ g 1 _ hA (Nat.le_trans XpM (by decide))))
 clear o
 go_wp2_with fail
 refine HC.out.mono ?_
 rintro e w1⟨rfl,o1⟩
 clear HC
 have o:Own w w.heap.size [.arena g dk6] w1:=o1
 clear o1
 generalize w1=w0 at*
 have HC:=Xqh (Xas (p:=6) (n:=3) o Xi7.1 (Nat.le_trans (Nat.add_le_add_right XpN _) (by decide)))
 rw[Xph]at HC
 clear o
 go_wp2_with fail
 refine HC.out.mono ?_
 rintro e w1⟨rfl,o1⟩
 clear HC
 have o:Own w w.heap.size [.arena g dk7] w1:=o1
 clear o1
 generalize w1=w0 at*
 have HC:=Xqh (Xas (p:=6) (n:=4) o Xi8.1 (Nat.le_trans (Nat.add_le_add_right XpO _) (by decide)))
 rw[Xpi]at HC
 clear o
 go_wp2_with fail
 refine HC.out.mono ?_
 rintro e w1⟨rfl,o1⟩
 clear HC
 have o:Own w w.heap.size [.arena g dk8] w1:=o1
 clear o1
 generalize w1=w0 at*
 have HC:=Xqh (Xas (p:=1) (n:=2) o Xi9.1 (Nat.le_trans (Nat.add_le_add_right XpP _) (by decide)))
 rw[Xpj]at HC
 clear o
 go_wp2_with fail
 refine HC.out.mono ?_
 rintro e w1⟨rfl,o1⟩
 clear HC
 have o:Own w w.heap.size [.arena g dk9] w1:=o1
 clear o1
 generalize w1=w0 at*
 have HC:=Xqh (Xas (p:=1) (n:=3) o Xja.1 (Nat.le_trans (Nat.add_le_add_right XpQ _) (by decide)))
 rw[Xpk]at HC
 clear o
 go_wp2_with fail
 refine HC.out.mono ?_
 rintro e w1⟨rfl,o1⟩
 clear HC
 have o:Own w w.heap.size [.arena g XbE] w1:=o1
 clear o1
 generalize w1=w0 at*
 have HC:=Xqh (Xas (p:=1) (n:=4) o Xjb.1 (Nat.le_trans (Nat.add_le_add_right XpR _) (by decide)))
 rw[Xpl]at HC
 clear o
 go_wp2_with fail
 refine HC.out.mono ?_
 rintro e w1⟨rfl,o1⟩
 clear HC
 have o:Own w w.heap.size [.arena g XbF] w1:=o1
 clear o1
 generalize w1=w0 at*
 have HC:=Xqh (Xas (p:=1) (n:=5) o Xjc.1 (Nat.le_trans (Nat.add_le_add_right XpS _) (by decide)))
 rw[Xpm]at HC
 clear o
 go_wp2_with fail
 refine HC.out.mono ?_
 rintro e w1⟨rfl,o1⟩
 clear HC
 have o:Own w w.heap.size [.arena g XbG] w1:=o1
 clear o1
 generalize w1=w0 at*
 have HC:=Xqh (Xe0 (p:=1) (n:=5) (c:=2) o Xjd.1 (Nat.le_trans (Nat.add_le_add_right XpT _) (by decide)))
 rw[Xpn]at HC
 clear o
 go_wp2_with fail
 refine HC.out.mono ?_
 rintro e w1⟨rfl,o1⟩
 clear HC
 have o:Own w w.heap.size [.arena g XbH] w1:=o1
 clear o1
 generalize w1=w0 at*
 have HC:=Xqh (Xas (p:=2) (n:=6) o Xje.1 (Nat.le_trans (Nat.add_le_add_right XpU _) (by decide)))
 rw[Xpo]at HC
 clear o
 go_wp2_with fail
 refine HC.out.mono ?_
 rintro e w1⟨rfl,o1⟩
 clear HC
 have o:Own w w.heap.size [.arena g Jo] w1:=o1
 clear o1
 generalize w1=w0 at*
 have HC:=Xqh (XdN (b:=g) (A:=Jo) (h:=2) o (by simp) Xjg Xpp)
 clear o
 go_wp2_with fail
 refine HC.out.mono ?_
 rintro e w1⟨ka,kc,rfl,o1⟩
 clear HC
 simp only[List.length_cons,List.length_nil,Nat.zero_add,Nat.reduceAdd]at o1⊢
 have o2:=o1.alloc (.cells #[.int .i64 3,.int .i64 4] 3)
 have HC:=Xqh (XcU (.slice ka 2 kc) (.slice (some ⟨w1.heap.size,0,none⟩) 2 2) [3,4] [3,4] _ (o2.ints (by simp)) (Xbq w1 [3,4] 3 (by decide)))
 rw[show decide (([3,4]:List Int)= [3,4])=true from by{decide}]at HC
 have HO:=Xqh o2
 clear o1 o2
 go_wp2_with fail
 refine HC.out.mono ?_
 rintro e w2⟨rfl,hB⟩
 clear HC
 have o:Own w w.heap.size [.arena g Jo] w2:=(HO.out.read hB).drop.drop
 clear HO hB
 generalize w2=w0 at*
 have HC:=Xqh (XdN (b:=g) (A:=Jo) (h:=6) o (by simp) Xjg Xpq)
 clear o
 go_wp2_with fail
 refine HC.out.mono ?_
 rintro e w1⟨ka,kc,rfl,o1⟩
 clear HC
 simp only[List.length_nil]at o1⊢
 have o:Own w w.heap.size [.arena g Jo] w1:=o1.drop
 clear o1
 generalize w1=w0 at*
 have HC:=Xqh (Xh9 (h:=4) (at':=1) o XfY.1 (Nat.le_trans (Nat.add_le_add_right Xjf _) (by decide)))
 rw[Xpr,show Xl (7,0)= .tuple #[.int .i64 7,.int .i64 0]from rfl]at HC
 clear o
 go_wp2_with fail
 refine HC.out.mono ?_
 rintro e w1⟨rfl,o1⟩
 clear HC
 have o:Own w w.heap.size [.arena g Z9] w1:=o1
 clear o1
 generalize w1=w0 at*
 have HC:=Xqh (Xnw (h:=2) o Xco.1 (Nat.le_trans XfZ (by decide)) Xpx)
 rw[Xpt]at HC
 clear o
 go_wp2_with fail
 refine HC.out.mono ?_
 rintro e w1⟨rfl,o1⟩
 clear HC
 have o:Own w w.heap.size [.arena g Z9] w1:=o1
 clear o1
 generalize w1=w0 at*
 have HC:=Xqh (XdN (b:=g) (A:=Z9) (h:=2) o (by simp) XpW Xps)
 clear o
 go_wp2_with fail
 refine HC.out.mono ?_
 rintro e w1⟨ka,kc,rfl,o1⟩
 clear HC
 simp only[List.length_cons,List.length_nil,Nat.zero_add,Nat.reduceAdd]at o1⊢
 have o2:=o1.alloc (.cells #[.int .i64 3,.int .i64 4,.int .i64 7] 3)
 have HC:=Xqh (XcU (.slice ka 3 kc) (.slice (some ⟨w1.heap.size,0,none⟩) 3 3) [3,4,7] [3,4,7] _ (o2.ints (by simp)) (Xbq w1 [3,4,7] 3 (by decide)))
 rw[show decide (([3,4,7]:List Int)= [3,4,7])=true from by{decide}]at HC
 have HO:=Xqh o2
 clear o1 o2
 go_wp2_with fail
 refine HC.out.mono ?_
 rintro e w2⟨rfl,hB⟩
 clear HC
 have o:Own w w.heap.size [.arena g Z9] w2:=(HO.out.read hB).drop.drop
 clear HO hB
 generalize w2=w0 at*
 have HC:=Xqh (Xia (h:=2) o Xco.1 (Nat.le_trans XfZ (by decide)) (fun y hy=>Nat.le_trans (Xmg Xco.1 hy) Xpw))
 rw[Xpu]at HC
 clear o
 go_wp2_with fail
 refine HC.out.mono ?_
 rintro e w1⟨rfl,o1⟩
 clear HC
 have o:Own w w.heap.size [.arena g XaD] w1:=o1
 clear o1
 generalize w1=w0 at*
 have HC:=Xqh (XdN (b:=g) (A:=XaD) (h:=2) o (by simp) XpX Xpv)
 clear o
 go_wp2_with fail
 refine HC.out.mono ?_
 rintro e w1⟨ka,kc,rfl,o1⟩
 clear HC
 simp only[List.length_cons,List.length_nil,Nat.zero_add,Nat.reduceAdd]at o1⊢
 have o2:=o1.alloc (.cells #[.int .i64 3,.int .i64 4] 3)
 have HC:=Xqh (XcU (.slice ka 2 kc) (.slice (some ⟨w1.heap.size,0,none⟩) 2 2) [3,4] [3,4] _ (o2.ints (by simp)) (Xbq w1 [3,4] 3 (by decide)))
 rw[show decide (([3,4]:List Int)= [3,4])=true from by{decide}]at HC
 have HO:=Xqh o2
 clear o1 o2
 go_wp2_with fail
 refine HC.out.mono ?_
 rintro e w2⟨rfl,hB⟩
 clear HC
 have o:Own w w.heap.size [.arena g XaD] w2:=(HO.out.read hB).drop.drop
 clear HO hB
 generalize w2=w0 at*
 have HO:=Xqh o
 clear o
 go_wp2
 go_ret
 exact⟨rfl,HO.out.low⟩
end
section
theorem Wl {α:Type}{p:α→Bool}{l:List α}{x:α}(h:Yt p l<0)(hx:p x=true):Yt p (l++ [x])=l.length:=by
 refine Xbc (k:=l.length) (x:=x) (by simp) hx ?_
 intro j y hj hy
 rw[List.getElem?_append_left hj]at hy
 exact Xkt h y (List.mem_of_getElem? hy)
theorem Wm {l:List Xm}{p:Xm→Bool}(hp:∀x v,p (x.1,x.2.1,v)=p x){k:Nat}{x:Xm}(hk:Yt p l=k)(hx:l[k]?=some x)(hpx:p x=true)(v:ByteArray):Yt p (l.modify k (fun x=>(x.1,x.2.1,v)))=k∧(l.modify k (fun x=>(x.1,x.2.1,v)))[k]?=some (x.1,x.2.1,v):=by
 obtain⟨hlt,e⟩:=List.getElem?_eq_some_iff.1 hx
 have g:(l.modify k (fun x=>(x.1,x.2.1,v)))[k]?=some (x.1,x.2.1,v):=by rw[List.getElem?_modify,hx];simp
 refine⟨Xbc g (by rw[hp];exact hpx) ?_,g⟩
 intro j y hj hy
 have hjk:¬k=j:=by omega
 have hy:l[j]?=some y:=by rw[List.getElem?_modify]at hy;simpa[hjk]using hy
 have hk':l.findIdx? p=some k:=by unfold Yt at hk;cases hq:l.findIdx? p with|none=>{rw[hq]at hk;exact absurd hk (by simp)}|some i=>rw[hq]at hk;have hk:(i:Int)=k:=hk;have:i=k:=by{omega};rw[this]
 rw[List.findIdx?_eq_some_iff_getElem]at hk'
 obtain⟨_,_,hno⟩:=hk'
 have:=hno j hj
 obtain⟨hjl,ej⟩:=List.getElem?_eq_some_iff.1 hy
 rw[ej]at this
 simpa using this
theorem Wn {l:List Xm}(h:JK l){s:Int}{nm:ByteArray}{k:Nat}{x:Xm}(hx:l[k]?=some x)(hp:YW s nm x=true):∀y∈l.take k++l.drop (k+1),YW s nm y=false:=by
 obtain⟨hlt,e⟩:=List.getElem?_eq_some_iff.1 hx
 unfold JK at h
 rw[List.pairwise_iff_getElem]at h
 have hxx:x.1=s∧x.2.1=nm:=by unfold YW at hp;simpa using hp
 have key:∀(j:Nat)(hj:j<l.length),j≠k→YW s nm l[j]=false:=by intro j hj hne;unfold YW;refine decide_eq_false ?_;rintro⟨q1,q2⟩;rcases Nat.lt_or_ge j k with hjk|hjk;·{have:=h j k hj hlt hjk;unfold Zl at this;rw[e]at this;simp only[decide_eq_false_iff_not]at this;exact this (by rw[q1,q2,hxx.1,hxx.2];exact⟨rfl,rfl⟩)};·have:=h k j hlt hj (by omega);unfold Zl at this;rw[e]at this;simp only[decide_eq_false_iff_not]at this;exact this (by rw[q1,q2,hxx.1,hxx.2];exact⟨rfl,rfl⟩)
 intro y hy
 rcases List.mem_append.1 hy with hy|hy
 ·obtain⟨j,hj,rfl⟩:=List.getElem_of_mem hy;rw[List.getElem_take];have:=hj;rw[List.length_take]at this;exact key j (by omega) (by omega)
 ·obtain⟨j,hj,rfl⟩:=List.getElem_of_mem hy;rw[List.getElem_drop];have:=hj;rw[List.length_drop]at this;exact key (k+1+j) (by omega) (by omega)
theorem Wo {α:Type}{p:α→Bool}{l:List α}(h:∀x∈l,p x=false):Yt p l<0:=by
 have:=JT (p:=p) (l:=l) (fun j y hy=>h y (List.mem_of_getElem? hy))
 omega
theorem Wp {A:Ar}{el s:Int}{name val:ByteArray}(h:(A.YO el s name val).1=0):A.Yo el s=0∧Jl name.toList=true:=by
 unfold Ar.YO at h
 by_cases he:A.Yo el s=0
 ·rw[if_neg (fun q=>q he)]at h;by_cases hv:Jl name.toList=true;·{exact⟨he,hv⟩};·rw[if_pos (by simpa using hv)]at h;exact absurd (show(8:Int)=0 from h) (by decide)
 ·rw[if_pos he]at h;exact absurd h he
theorem Wq {A:Ar}{el:Int}(hh:A.has el)(l:List Xm):(A.mod el (fun n=>{n with Xb:=l})).get el={A.get el with Xb:=l}:=by
 rw[Ar.Zr _ hh hh,if_pos rfl]
theorem Wr {A:Ar}{el s:Int}(hh:A.has el)(l:List Xm):(A.mod el (fun n=>{n with Xb:=l})).Yo el s=A.Yo el s:=by
 unfold Ar.Yo
 rw[Wq hh]
 have:(A.mod el (fun n=>{n with Xb:=l})).has el:=(Ar.ZU A el _ el).2 hh
 have h1:¬¬(A.mod el (fun n=>{n with Xb:=l})).has el:=fun q=>q this
 have h2:¬¬A.has el:=fun q=>q hh
 rw[if_neg h1,if_neg h2]
theorem Ws {A:Ar}{el s:Int}{name:ByteArray}(hh:A.has el)(l:List Xm):(A.mod el (fun n=>{n with Xb:=l})).Y6 el s name=Yt (YW s (A.Zh el s name)) l:=by
 unfold Ar.Y6 Ar.Zh
 rw[Wq hh]
theorem Wt {A:Ar}{el s:Int}{name:ByteArray}(hh:A.has el)(l:List Xm):(A.mod el (fun n=>{n with Xb:=l})).Zh el s name=A.Zh el s name:=by
 unfold Ar.Zh
 rw[Wq hh]
theorem Wu (s:Int)(nm:ByteArray)(x:Xm)(v:ByteArray):YW s nm (x.1,x.2.1,v)=YW s nm x:=rfl
theorem Wv {A:Ar}(hI:A.Inv){el s:Int}{name val:ByteArray}(he:(A.YO el s name val).1=0)(hB:(A.YO el s name val).2.Inv):A.has el∧(A.YO el s name val).2.has el∧(A.YO el s name val).2.getAttr el s name=((val,true),0)∧((A.YO el s name val).2.get el).Xb.length=(if(A.getAttr el s name).1.2=true then(A.get el).Xb.length else(A.get el).Xb.length+1)∧∃C,(A.YO el s name val).2.Yy el s name=((true,0),C)∧C.has el∧C.Yy el s name=((false,0),C)∧((A.getAttr el s name).1.2=false→(C.get el).Xb=(A.get el).Xb)∧((A.getAttr el s name).1.2=true→(C.get el).Xb.length+1=(A.get el).Xb.length∧(C.get el).Xb.Sublist (A.get el).Xb):=by
 obtain⟨e0,ev⟩:=Wp he
 obtain⟨h1,h2,h3⟩:=Xb4 e0
 rw[Xkw hI e0 ev]at hB⊢
 dsimp only at hB⊢
 have hn:=XgM hI h1
 have hw:A.JP el s name val=if A.Y6 el s name<0 then(A.get el).Xb++ [(s,A.Zh el s name,val)]else(A.get el).Xb.modify (A.Y6 el s name).toNat (fun x=>(x.1,x.2.1,val)):=rfl
 have hg:A.getAttr el s name=if A.Y6 el s name<0 then((ByteArray.empty,false),0)else((((A.get el).Xb[(A.Y6 el s name).toNat]?.getD (0,ByteArray.empty,ByteArray.empty)).2.2,true),0):=by unfold Ar.getAttr;rw[if_neg (fun q=>q e0)]
 have hB0:(A.mod el (fun n=>{n with Xb:=A.JP el s name val})).Yo el s=0:=by rw[Wr h1];exact e0
 have hBh:(A.mod el (fun n=>{n with Xb:=A.JP el s name val})).has el:=(Ar.ZU A el _ el).2 h1
 have hBa:=Ws (s:=s) (name:=name) h1 (A.JP el s name val)
 have hBg:=Wq h1 (A.JP el s name val)
 have hAt:A.Y6 el s name=Yt (YW s (A.Zh el s name)) (A.get el).Xb:=rfl
 have hNB:=Wt (s:=s) (name:=name) h1 (A.JP el s name val)
 generalize A.Zh el s name=nm at*
 have main:∀(k:Nat)(x:Xm),(A.JP el s name val)[k]?=some x→x.2.2=val→YW s nm x=true→Yt (YW s nm) (A.JP el s name val)=k→(A.mod el (fun n=>{n with Xb:=A.JP el s name val})).getAttr el s name=((val,true),0)∧∃C,(A.mod el (fun n=>{n with Xb:=A.JP el s name val})).Yy el s name=((true,0),C)∧C.has el∧C.Yy el s name=((false,0),C)∧(C.get el).Xb=(A.JP el s name val).take k++(A.JP el s name val).drop (k+1):=by intro k x hx hxv hxp hk;have hnB:=XgM hB hBh;rw[hBg]at hnB;have hnB:JK (A.JP el s name val):=hnB;have hno:=Wn hnB hx hxp;have hR:=Xkx hB (name:=name) hB0 (by rw[hBa,hk];omega);rw[hBg,hBa,hk]at hR;simp only[Int.toNat_natCast]at hR;refine⟨?_,_,hR,?_,?_,?_⟩;·{unfold Ar.getAttr;rw[if_neg (fun q=>q hB0),hBa,hk,if_neg (by omega),hBg];simp only[Int.toNat_natCast];rw[hx];simp[hxv]};·{exact(Ar.ZU _ el _ el).2 hBh};·{unfold Ar.Yy;rw[if_neg (fun q=>q (by rw[Wr hBh];exact hB0)),Ws hBh,if_pos];rw[hNB];exact Wo hno};·rw[Wq hBh]
 by_cases hq:A.Y6 el s name<0
 ·rw[if_pos hq]at hg hw;have hq':Yt (YW s nm) (A.get el).Xb<0:=by{rw[←hAt];exact hq};have hx:(A.JP el s name val)[(A.get el).Xb.length]?=some (s,nm,val):=by{rw[hw];simp};have hxp:YW s nm (s,nm,val)=true:=by{unfold YW;simp};obtain⟨m1,C,m2,m3,m4,m5⟩:=main _ _ hx rfl hxp (by rw[hw];exact Wl hq' hxp);refine⟨h1,hBh,m1,?_,C,m2,m3,m4,?_,?_⟩;·{rw[hBg,hg];show(A.JP el s name val).length=_;rw[hw];simp};·{intro _;rw[m5,hw];simp};·intro z;rw[hg]at z;exact absurd z (by simp)
 ·rw[if_neg hq]at hg hw;obtain⟨k,x,q1,q2,q3⟩:=Wj (by rw[←hAt];exact hq:¬Yt (YW s nm) (A.get el).Xb<0);rw[hAt,q1]at hw;simp only[Int.toNat_natCast]at hw;obtain⟨f1,f2⟩:=Wm (fun x v=>Wu s nm x v) q1 q2 q3 val;obtain⟨m1,C,m2,m3,m4,m5⟩:=main k _ (by rw[hw];exact f2) rfl (by rw[Wu];exact q3) (by rw[hw];exact f1);have hkl:=(List.getElem?_eq_some_iff.1 q2).1;have hC:(C.get el).Xb=(A.get el).Xb.eraseIdx k:=by{rw[m5,hw,List.eraseIdx_eq_take_drop_succ];congr 1;·{apply List.ext_getElem?;intro j;rw[List.getElem?_take,List.getElem?_take];split;·{rename_i hjk;have:¬k=j:=by{omega};rw[List.getElem?_modify];simp[this]};·rfl};·apply List.ext_getElem?;intro j;have:¬k=k+1+j:=by{omega};rw[List.getElem?_drop,List.getElem?_drop,List.getElem?_modify];simp[this]};refine⟨h1,hBh,m1,?_,C,m2,m3,m4,?_,?_⟩;·{rw[hBg,hg];show(A.JP el s name val).length=_;rw[hw];simp};·{intro z;rw[hg]at z;exact absurd z (by simp)};·intro _;rw[hC];refine⟨?_,List.eraseIdx_sublist _ _⟩;rw[List.length_eraseIdx_of_lt hkl];omega
end
section
open Go.RowKit Go.Shelf
theorem Ww {A:Ar}(hI:A.Inv)(hT:A.XB 200)(el sp:Int)(name val:ByteArray):(A.YO el sp name val).2.Inv∧(A.YO el sp name val).2.ns.length=A.ns.length∧(A.YO el sp name val).2.XB 201∧((A.YO el sp name val).1≠0→(A.YO el sp name val).2=A):=by
 have hT':A.XB 201:=fun n hn=>Nat.le_succ_of_le (hT n hn)
 by_cases h1:A.Yo el sp=0
 ·by_cases h2:Jl name.toList=false;·{have e:A.YO el sp name val=(8,A):=by{unfold Ar.YO;rw[if_neg (fun q=>q h1),if_pos h2]};rw[e];exact⟨hI,rfl,hT',fun _=>rfl⟩};·have h2':Jl name.toList=true:=by{simpa using h2};have e0:=Xkw hI h1 h2' (val:=val);have e:A.YO el sp name val=A.X0 el (A.JP el sp name val):=by{unfold Ar.YO;rw[if_neg (fun q=>q h1),if_neg h2]};have t:=XgL hT el sp name val;refine⟨by rw[e];exact hI.X0 _ _ (by omega),?_,by rw[e];exact XeD hT' _ t,fun q=>?_⟩;·{rw[e0];simp[Ar.mod]};·rw[e0]at q;exact absurd rfl q
 ·have e:A.YO el sp name val=(A.Yo el sp,A):=by{unfold Ar.YO;rw[if_pos h1]};rw[e];exact⟨hI,rfl,hT',fun _=>rfl⟩
theorem Wy {A:Ar}(hI:A.Inv){m:Nat}(hm:m≤1000)(hT:A.XB m)(el sp:Int)(name:ByteArray):(A.Yy el sp name).2.Inv∧(A.Yy el sp name).2.ns.length=A.ns.length:=by
 unfold Ar.Yy
 split
 ·exact⟨hI,rfl⟩
 ·split;·{exact⟨hI,rfl⟩};·refine⟨hI.X0 _ _ (Nat.le_trans (List.length_eraseIdx_le _ _) (Nat.le_trans (Xc2 hT _) hm)),?_⟩;dsimp only;unfold Ar.X0;(repeat' split);all_goals simp[Ar.mod]
theorem Wz {w0 w:World}{B b:Nat}{A:Ar}{l:List Xf}{h:Int}(o:Own w0 B l w)(hm:Xf.arena b A∈l)(hS:A.YC){n:Nd}{er:Int}(hn:(if A.has h then A.get h else XL)=n)(he:(if A.has h then(0:Int)else 3)=er):Calls Tryz.prog 34 #[.pointer (some ⟨b,0,none⟩),.int .i64 h] w fun e w'=>∃ka kc aa ac,e= .returned (.tuple #[.agg (n.cells (.slice ka n.Xc.length kc) (.slice aa n.Xb.length ac)).toArray,.int .i64 er])∧Own w0 B (.atts (.slice aa n.Xb.length ac) n.Xb::l) w':=by
 subst hn
 subst he
 obtain⟨ρ,hA⟩:=o.arena hm
 refine(XcO A ρ b h w hA hS).mono ?_
 rintro e w'⟨hB,kv,av,rfl,h1,h2⟩
 obtain⟨ka,kc,rfl⟩:=X6 h1
 obtain⟨aa,ac,rfl⟩:=X6 h2
 exact⟨ka,kc,aa,ac,rfl,o.newRow hB h2⟩
theorem Q0 (v1 v2:Value)(l1 l2:List Xm)(w:World)(h1:XE w v1 l1)(h2:XE w v2 l2)(hs:l1.Sublist l2)(hn:l2.length≤1000000):Calls Tryz.prog 61 #[v1,v2] w fun e w'=>e= .returned (.bool true)∧Below w.heap.size w w':=by
 obtain⟨a1,c1,rfl,p1,p2,-⟩:=h1.form
 obtain⟨a2,c2,rfl,q1,q2,-⟩:=h2.form
 have H1:=Xqh h1
 have H2:=Xqh h2
 have hle:=hs.length_le
 have HS:=Xqh hs
 clear h1 h2 hs
 go_enter Tryz.func61,Tryz.ntmps61
 go_wp2
 go_loopw [5,6](fun i j wr=>∃a b:Nat,a≤l1.length∧b≤l2.length∧i= .int .i64 a∧j= .int .i64 b∧Hid ((l1.drop a).Sublist (l2.drop b))∧Hid (Below w.heap.size w wr))(fun _ j _=>l2.length-(intOf j).toNat)
 case atStart=>exact⟨0,0,Nat.zero_le _,Nat.zero_le _,rfl,rfl,Xqh HS.out,Xqh (Below.refl _ _)⟩
 case round=>obtain⟨i,j,hi,hj,rfl,rfl,hT,hB⟩:=hrel;by_cases hlt2:j<l2.length;·{by_cases hlt1:i<l1.length;·{obtain⟨b1,o1,rfl,-,hcs1⟩:=H1.out.cells (by omega);obtain⟨b2,o2,rfl,-,hcs2⟩:=H2.out.cells (by omega);obtain⟨x,hx⟩:∃x,l1[i]?=some x:=⟨_,List.getElem?_eq_getElem hlt1⟩;obtain⟨y,hy⟩:∃y,l2[j]?=some y:=⟨_,List.getElem?_eq_getElem hlt2⟩;obtain⟨d1,d2,d3⟩:=hcs1 i x hx;obtain⟨e1,e2,e3⟩:=hcs2 j y hy;have d1:=Below.old hB.out d1;have d2:=Below.old hB.out d2;have d3:=Below.old hB.out d3;have e1:=Below.old hB.out e1;have e2:=Below.old hB.out e2;have e3:=Below.old hB.out e3;have HD:Hid (l1.drop i=x::l1.drop (i+1)∧l2.drop j=y::l2.drop (j+1)):=Xqh ⟨by obtain⟨z1,z2⟩:=List.getElem?_eq_some_iff.1 hx;rw[←z2];exact List.drop_eq_getElem_cons z1,by obtain⟨z1,z2⟩:=List.getElem?_eq_some_iff.1 hy;rw[←z2];exact List.drop_eq_getElem_cons z1⟩;have HT2:Hid ((x::l1.drop (i+1)).Sublist (y::l2.drop (j+1))):=Xqh (by have:=hT.out;rwa[HD.out.1,HD.out.2]at this);have HB2:Hid (∀m,Below w.heap.size w (wr.drewN m)):=Xqh (fun m=>Below.drewN hB.out _);clear hcs1 hcs2 hx hy;obtain⟨xs,xn,xv⟩:=x;obtain⟨ys,yn,yv⟩:=y;dsimp only at d1 d2 d3 e1 e2 e3;have HNO:Hid (¬(ys=xs∧yn=xn∧yv=xv)→(l1.drop i).Sublist (l2.drop (j+1))):=Xqh (fun q=>by have:=HT2.out;rw[HD.out.1];rcases List.sublist_cons_iff.1 this with z|⟨r,z1,z2⟩;·{exact z};·injection z1 with z1 z3;simp only[Prod.mk.injEq]at z1;exact absurd ⟨z1.1.symm,z1.2.1.symm,z1.2.2.symm⟩ q);have HYES:Hid ((ys=xs∧yn=xn∧yv=xv)→(l1.drop (i+1)).Sublist (l2.drop (j+1))):=Xqh (fun q=>by obtain⟨rfl,rfl,rfl⟩:=q;exact List.cons_sublist_cons.1 HT2.out);clear HT2 HD;by_cases t1:ys=xs;·{have u1:(ys==xs)=true:=by{simp[t1]};by_cases t2:yn=xn;·{have u2:(yn.toList==xn.toList)=true:=by{simp[t2]};have v2:(yn.toList=xn.toList)=True:=by{simp[t2]};by_cases t3:yv=xv;·{have u3:(yv.toList==xv.toList)=true:=by{simp[t3]};have v3:(yv.toList=xv.toList)=True:=by{simp[t3]};have HF:=Xqh (HYES.out ⟨t1,t2,t3⟩);clear HYES HNO;go_wp2_with(go_quiet(fail));go_wp2;go_roundw;(case rel=>exact⟨i+1,j+1,hlt1,hlt2,by go_num,by go_num,HF,Xqh (HB2.out _)⟩);case measure=>simp[intOf];omega};·have u3:(yv.toList==xv.toList)=false:=by{rw[Xa7];simp[t3]};have v3:(yv.toList=xv.toList)=False:=eq_false (fun z=>by simp[z]at u3);have HF:=Xqh (HNO.out (fun q=>t3 q.2.2));clear HYES HNO;go_wp2_with(go_quiet(fail));go_wp2;go_roundw;(case rel=>exact⟨i,j+1,hi,hlt2,by go_num,by go_num,HF,Xqh (HB2.out _)⟩);case measure=>simp[intOf];omega};·have u2:(yn.toList==xn.toList)=false:=by{rw[Xa7];simp[t2]};have v2:(yn.toList=xn.toList)=False:=eq_false (fun z=>by simp[z]at u2);have HF:=Xqh (HNO.out (fun q=>t2 q.2.1));clear HYES HNO;go_wp2_with(go_quiet(fail));go_wp2;go_roundw;(case rel=>exact⟨i,j+1,hi,hlt2,by go_num,by go_num,HF,Xqh (HB2.out _)⟩);case measure=>simp[intOf];omega};·have u1:(ys==xs)=false:=by{simp[t1]};have HF:=Xqh (HNO.out (fun q=>t1 q.1));clear HYES HNO;go_wp2_with(go_quiet(fail));go_wp2;go_roundw;(case rel=>exact⟨i,j+1,hi,hlt2,by go_num,by go_num,HF,Xqh (HB2.out _)⟩);case measure=>simp[intOf];omega};·have e:(i:Int)=l1.length:=by{omega};have e1:((i:Int)==l1.length)=true:=by{simp[e]};clear hT;go_wp2;go_ret;exact⟨rfl,hB.out⟩};·have e:(i:Int)=l1.length:=by{have:=hT.out;rw[List.drop_eq_nil_of_le (by omega:l2.length≤j)]at this;have:=List.sublist_nil.1 this;have:=List.drop_eq_nil_iff.1 this;omega};have e1:((i:Int)==l1.length)=true:=by{simp[e]};clear hT;go_wp2;go_ret;exact⟨rfl,hB.out⟩
end
section
open Go.RowKit Go.Shelf
theorem Q1 {w0 w:World}{B b:Nat}{A:Ar}{l:List Xf}{h:Int}(o:Own w0 B l w)(hm:Xf.arena b A∈l)(hS:A.YC){n:Nd}{er:Int}(hn:(if A.has h then A.get h else XL)=n)(he:(if A.has h then(0:Int)else 3)=er):Calls Tryz.prog 34 #[.pointer (some ⟨b,0,none⟩),.int .i64 h] w fun e w'=>∃ka kc aa ac,e= .returned (.tuple #[.agg (n.cells (.slice ka n.Xc.length kc) (.slice aa n.Xb.length ac)).toArray,.int .i64 er])∧Own w0 B l w'∧Below w.heap.size w w':=by
 subst hn
 subst he
 obtain⟨ρ,hA⟩:=o.arena hm
 refine(XcO A ρ b h w hA hS).mono ?_
 rintro e w'⟨hB,kv,av,rfl,h1,h2⟩
 obtain⟨ka,kc,rfl⟩:=X6 h1
 obtain⟨aa,ac,rfl⟩:=X6 h2
 exact⟨ka,kc,aa,ac,rfl,o.read hB,hB⟩
end
section
open Go.RowKit Go.Shelf Classical
theorem Q2 (v:Value)(l:List OpD)(el sp:Int)(name val:ByteArray)(w:World)(hv:JW w v l)(hs:¬Jj l 60):Calls Tryz.prog 11 #[v,.int .i64 el,.int .i64 sp,.string name,.string val] w fun e w'=>e= .returned (.bool true)∧Below w.heap.size w w':=by
 have HS:=Xqh (XdA v l 60 w hv)
 have HD:=Xqh (show decide (Jj l 60)=false from decide_eq_false hs)
 obtain⟨av,cv,rfl,-⟩:=hv
 go_enter Tryz.func11,Tryz.ntmps11
 go_wp2_with fail
 refine HS.out.mono ?_
 rintro e w1⟨rfl,Qi⟩
 rw[HD.out]
 go_wp2_with fail
 refine(XdO w1).mono ?_
 rintro e w2⟨rfl,Qj⟩
 go_wp2
 go_ret
 exact⟨rfl,Qi.trans (Qj.mono Qi.size)⟩
theorem Q3 (v:Value)(l:List OpD)(el sp:Int)(name val:ByteArray)(w:World)(hv:JW w v l)(hs:Jj l 60)(hb:¬name.size≤200):Calls Tryz.prog 11 #[v,.int .i64 el,.int .i64 sp,.string name,.string val] w fun e w'=>e= .returned (.bool true)∧Below w.heap.size w w':=by
 have HS:=Xqh (XdA v l 60 w hv)
 have HD:=Xqh (show decide (Jj l 60)=true from decide_eq_true hs)
 have hb1:(200:Int)<(name.size:Int):=by omega
 obtain⟨av,cv,rfl,-⟩:=hv
 go_enter Tryz.func11,Tryz.ntmps11
 go_wp2_with fail
 refine HS.out.mono ?_
 rintro e w1⟨rfl,Qi⟩
 rw[HD.out]
 go_wp2_with fail
 refine(XdO w1).mono ?_
 rintro e w2⟨rfl,Qj⟩
 go_wp2
 go_ret
 exact⟨rfl,Qi.trans (Qj.mono Qi.size)⟩
theorem Q4 (v:Value)(l:List OpD)(el sp:Int)(name val:ByteArray)(w:World)(hv:JW w v l)(hs:Jj l 60)(hb0:name.size≤200)(hb:¬val.size≤200):Calls Tryz.prog 11 #[v,.int .i64 el,.int .i64 sp,.string name,.string val] w fun e w'=>e= .returned (.bool true)∧Below w.heap.size w w':=by
 have HS:=Xqh (XdA v l 60 w hv)
 have HD:=Xqh (show decide (Jj l 60)=true from decide_eq_true hs)
 have hb1:(200:Int)<(val.size:Int):=by omega
 have hb2:¬(200:Int)<(name.size:Int):=by omega
 obtain⟨av,cv,rfl,-⟩:=hv
 go_enter Tryz.func11,Tryz.ntmps11
 go_wp2_with fail
 refine HS.out.mono ?_
 rintro e w1⟨rfl,Qi⟩
 rw[HD.out]
 go_wp2_with fail
 refine(XdO w1).mono ?_
 rintro e w2⟨rfl,Qj⟩
 go_wp2
 go_ret
 exact⟨rfl,Qi.trans (Qj.mono Qi.size)⟩
theorem Q5 (v:Value)(l:List OpD)(el sp:Int)(name val:ByteArray)(w:World)(hv:JW w v l):Calls Tryz.prog 11 #[v,.int .i64 el,.int .i64 sp,.string name,.string val] w fun e w'=>e= .returned (.bool true)∧Below w.heap.size w w':=by
 by_cases hs:Jj l 60
 case neg=>exact Q2 v l el sp name val w hv hs
 by_cases hb1:name.size≤200
 case neg=>exact Q3 v l el sp name val w hv hs hb1
 by_cases hb2:val.size≤200
 case neg=>exact Q4 v l el sp name val w hv hs hb1 hb2
 have HS:=Xqh (XdA v l 60 w hv)
 have HD:=Xqh (show decide (Jj l 60)=true from decide_eq_true hs)
 obtain⟨i1,hthin,hlen,-⟩:=XfA hs (by omega) (Nat.le_refl l.length)
 rw[List.take_length]at i1 hthin hlen
 have HP:=Xqh (fun W(o:Own w w.heap.size [] W)=>Xi6 o v l (fun W' o'=>hv.below o'.low) hs (by omega))
 have HI:=Xqh (i1.short (show(Zj l).ns.length≤1000000 by omega))
 have o0:=Own.start w
 obtain⟨av,cv,rfl,-⟩:=hv
 clear hs
 generalize Zj l=A at*
 have Ql:=Xqh (fun(W:World)(b:Nat)(ll:List Xf)(o:Own w w.heap.size ll W)(hm:Xf.arena b A∈ll)=>Wi (el:=el) (s:=sp) (name:=name) o hm HI.out (by omega))
 have Qm:=Xqh (fun(W:World)(c:Nat)(ll:List Xf)(o:Own w w.heap.size ll W)(hm:Xf.refar c A∈ll)=>Wk (el:=el) (s:=sp) (name:=name) o hm HI.out (by omega))
 have Qn:=Xqh (fun(W:World)(b:Nat)(ll:List Xf)(o:Own w w.heap.size (.arena b A::ll) W)=>Xmt (el:=el) (s:=sp) (name:=name) (val:=val) o i1 (by omega) (by omega))
 obtain⟨q1,q2,q3,q4⟩:=Ww i1 hthin el sp name val
 have LAW:=fun h0=>Wv (el:=el) (s:=sp) (name:=name) (val:=val) i1 h0 q1
 obtain⟨B,hB⟩:∃B,(A.YO el sp name val).2=B:=⟨_,rfl⟩
 obtain⟨er,her⟩:∃er,(A.YO el sp name val).1=er:=⟨_,rfl⟩
 rw[hB,her]at Qn q4
 rw[hB]at q1 q2 q3
 rw[her,hB]at LAW
 obtain⟨n0,hn0⟩:∃nd,(if A.has el then A.get el else XL)=nd:=⟨_,rfl⟩
 obtain⟨en0,hen0⟩:∃en,(if A.has el then(0:Int)else 3)=en:=⟨_,rfl⟩
 have Qo:=Xqh (fun(W:World)(b:Nat)(ll:List Xf)(o:Own w w.heap.size ll W)(hm:Xf.arena b A∈ll)=>Wz (h:=el) o hm HI.out hn0 hen0)
 obtain⟨was,hwas⟩:∃was,(A.getAttr el sp name).1.2=was:=⟨_,rfl⟩
 rw[hwas]at Ql Qm LAW
 generalize(A.getAttr el sp name).1.1=t at*
 generalize(A.getAttr el sp name).2=g at*
 have hgg:(g !=g)=false:=by simp
 have htt:(t.toList==t.toList)=true:=by simp
 have hww:(was !=was)=false:=by simp
 have Qf:¬(200:Int)<(name.size:Int):=by omega
 have Qg:¬(200:Int)<(val.size:Int):=by omega
 have HL:=Xqh (And.intro LAW (And.intro q1 (And.intro q2 (And.intro q3 (And.intro q4 (And.intro hn0 (And.intro hlen (And.intro i1 hthin))))))))
 clear LAW q1 q2 q3 q4 hn0 hen0 hB her hwas i1 hthin
 cases was
 all_goals go_enter Tryz.func11,Tryz.ntmps11;go_wp2_with fail;refine HS.out.mono ?_;rintro e w1⟨rfl,Qi⟩;rw[HD.out];have o1:=o0.read Qi;clear o0 HS HD Qi;go_wp2_with fail;refine(HP.out _ o1).mono ?_;rintro e w2⟨b,c,rfl,o2⟩;clear o1 HP;go_wp2_with fail;refine(Ql.out _ b _ o2 (by simp)).mono ?_;rintro e w3⟨rfl,o3⟩;clear o2 Ql;go_wp2_with fail;refine(Qm.out _ c _ o3 (by simp)).mono ?_;rintro e w4⟨rfl,o4⟩;clear o3 Qm;go_wp2_with fail;refine(Qo.out _ b _ o4 (by simp)).mono ?_;rintro e w5⟨Q6,Q7,aa,Q8,rfl,o5⟩;clear o4 Qo;have HT:=Xqh (XV (w:=w5) n0 Q6 Q7 aa Q8 n0.Xc.length n0.Xb.length);have o6:=o5.swap.XU n0 (.slice Q6 n0.Xc.length Q7) (.slice aa n0.Xb.length Q8);go_wp2_with((with_reducible refine wpList_store_mid ?_ 46 (.tmp 20) (.tmp 86) ?_ w5.heap.size 0 (n0.cells (.slice Q6 n0.Xc.length Q7) (.slice aa n0.Xb.length Q8)).toArray ?_ ?_ ?_ ?_ ?_ ?_);exact rfl;exact rfl;exact rfl;exact rfl;exact HT.out.1;exact XM _ _ _;exact all_oneCell_toArray HT.out.2;clear HT;generalize hw7:World.setCells _ _ _ _=xw5 at o6⊢;generalize hg5:w5.heap.size=g5 at o6⊢;clear hw7 hg5;skip);clear o5;refine(Qn.out _ b _ o6.swap).mono ?_;rintro e w7⟨rfl,o7⟩;clear o6 Qn;have Qh:n0.Xb.length≤1000000:=by{obtain⟨-,-,-,-,-,e0,e1,e2,e3⟩:=HL.out;rw[←e0];split;·{rename_i hh;exact(HI.out.get hh).2};·exact Nat.zero_le _};have bx:=o7.box (g:=g5) (o:= .cells (n0.cells (.slice Q6 n0.Xc.length Q7) (.slice aa n0.Xb.length Q8)).toArray 46 (0,0)) (by simp);by_cases hz:er=0;(case neg=>have y1:(er !=0)=true:=by{simp[hz]};obtain⟨-,-,-,-,q4,-⟩:=HL.out;have q5:=q4 hz;subst q5;have HM:=Xqh (Xl1 o7 (b:=b) (c:=c) (by simp) (by simp) HI.out);clear o7 bx HL q4 hz;go_wp2_with fail;refine(HM.out).mono ?_;rintro e w9⟨rfl,o9⟩;clear HM;go_wp2_with fail;refine(XdO _).mono ?_;rintro e wk⟨rfl,hBk⟩;have HB:=Xqh (o9.back hBk);clear hBk;go_wp2;go_ret;exact⟨rfl,HB.out⟩);have y1:(er !=0)=false:=by{simp[hz]};obtain⟨LAW,q1,q2,q3,-,hn0,hlen,-⟩:=HL.out;obtain⟨l1,l2,l3,l4,C,l5,l6,l7,l8,l9⟩:=LAW hz;rw[if_pos l1]at hn0;obtain⟨r1,r2⟩:=Wy q1 (by omega) q3 el sp name;have HR1:=Xqh (fun(W:World)(b:Nat)(ll:List Xf)(o:Own w w.heap.size (.arena b B::ll) W)=>Xmx (el:=el) (s:=sp) (name:=name) o q1 (by omega) (by omega));rw[l5]at HR1 r1 r2;dsimp only at r1 r2;have HR2:=Xqh (fun(W:World)(b:Nat)(ll:List Xf)(o:Own w w.heap.size (.arena b C::ll) W)=>Xmx (el:=el) (s:=sp) (name:=name) o r1 (by omega) (by omega));rw[l7]at HR2;dsimp only at HR1 HR2;have HBS:=Xqh (q1.short (show B.ns.length≤1000000 by omega));have HCS:=Xqh (r1.short (show C.ns.length≤1000000 by omega));obtain⟨n1,hn1⟩:∃n1,B.get el=n1:=⟨_,rfl⟩;obtain⟨n2,hn2⟩:∃n2,C.get el=n2:=⟨_,rfl⟩;have HN1:=Xqh (fun(W:World)(b:Nat)(ll:List Xf)(o:Own w w.heap.size ll W)(hm:Xf.arena b B∈ll)=>Q1 (h:=el) o hm HBS.out ((if_pos l2).trans hn1) (if_pos l2));have HN2:=Xqh (fun(W:World)(b:Nat)(ll:List Xf)(o:Own w w.heap.size ll W)(hm:Xf.arena b C∈ll)=>Wz (h:=el) o hm HCS.out ((if_pos l6).trans hn2) (if_pos l6));have HGB:=Xqh (fun(W:World)(b:Nat)(ll:List Xf)(o:Own w w.heap.size ll W)(hm:Xf.arena b B∈ll)=>Wi (el:=el) (s:=sp) (name:=name) o hm HBS.out (by omega));rw[l3]at HGB;dsimp only at HGB;rw[hn1,hn0]at l4;rw[hn2,hn0]at l8 l9;have hlb:n1.Xb.length≤1000001:=by{rw[l4];split<;>omega};have HLL:=Xqh (And.intro l8 (And.intro l9 l4));have hvv:(val.toList==val.toList)=true:=by{simp};clear LAW q1 q2 q3 hn0 l1 l2 l3 l5 l6 l7 l8 l9 r1 r2 hn1 hn2 HL hz l4;have m6:w7.cell? ⟨g5,6,none⟩=some (.slice aa n0.Xb.length Q8):=(cell_of_row w7 _ _ _ _ _ bx).trans rfl;clear bx;go_wp2_with fail;refine(HN1.out _ b _ o7 (by simp)).mono ?_;rintro e w8⟨Q9,Qa,ab,Qb,rfl,o8,-⟩;clear o7 HN1 m6;have HT:=Xqh (XV (w:=w8) n1 Q9 Qa ab Qb n1.Xc.length n1.Xb.length);have o9:=o8.XU n1 (.slice Q9 n1.Xc.length Qa) (.slice ab n1.Xb.length Qb);go_wp2_with((with_reducible refine wpList_store_mid ?_ 46 (.tmp 22) (.tmp 105) ?_ w8.heap.size 0 (n1.cells (.slice Q9 n1.Xc.length Qa) (.slice ab n1.Xb.length Qb)).toArray ?_ ?_ ?_ ?_ ?_ ?_);exact rfl;exact rfl;exact rfl;exact rfl;exact HT.out.1;exact XM _ _ _;exact all_oneCell_toArray HT.out.2;clear HT;generalize hw7:World.setCells _ _ _ _=xw8 at o9⊢;generalize hg5:w8.heap.size=g8 at o9⊢;clear hw7 hg5;skip);clear o8;refine(HGB.out _ b _ o9 (by simp)).mono ?_;rintro e w10⟨rfl,o10⟩;clear o9 HGB;have m6:w10.cell? ⟨g5,6,none⟩=some (.slice aa n0.Xb.length Q8):=(cell_of_row w10 _ _ _ _ _ (o10.box (g:=g5) (o:= .cells (n0.cells (.slice Q6 n0.Xc.length Q7) (.slice aa n0.Xb.length Q8)).toArray 46 (0,0)) (by simp))).trans rfl;have p6:w10.cell? ⟨g8,6,none⟩=some (.slice ab n1.Xb.length Qb):=(cell_of_row w10 _ _ _ _ _ (o10.box (g:=g8) (o:= .cells (n1.cells (.slice Q9 n1.Xc.length Qa) (.slice ab n1.Xb.length Qb)).toArray 46 (0,0)) (by simp))).trans rfl;have HO:=Xqh o10;clear o10
 ·skip;have l4':n1.Xb.length=n0.Xb.length+1:=by{simpa using HLL.out.2.2};have z1:((n1.Xb.length:Int)!=(n0.Xb.length:Int)+1)=false:=by{simp;omega};have Qp:=Xqh (HLL.out.1 (by trivial));go_wp2_with fail;refine(HR1.out _ b _ HO.out.swap).mono ?_;rintro e w11⟨rfl,o11⟩;clear HO HR1 m6 p6;go_wp2_with fail;refine(HR2.out _ b _ o11).mono ?_;rintro e w12⟨rfl,o12⟩;clear o11 HR2;go_wp2_with fail;refine(HN2.out _ b _ o12 (by simp)).mono ?_;rintro e w13⟨Qc,Qd,ac,Qe,rfl,o13⟩;clear o12 HN2;have HT:=Xqh (XV (w:=w13) n2 Qc Qd ac Qe n2.Xc.length n2.Xb.length);have o14:=o13.XU n2 (.slice Qc n2.Xc.length Qd) (.slice ac n2.Xb.length Qe);go_wp2_with((with_reducible refine wpList_store_mid ?_ 46 (.tmp 25) (.tmp 173) ?_ w13.heap.size 0 (n2.cells (.slice Qc n2.Xc.length Qd) (.slice ac n2.Xb.length Qe)).toArray ?_ ?_ ?_ ?_ ?_ ?_);exact rfl;exact rfl;exact rfl;exact rfl;exact HT.out.1;exact XM _ _ _;exact all_oneCell_toArray HT.out.2;clear HT;generalize hw7:World.setCells _ _ _ _=xw13 at o14⊢;generalize hg5:w13.heap.size=g14 at o14⊢;clear hw7 hg5;have m6:xw13.cell? ⟨g5,6,none⟩=some (.slice aa n0.Xb.length Q8):=(cell_of_row xw13 _ _ _ _ _ (o14.box (g:=g5) (o:= .cells (n0.cells (.slice Q6 n0.Xc.length Q7) (.slice aa n0.Xb.length Q8)).toArray 46 (0,0)) (by simp))).trans rfl;have p6:xw13.cell? ⟨g14,6,none⟩=some (.slice ac n2.Xb.length Qe):=(cell_of_row xw13 _ _ _ _ _ (o14.box (g:=g14) (o:= .cells (n2.cells (.slice Qc n2.Xc.length Qd) (.slice ac n2.Xb.length Qe)).toArray 46 (0,0)) (by simp))).trans rfl;clear o13);have HT0:=Xqh (o14.atts (v:= .slice aa n0.Xb.length Q8) (x:=n0.Xb) (by simp));have HT2:=Xqh (o14.atts (v:= .slice ac n2.Xb.length Qe) (x:=n2.Xb) (by simp));have HO:=Xqh o14;clear o14;have HW:=Xqh (Xlf _ _ _ _ xw13 HT0.out HT2.out);rw[show decide (n0.Xb=n2.Xb)=true from decide_eq_true Qp.out.symm]at HW;refine(HW.out).mono ?_;rintro e w15⟨rfl,Qk⟩;have o15:=HO.out.read Qk;clear Qk HW;go_wp2_with fail;refine(XdO _).mono ?_;rintro e wk⟨rfl,hBk⟩;have HB:=Xqh (o15.back hBk);clear hBk;go_wp2;go_ret;exact⟨rfl,HB.out⟩
 ·skip;have l4':n1.Xb.length=n0.Xb.length:=by{simpa using HLL.out.2.2};have z1:((n1.Xb.length:Int)!=(n0.Xb.length:Int))=false:=by{simp;omega};obtain⟨l5,l6⟩:=HLL.out.2.1 (by trivial);have Qq:=Xqh l6;go_wp2_with fail;refine(HR1.out _ b _ HO.out.swap).mono ?_;rintro e w11⟨rfl,o11⟩;clear HO HR1 m6 p6;go_wp2_with fail;refine(HR2.out _ b _ o11).mono ?_;rintro e w12⟨rfl,o12⟩;clear o11 HR2;go_wp2_with fail;refine(HN2.out _ b _ o12 (by simp)).mono ?_;rintro e w13⟨Qc,Qd,ac,Qe,rfl,o13⟩;clear o12 HN2;have z2:((n2.Xb.length:Int)==(n0.Xb.length:Int)-1)=true:=by{simp;omega};have HT:=Xqh (XV (w:=w13) n2 Qc Qd ac Qe n2.Xc.length n2.Xb.length);have o14:=o13.XU n2 (.slice Qc n2.Xc.length Qd) (.slice ac n2.Xb.length Qe);go_wp2_with((with_reducible refine wpList_store_mid ?_ 46 (.tmp 25) (.tmp 173) ?_ w13.heap.size 0 (n2.cells (.slice Qc n2.Xc.length Qd) (.slice ac n2.Xb.length Qe)).toArray ?_ ?_ ?_ ?_ ?_ ?_);exact rfl;exact rfl;exact rfl;exact rfl;exact HT.out.1;exact XM _ _ _;exact all_oneCell_toArray HT.out.2;clear HT;generalize hw7:World.setCells _ _ _ _=xw13 at o14⊢;generalize hg5:w13.heap.size=g14 at o14⊢;clear hw7 hg5;have m6:xw13.cell? ⟨g5,6,none⟩=some (.slice aa n0.Xb.length Q8):=(cell_of_row xw13 _ _ _ _ _ (o14.box (g:=g5) (o:= .cells (n0.cells (.slice Q6 n0.Xc.length Q7) (.slice aa n0.Xb.length Q8)).toArray 46 (0,0)) (by simp))).trans rfl;have p6:xw13.cell? ⟨g14,6,none⟩=some (.slice ac n2.Xb.length Qe):=(cell_of_row xw13 _ _ _ _ _ (o14.box (g:=g14) (o:= .cells (n2.cells (.slice Qc n2.Xc.length Qd) (.slice ac n2.Xb.length Qe)).toArray 46 (0,0)) (by simp))).trans rfl;clear o13);have HT0:=Xqh (o14.atts (v:= .slice aa n0.Xb.length Q8) (x:=n0.Xb) (by simp));have HT2:=Xqh (o14.atts (v:= .slice ac n2.Xb.length Qe) (x:=n2.Xb) (by simp));have HO:=Xqh o14;clear o14;have HW:=Xqh (Q0 _ _ _ _ xw13 HT2.out HT0.out Qq.out (by omega));refine(HW.out).mono ?_;rintro e w15⟨rfl,Qk⟩;have o15:=HO.out.read Qk;clear Qk HW;go_wp2_with fail;refine(XdO _).mono ?_;rintro e wk⟨rfl,hBk⟩;have HB:=Xqh (o15.back hBk);clear hBk;go_wp2;go_ret;exact⟨rfl,HB.out⟩
end
end Go.Proofs.YtpicinjcmjaogaaGreat
