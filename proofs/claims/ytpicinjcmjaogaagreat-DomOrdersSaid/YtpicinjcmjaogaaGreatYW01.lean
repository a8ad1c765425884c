import Derived.MapFrom
import Derived.Deep.Slices
import Derived.Deep.Fields
import Derived.ChangeSame
import Derived.ProofKit
import Derived.Deep.RegionHeld3
import Derived.Test.YtpicinjcmjaogaaGreatY43
set_option maxRecDepth 100000
set_option maxHeartbeats 4000000
set_option linter.unusedVariables false
namespace Go.Proofs.YtpicinjcmjaogaaGreat
variable{A:Ar}{h m:Int}{t fuel B:Nat}{w0:World}{l:List Xf}{rest:List Int}{ops:Array Oper}{a:Act}{Q:Exit->Act->World->Prop}
section
open Go.RowKit
end
section
open Go.RowKit
end
section
open Go.RowKit
section
variable {P : Program} {mt kt et : TypeId} {w : World} {mb : Nat} {L : List (Int × Int)} {k v : Int}
end
end
section
open Go.RowKit
end
section
open Go.RowKit
end
section
open Go.RowKit
end
section
open Go.RowKit
end
section
open Go.RowKit
end
section
open Go.RowKit
end
section
open Go.RowKit
end
section
open Go.RowKit Go.Shelf
theorem boxes4 (w:World)(o1 o2 o3 o4:Obj):∀W,W=(((w.alloc o1).alloc o2).alloc o3).alloc o4->W.heap[w.heap.size]?=some o1/\W.heap[w.heap.size+1]?=some o2/\W.heap[w.heap.size+2]?=some o3/\W.heap[w.heap.size+3]?=some o4/\W.heap.size=w.heap.size+4/\Below w.heap.size w W:=by
 rintro W rfl
 have hnew:∀(v:World)(o:Obj)(k:Nat),k=v.heap.size->(v.alloc o).heap[k]?=some o:=λv o k hk=>by rw[hk];exact heap_alloc_new v o
 refine⟨?_,?_,?_,?_,by simp,?_⟩
 ·rw[Ja _ _ _ (by simp;omega),Ja _ _ _ (by simp;omega),Ja _ _ _ (by simp)];exact hnew _ _ _ rfl
 ·rw[Ja _ _ _ (by simp;try omega),Ja _ _ _ (by simp;try omega)];exact hnew _ _ _ (by simp)
 ·rw[Ja _ _ _ (by simp)];exact hnew _ _ _ (by simp)
 ·exact hnew _ _ _ (by simp)
 ·exact((((Below.refl _ w).alloc (by simp) _).alloc (by simp) _).alloc (by simp;omega) _).alloc (by simp;omega) _
theorem way_plain {A:Ar}:∀{l:List Int}{h:Int},A.Way (Ye A true) h l->∃l',A.Way (Ye A false) h l'
 | [],h,hw=>⟨[],hw⟩
 |x::l,h,hw=>by{obtain⟨rfl,hx,hw⟩:=hw;by_cases hp:(A.get x).Xd=0;{exact⟨[x],rfl,hx,by simp[Ye,hp,Ar.Way]⟩};·obtain⟨l',hl'⟩:=way_plain hw;refine⟨x::l',rfl,hx,?_⟩;have:Ye A true x=Ye A false x:=by{simp[Ye,Ar.up,hp]};rw[<-this];exact hl'}
attribute [local go_sem] Oper.semAt_some
theorem Root_any (A:Ar)(ρ:Nat->Nat)(b:Nat)(h:Int)(path:List Int)(w:World)(hA:Xz w ρ b A)(hh:A.has h)(hW:A.Way (Ye A false) h path):Calls Tryz.prog 80 #[.pointer (some ⟨b,0,none⟩),.int .i64 h] w λe w'=>e= .returned (.int .i64 (path.getLast?.getD 0))/\Below w.heap.size w w':=by
 obtain⟨a,c,mv,h0,-,-,hlt,hm,-⟩:=hA.head
 have hh1:decide (A.has h)=true:=by simp[hh]
 refine(callsIn_wide (n:=8)).1 ?_
 refine callsIn_of_wp_marks Tryz.func80 rfl trivial ?_ rfl
 simp only[Tryz.ntmps80,List.size_toArray,List.length_cons,List.length_nil,Nat.reduceAdd,Nat.reduceSub,Array.replicate_succ,Array.replicate_zero,List.push_toArray,List.append_toArray,List.nil_append,List.cons_append]
 gi_wp2_with fail
 refine⟨trivial,?_⟩
 refine(callsIn_wide.2 (ZH A b a c h _ (JJ _ h0))).mono ?_
 rintro e w2⟨rfl,rfl⟩
 rw[hh1]
 gi_wp2_with fail
 refine⟨trivial,?_⟩
 refine(callsIn_wide.2 (XjA b h false _)).mono ?_
 rintro e w2⟨rfl,rfl⟩
 simp only[World.size_alloc]
 obtain⟨W5,hW5⟩:∃W5,W5=(((w.alloc (.cells #[.int .i64 0] 3)).alloc (.cells #[.pointer (some ⟨b,0,none⟩)] 23)).alloc (.cells #[.int .i64 h] 3)).alloc (.cells #[.bool false] 4):=⟨_,rfl⟩
 obtain⟨q1,q2,q3,q4,hs5,hB5⟩:=boxes4 w _ _ _ _ W5 hW5
 rw[<-hW5]
 clear hW5
 gi_wp2_with fail
 have hA5:=hA.below hB5
 have hlt5:∀k,ρ k≠0->k<w.heap.size:=hA.1
 have hseq:=Xjz A ρ b (w.heap.size+2) (w.heap.size+1) (w.heap.size+3) h false path 7 (by omega) W5 (λk=>k=w.heap.size) hA5 q3 q2 q4 (by omega) (by omega) (by by_cases h0:ρ (w.heap.size+2)=0;{exact h0};·have:=hlt5 _ h0;omega) hW (by rintro k rfl;refine⟨by omega,by omega,by omega,?_⟩;by_cases h0:ρ w.heap.size=0;{exact h0};·have:=hlt5 _ h0;omega)
 refine Xji rfl (by omega) (gf:=200) (lb:= #[.pointer (some ⟨w.heap.size+2,0,none⟩),.pointer (some ⟨w.heap.size+1,0,none⟩),.pointer (some ⟨w.heap.size+3,0,none⟩)]) rfl trivial (enters_of Tryz.func200 (by kernel_rfl) rfl) hseq (by rintro k rfl;omega) (by rintro k rfl;omega) (λ_=>rfl) (λpre W=>Below w.heap.size w W/\W.heap[w.heap.size]?=some (.cells #[.int .i64 (pre.getLast?.getD 0)] 3 (0,0))) (λpre W=>False) (λs A' B hs hu'=>⟨hs.1.trans (hu'.JL (λk hk=>by omega) hs.1.size),(hu'.block _ (lt_of_block hs.2) (by omega)).trans hs.2⟩) (λs A' B hs hu'=>hs) ⟨hB5,q1⟩ (λx=>{tmps:= #[.pointer (some ⟨b,0,none⟩),.int .i64 h,undef,undef,.int .i64 0,.pointer (some ⟨w.heap.size,0,none⟩),.int .i64 x,.pointer (some ⟨b,0,none⟩),.int .i64 h,.bool true,.pointer (some ⟨b,0,none⟩),.int .i64 h,.func (.func 200) #[] #[.pointer (some ⟨w.heap.size+1+1,0,none⟩),.pointer (some ⟨w.heap.size+1,0,none⟩),.pointer (some ⟨w.heap.size+1+2,0,none⟩)],.int .i64 x,undef,undef],defers:= []}) ?assign ?body ?done ?stop
 case assign=>intro l x W K hK;gi_wp2;exact hK
 case body=>rintro l pre x W⟨hBW,r1⟩;have k1:=XD r1;have f1:=Xbf r1;gi_wp2;exact⟨(Upd.refl (λk=>k=w.heap.size) W).setCell (p:=⟨w.heap.size,0,none⟩) (.inr rfl) _,hBW.trans ((Below.refl _ W).setCell (p:=⟨w.heap.size,0,none⟩) (Nat.le_refl _) _),by rw[show(pre++ [x]).getLast?.getD 0=x from by{simp}];exact one_setCell r1⟩
 case done=>rintro D ys W rfl⟨hBW,r1⟩hD hK;have k1:=XD r1;gi_wp2;have hD1:D≠w.heap.size:=by{omega};refine⟨by simp,.inl ⟨_,_,rfl,run_takeDeferred hK,?_⟩⟩;refine⟨_,?_,rfl,?_⟩;{simp[results,Tryz.f80,go_sem]};·exact hBW.trans (Upd.JL (F:=λk=>k=D) (ZT _ rfl) (λk hk=>by omega) hBW.size)
 case stop=>rintro D pre W _ hx _ _;exact hx.elim
theorem Root_no (A:Ar)(ρ:Nat->Nat)(b:Nat)(h:Int)(w:World)(hA:Xz w ρ b A)(hno:¬A.has h):Calls Tryz.prog 80 #[.pointer (some ⟨b,0,none⟩),.int .i64 h] w λe w'=>e= .returned (.int .i64 0)/\Below w.heap.size w w':=by
 obtain⟨a,c,mv,h0,-,-,hlt,hm,-⟩:=hA.head
 have h0':=JJ (.cells #[.int .i64 0] 3) h0
 have hB:=Xw w (.cells #[.int .i64 0] 3)
 have hu1:decide (A.has h)=false:=by simp[hno]
 clear hno
 go_enter Tryz.func80,Tryz.ntmps80
 go_wp2_with fail
 refine(ZH A b a c h _ h0').mono ?_
 rintro e w2⟨rfl,rfl⟩
 rw[hu1]
 go_wp2
 go_ret
 exact⟨rfl,hB⟩
theorem Ar.WF.wayPlain (hW:A.WF)(hh:A.has h):A.Way (Ye A false) h (A.YR false h):=by
 obtain⟨p,hp⟩:=hW.way h hh
 obtain⟨l,hl⟩:=way_plain hp
 rw[Ar.YR,XdW hl (XdV hl)]
 exact hl
/-- The root of the tree of a node, or 0. -/
def Ar.root (A : Ar) (h : Int) : Int := if A.has h then (A.YR false h).getLast?.getD 0 else 0
theorem Root_all (A:Ar)(ρ:Nat->Nat)(b:Nat)(h:Int)(w:World)(hA:Xz w ρ b A)(hW:A.WF):Calls Tryz.prog 80 #[.pointer (some ⟨b,0,none⟩),.int .i64 h] w λe w'=>e= .returned (.int .i64 (A.root h))/\Below w.heap.size w w':=by
 by_cases hh:A.has h
 ·rw[Ar.root,if_pos hh];exact Root_any A ρ b h _ w hA hh (hW.wayPlain hh)
 ·rw[Ar.root,if_neg hh];exact Root_no A ρ b h w hA hh
end
section
open Go.RowKit
end
section
open Go.RowKit Go.ChangeShapes Go.WideShapes Go.Deep
section
variable {H : Type} {enc : TypeId × Value -> H} {P : Program} {w : World} {base : Nat} {spare : Nat -> Bool} {held : Bool}
theorem open_slice_fields {t e:TypeId}{fs:Array Field}{cs:List Value}{x:DataW H×List MemPlace}(ht:P.underlying t=some (.slice e))(he:P.underlying e=some (.struct fs))(hone:oneCellFields P fs=true)(hC:P.cellsOf e=fs.size)(h:DataW.trod enc P w base spare held fuel t cs=some x):cs= [.slice none 0 0]\/∃(a:Addr)(len cap:Nat)(D:Nat->DataW H),cs= [.slice (some a) len cap]/\len<=cap/\cap<=maxLen/\∀i,i<len->∃(ys:List (DataW H×List MemPlace))(n:Nat),∀(j:Nat)(f:Field),fs[j]?=some f->∃(v:Value)(y:DataW H×List MemPlace),w.cell? (a.add (i*fs.size+j))=some v/\ys[j]?=some y/\DataW.trod enc P w base spare held n f.type [v]=some y:=by
 rcases open_slice ht h with h0|⟨a,len,cap,m,n,D,Pl,hcs,hb,hl,hm,hmm,hx,hi⟩
 ·exact .inl h0.1
 ·refine .inr ⟨a,len,cap,D,hcs,hl,hm,λi hil=>?_⟩;have him:i<m:=by{rw[hmm];split<;>omega};obtain⟨cs',hc,ht'⟩:=hi i him;rw[hC]at hc;obtain⟨ys,n',hn',hy,hlen,hyl,hf⟩:=DataW.trod_struct he ht';obtain⟨_,hcl,hat⟩:=World.cells?_some hc;refine⟨ys,n',λj f hj=>?_⟩;obtain⟨ho,hk⟩:=hone_of hone j f hj;have hjl:j<fs.size:=(Array.getElem?_eq_some_iff.1 hj).1;have hcell:=hat j hjl;have hv:cs'[j]?=some (cs'[j]'(by omega)):=List.getElem?_eq_getElem (by omega);have h1:=hf j f hj;rw[ho,hk]at h1;have hone':(cs'.drop j).take 1= [cs'[j]'(by omega)]:=by{rw[List.drop_eq_getElem_cons (by omega)];rfl};rw[hone']at h1;have hys:ys[j]?=some (ys[j]'(by omega)):=List.getElem?_eq_getElem (by omega);refine⟨_,_,?_,hys,h1.trans hys⟩;rw[<-Go.Deep.add_add,hcell,hv]
end
theorem spot_none {w:World}{a:Addr}{v:Value}(h:w.cell? a=some v):a.spot=none:=by
 unfold World.cell? at h
 split at h
 ·split at h;{cases h};·rename_i hs;simpa using hs
 ·cases h
theorem list_of {α:Type}(Q:Nat->α->Prop):∀n:Nat,(∀i,i<n->∃x,Q i x)->∃l:List α,l.length=n/\∀i x,l[i]?=some x->Q i x
 |0,_=>⟨[],rfl,λi x h=>by simp at h⟩
 |n+1,h=>by{obtain⟨l,hl,hq⟩:=list_of Q n (λi hi=>h i (by omega));obtain⟨x,hx⟩:=h n (by omega);refine⟨l++ [x],by simp[hl],λi y hy=>?_⟩;rw[List.getElem?_append]at hy;split at hy;{exact hq i y hy};·have:i=n:=by{have:=(List.getElem?_eq_some_iff.1 hy).1;simp at this;omega};subst this;simp[hl]at hy;subst hy;exact hx}
section
variable {H : Type} {enc : TypeId × Value -> H} {w : World} {base : Nat} {spare : Nat -> Bool} {held : Bool}
theorem open_attrs {v:Value}{x:DataW H×List MemPlace}(h:DataW.trod enc Tryz.prog w base spare held fuel 44 [v]=some x):∃l:List Xm,XE w v l:=by
 rcases open_slice_fields Tryz.underlying44 Tryz.underlying132 (by kernel_rfl) (by kernel_rfl) h with h0|⟨a,len,cap,D,hcs,hl,hm,hi⟩
 ·simp at h0;subst h0;exact⟨[],rfl,none,0,rfl,Nat.le_refl _,Nat.zero_le _,λh=>absurd h (by simp)⟩
 ·simp at hcs;subst hcs;have hq:∀i,i<len->∃y:Xm,w.cell? (a.add (i*3+0))=some (.int .i64 y.1)/\w.cell? (a.add (i*3+1))=some (.string y.2.1)/\w.cell? (a.add (i*3+2))=some (.string y.2.2):=by{intro i hil;obtain⟨ys,n,hf⟩:=hi i hil;obtain⟨v0,y0,c0,-,t0⟩:=hf 0 _ rfl;obtain⟨v1,y1,c1,-,t1⟩:=hf 1 _ rfl;obtain⟨v2,y2,c2,-,t2⟩:=hf 2 _ rfl;obtain⟨s,e0,-⟩:=DataW.trod_int Tryz.underlying34 t0;obtain⟨nm,e1,-⟩:=DataW.trod_string Tryz.underlying9 t1;obtain⟨vl,e2,-⟩:=DataW.trod_string Tryz.underlying9 t2;simp at e0 e1 e2;subst e0;subst e1;subst e2;exact⟨(s,nm,vl),c0,c1,c2⟩};obtain⟨l,hll,hlq⟩:=list_of _ len hq;subst hll;refine⟨l,XcP l,some a,cap,rfl,hl,hm,λhp=>?_⟩;have hsp:a.spot=none:=by{obtain⟨q,-⟩:=hlq 0 _ (List.getElem?_eq_getElem hp);exact spot_none (by simpa[Addr.add]using q)};obtain⟨b,o,sp⟩:=a;simp at hsp;subst hsp;refine⟨b,o,rfl,λj x hx=>?_⟩;have hj:j<l.length*3:=by{have:=(List.getElem?_eq_some_iff.1 hx).1;rwa[XcP]at this};have h3:j=3*(j/3)+j%3:=by{omega};have hy:l[j/3]?=some (l[j/3]'(by omega)):=List.getElem?_eq_getElem (by omega);rw[h3,XdQ hy _ (by omega)]at hx;have hq:=hlq _ _ hy;have hm3:j%3<3:=by{omega};generalize j%3=r at*;rw[h3];simp only[Addr.add_mid]at hq;rcases(show r=0\/r=1\/r=2 by omega)with rfl|rfl|rfl;{simp[Xv]at hx;subst hx;rw[show o+(3*(j/3)+0)=o+(j/3*3+0)by(omega)];exact hq.1};{simp[Xv]at hx;subst hx;rw[show o+(3*(j/3)+1)=o+(j/3*3+1)by(omega)];exact hq.2.1};·simp[Xv]at hx;subst hx;rw[show o+(3*(j/3)+2)=o+(j/3*3+2)by(omega)];exact hq.2.2
theorem open_ops {v:Value}{x:DataW H×List MemPlace}(h:DataW.trod enc Tryz.prog w base spare held fuel 38 [v]=some x):∃l:List OpD,JW w v l:=by
 rcases open_slice_fields Tryz.underlying38 Tryz.underlying92 (by kernel_rfl) (by kernel_rfl) h with h0|⟨a,len,cap,D,hcs,hl,hm,hi⟩
 ·simp at h0;subst h0;exact⟨[],none,0,rfl,Nat.le_refl _,Nat.zero_le _,λh=>absurd h (by simp)⟩
 ·simp at hcs;subst hcs;have hq:∀i,i<len->∃y:OpD,∃av,(∀j v,(y.cells av)[j]?=some v->w.cell? (a.add (i*10+j))=some v)/\XE w av y.Xb:=by{intro i hil;obtain⟨ys,n,hf⟩:=hi i hil;obtain⟨v0,y0,c0,-,t0⟩:=hf 0 _ rfl;obtain⟨v1,y1,c1,-,t1⟩:=hf 1 _ rfl;obtain⟨v2,y2,c2,-,t2⟩:=hf 2 _ rfl;obtain⟨v3,y3,c3,-,t3⟩:=hf 3 _ rfl;obtain⟨v4,y4,c4,-,t4⟩:=hf 4 _ rfl;obtain⟨v5,y5,c5,-,t5⟩:=hf 5 _ rfl;obtain⟨v6,y6,c6,-,t6⟩:=hf 6 _ rfl;obtain⟨v7,y7,c7,-,t7⟩:=hf 7 _ rfl;obtain⟨v8,y8,c8,-,t8⟩:=hf 8 _ rfl;obtain⟨v9,y9,c9,-,t9⟩:=hf 9 _ rfl;obtain⟨x0,e0,-⟩:=DataW.trod_int Tryz.underlying3 t0;obtain⟨x1,e1,-⟩:=DataW.trod_int Tryz.underlying3 t1;obtain⟨x2,e2,-⟩:=DataW.trod_int Tryz.underlying3 t2;obtain⟨x3,e3,-⟩:=DataW.trod_int Tryz.underlying3 t3;obtain⟨x4,e4,-⟩:=DataW.trod_bool Tryz.underlying4 t4;obtain⟨x5,e5,-⟩:=DataW.trod_int Tryz.underlying34 t5;obtain⟨x6,e6,-⟩:=DataW.trod_string Tryz.underlying9 t6;obtain⟨x7,e7,-⟩:=DataW.trod_string Tryz.underlying9 t7;obtain⟨x8,e8,-⟩:=DataW.trod_string Tryz.underlying9 t8;obtain⟨l,hl⟩:=open_attrs t9;simp at e0 e1 e2 e3 e4 e5 e6 e7 e8;subst e0;subst e1;subst e2;subst e3;subst e4;subst e5;subst e6;subst e7;subst e8;refine⟨⟨x0,x1,x2,x3,x4,x5,x6,x7,x8,l⟩,v9,λj v hv=>?_,hl⟩;have hj:j<10:=(List.getElem?_eq_some_iff.1 hv).1;rcases(show j=0\/j=1\/j=2\/j=3\/j=4\/j=5\/j=6\/j=7\/j=8\/j=9 by omega)with rfl|rfl|rfl|rfl|rfl|rfl|rfl|rfl|rfl|rfl<;>(simp[OpD.cells]at hv;subst hv;assumption)};obtain⟨l,hll,hlq⟩:=list_of _ len hq;subst hll;refine⟨l,some a,cap,rfl,hl,hm,λhp=>?_⟩;have hsp:a.spot=none:=by{obtain⟨av,q,-⟩:=hlq 0 _ (List.getElem?_eq_getElem hp);exact spot_none (by simpa[Addr.add]using q 0 _ rfl)};obtain⟨b,o,sp⟩:=a;simp at hsp;subst hsp;refine⟨b,o,rfl,λi x hx=>?_⟩;obtain⟨av,q,hA⟩:=hlq i x hx;refine⟨av,λj v hv=>?_,hA⟩;have:=q j v hv;rw[Addr.add_mid]at this;rw[show o+i*10+j=o+(i*10+j)by(omega)];exact this
end
end
section
open Go.RowKit
end
section
open Go.RowKit
end
section
open Go.RowKit
end
section
open Go.RowKit
end
section
open Go.RowKit
theorem perm_pick {α:Type}:∀(l:List α)(i:Nat)(a:α),l[i]?=some a->l.Perm (a::l.eraseIdx i)
 | [],i,a,h=>by{simp at h}
 |b::l,0,a,h=>by{simp at h;subst h;exact List.Perm.refl _}
 |b::l,i+1,a,h=>by{have h':l[i]?=some a:=by{simpa using h};exact((perm_pick l i a h').cons b).trans (List.Perm.swap a b _)}
theorem Own.pick {w:World}(h:Own w0 B l w)(i:Nat){a:Xf}(ha:l[i]?=some a):Own w0 B (a::l.eraseIdx i) w:=h.perm (perm_pick l i a ha)
theorem Own.lay {w:World}{l':List Xf}{a:Xf}(h:Own w0 B (a::l') w)(i:Nat)(ha:l[i]?=some a)(hl:l.eraseIdx i=l'):Own w0 B l w:=by
 subst hl
 exact h.perm (perm_pick l i a ha).symm
section
variable {F : Fence} {n : Nat} {P : Program}
end
end
section
open Go.ChangeShapes Go.WideShapes Go.ChangeAt Go.RowKit
theorem own_knob :ownKnob Tryz.prog.godebug=none:=by
 kernel_rfl
theorem laid_out :laidOutB Tryz.prog=true:=by
 kernel_rfl
theorem arg_ops {H:Type}{enc:TypeId×Value->H}{W:World}{base:Nat}{spare:Nat->Bool}{held:Bool}{v:Value}{d:DataW H}{p:List MemPlace}{r:Reach}{b0:Nat}(hv:Value.okWide Tryz.prog W r b0 38 v)(h:DataW.Trod enc Tryz.prog W base spare held 38 v d p):∃l,JW W v l:=by
 obtain⟨a,len,cap,rfl⟩:=okWide_slice Tryz.underlying38 hv
 obtain⟨fuel,hf⟩:=h
 simp only[Value.cells]at hf
 exact open_ops (fuel:=fuel) (x:=(d,p)) hf
end
section
open Go.RowKit
theorem flat_take_len {α:Type}(l:List Int)(k:Nat)(f:Int->List α):((l.take k).flatMap f).length<=(l.flatMap f).length:=by
 have:=congrArg List.length (congrArg (List.flatMap f) (List.take_append_drop k l))
 rw[List.flatMap_append,List.length_append]at this
 omega
end
section
open Go.RowKit
theorem wayp_len {y:Int}(h:A.Way (Ye A false) y rest):(A.YR false y).length=rest.length:=by
 unfold Ar.YR
 rw[XdW h (XdV h)]
theorem RRoot_any (A:Ar)(ρ:Nat->Nat)(b:Nat)(h:Int)(w:World)(hA:Xx w ρ b A)(hW:A.WF):Calls Tryz.prog 65 #[.pointer (some ⟨b,0,none⟩),.int .i64 h] w λe w'=>e= .returned (.int .i64 (A.root h))/\w=w':=by
 obtain⟨nb,c,h0,hm,hc,hfn,hnb,HH0,hN⟩:=hA.look
 have HH:=Xqh HH0
 have HN:=Xqh hN
 clear HH0 hN hfn hA
 by_cases hh:A.has h
 ·have hd2:decide (A.has h)=true:=by{simp[hh]};have hway:=hW.wayPlain hh;have hfin:A.root h=(A.YR false h).getLast?.getD 0:=by{unfold Ar.root;rw[if_pos hh]};rw[hfin];have hz:h≠0:=by{have:=hh.1;omega};generalize A.YR false h=path at*;have HW:=Xqh (And.intro hway hz);clear hfin hway hh hz;go_enter Tryz.func65,Tryz.ntmps65;go_wp2_with fail;refine(HH.out _ _ h0).mono ?_;rintro e w'⟨rfl,rfl⟩;rw[hd2];go_wp2;go_loop [1](λx=>∃(y:Int)(pre rest:List Int),x= .int .i64 y/\Hid (A.Way (Ye A false) y rest/\path=pre++rest/\y≠0))(λx=>(A.YR false (intOf x)).length);(case atStart=>exact⟨h,[],path,rfl,HW.out.1,rfl,HW.out.2⟩);case round=>obtain⟨y,pre,rest,rfl,hT⟩:=hrel;obtain⟨r,hr,hyh,hw2⟩:=Xlw hT.out.1 hT.out.2.2;have hdl:=wayp_len hT.out.1;have hdl2:=wayp_len hw2;have hus:Ye A false y=(A.get y).Xd:=by{simp[Ye]};rw[hus]at hw2 hdl2;obtain⟨hp,hq,kv,av,F,-,-⟩:=HN.out y hyh;have c1:=F.c1;clear F hyh;by_cases hp0:(A.get y).Xd=0;{rw[hp0]at c1;have HF:Hid (path.getLast?.getD 0=y):=Xqh (by rw[hp0]at hw2;rw[hT.out.2.1,hr,Xlv hw2];simp);clear hdl hdl2 hw2 hus hr hT hp0;go_wp2;go_ret;exact⟨Zd HF.out.symm,rfl⟩};·have hp1:((A.get y).Xd !=0)=true:=by{simpa using hp0};have HR:Hid (A.Way (Ye A false) (A.get y).Xd r/\path=(pre++ [y])++r/\(A.get y).Xd≠0):=Xqh ⟨hw2,by rw[hT.out.2.1,hr];simp,hp0⟩;have HM:Hid ((A.YR false (A.get y).Xd).length<(A.YR false y).length):=Xqh (by rw[hdl,hdl2,hr];simp);clear hdl hdl2 hw2 hus hr hT hp0;go_wp2;go_round;(case rel=>exact⟨(A.get y).Xd,pre++ [y],r,rfl,HR⟩);case measure=>exact HM.out
 ·have hd2:decide (A.has h)=false:=by{simp[hh]};have hfin:A.root h=0:=by{unfold Ar.root;rw[if_neg hh]};rw[hfin];clear hfin hh;go_enter Tryz.func65,Tryz.ntmps65;go_wp2_with fail;refine(HH.out _ _ h0).mono ?_;rintro e w'⟨rfl,rfl⟩;rw[hd2];go_wp2;go_ret;exact⟨rfl,rfl⟩
end
section
open Go.RowKit
theorem RRoot_own {w:World}{b:Nat}(o:Own w0 B l w)(hm:Xf.refar b A∈l)(hI:A.Inv):Calls Tryz.prog 65 #[.pointer (some ⟨b,0,none⟩),.int .i64 h] w λe w'=>e= .returned (.int .i64 (A.root h))/\w=w':=let⟨ρ,hA⟩:=o.refar hm;RRoot_any A ρ b h w hA hI.wf
end
section
open Go.RowKit Go.Shelf
theorem wpList_append_none {P:Program}(w:World){rest:List Oper}{o:Oper}(hgd:o.guard=none)(s x:Operand)(t:TypeId)(ho:o.op= .call {callee:= .builtin .append,args:= #[s,x],argTypes:= #[t,t]})(base:Nat)(e:TypeId)(i:TypeInfo)(size:Nat)(ht:P.underlying t=some (.slice e))(hi:P.info? e=some i)(v:Value)(n:Nat)(xs:List Value)(hs:a.eval s=v)(hown:w.ownsRow base e size v n xs)(hx:a.eval x= .slice none 0 0)(h:wpList P ops Q rest (a.put o.dst v) w):wpList P ops Q (o::rest) a w:=by
 refine wpList_plain hgd λK hK=>?_
 have hr:=run_append_owned_none (P:=P) w base t o.type e i size ht hi v n xs hown
 unfold Oper.wp execOp
 simp only[ho,resolve,invoke,builtin,Sem.run_bind,Sem.run_pure,Result.andThen_ok,List.map_toArray,List.map_cons,List.map_nil,hs,hx,hr]
 exact hK _ _ h
theorem below_take_len (hI:A.Inv)(hh:A.has h)(j:Nat):(((A.get h).Xc.take j).flatMap (λk=>k::A.below k)).length<=A.ns.length:=by
 have h1:=flat_take_len (A.get h).Xc j (λk=>k::A.below k)
 have h2:=Xkb hI h hh
 have h3:=Z3 hI h
 rw[ZD hI hh]at h2
 omega
theorem RBelow5_any (A:Ar)(ρ:Nat->Nat)(b:Nat)(hI:A.Inv)(hsz:A.ns.length<=1000000):∀h,A.has h->∀w,Xx w ρ b A->Calls Tryz.prog 137 #[.pointer (some ⟨b,0,none⟩),.int .i64 h] w λe w'=>Below w.heap.size w w'/\∃v',e= .returned v'/\w'.ownsRow w.heap.size 3 1 v' (A.below h).length ((A.below h).map Xp):=by
 obtain⟨i0,hi,hz0,hz1,hz2⟩:=info_parts Xaf
 refine Jc hI (λh hh ihc ihk w hA=>?_)
 obtain⟨nb,c,h0,hm,hc,-,-,-,hN⟩:=hA.look
 obtain⟨p1,p2,kv,av,F,hK,-⟩:=hN h hh
 have HK:Hid (Xy w kv (A.get h).Xc):=Xqh hK.reads
 obtain⟨ka,kc,rfl,-⟩:=HK.out.form
 have c2:=F.c2
 have hx0:(0:Int)<=h:=by omega
 have hx1:h<((A.ns.length+1:Nat):Int):=by omega
 have hx2:h<(A.ns.length:Int)+1:=by omega
 have hkl:=((hI.short hsz).get hh).1
 have HIH:=Xqh (λx(hx:x∈(A.get h).Xc)W(hB:Below w.heap.size w W)=>ihk x hx W (hA.below hB))
 have HBE:=Xqh (ZD hI hh)
 have HLEN:=Xqh (λj=>below_take_len hI hh j)
 have HLK:=Xqh (λx(hx:x∈(A.get h).Xc)=>by have:=Xkb hI x (XF hI hh hx).1;have:=Z3 hI x;show(A.below x).length<=A.ns.length;omega)
 have HI:=Xqh hi
 clear hA hN F hK ihc ihk hI hi hm hc
 generalize(A.get h).Xc=K at*
 go_enter Tryz.func137,Tryz.ntmps137
 go_wp2
 go_loopw [5,6](λout i wr=>∃j:Nat,j<=K.length/\i= .int .i64 j/\Hid (wr.ownsRow w.heap.size 3 1 out ((K.take j).flatMap (λk=>k::A.below k)).length (((K.take j).flatMap (λk=>k::A.below k)).map Xp))/\Hid (Below w.heap.size w wr))(λ_ i _=>K.length-(intOf i).toNat)
 case atStart=>exact⟨0,Nat.zero_le _,rfl,World.ownsRow_nil _ _ _ _,Below.refl _ _⟩
 case round=>obtain⟨j,hj,rfl,hT,hB⟩:=hrel;have g0:=Below.old hB.out h0;have g2:=Below.old hB.out c2;obtain⟨oa,oc,rfl⟩:=X6 hT.out;by_cases hlt:j<K.length;{obtain⟨x,hx⟩:∃x,K[j]?=some x:=⟨_,List.getElem?_eq_getElem hlt⟩;obtain⟨b',o',rfl,-,hcs⟩:=(HK.out.cells (by omega));have d1:=hcs j x hx;have e1:=Below.old hB.out d1;have hwr:w.heap.size<=wr.heap.size:=hB.out.size;have HX:=Xqh hx;have hl1:=HLEN.out j;have hl2:=HLEN.out (j+1);have hst:(K.take (j+1)).flatMap (λk=>k::A.below k)=((K.take j).flatMap (λk=>k::A.below k)++ [x])++A.below x:=by{rw[XeR _ hx];simp};have HST:=Xqh hst;rw[hst]at hl2;simp only[List.length_append,List.length_cons,List.length_nil]at hl2;clear hcs hx hst;generalize(K.take j).flatMap (λk=>k::A.below k)=P at*;go_wp2_with(at_builtin;refine wpList_append_own_at _ rfl _ _ 41 rfl w.heap.size 3 i0 _ 1 8 Tryz.underlying41 HI.out hz0 hz1 hz2 rfl (by decide) _ P.length (P.map Xp) rfl (hT.out.alloc _) ⟨wr.heap.size,0,none⟩ 1 1 [.int .i64 x] rfl rfl ?c1 ?c2 ?c3 ?c4 ?c5 ?_);(case c1=>intro q u hu;rw[Addr.add_mid,Nat.zero_add];exact Yi rfl (by simpa using hu));(case c2=>intro u hu;simp at hu;subst hu;rfl);(case c3=>unfold maxLen;omega);(case c4=>omega);(case c5=>simp;omega);intro v2 w2 hown hgrow _ _;have hB2:Below w.heap.size w w2:=(hB.out.alloc hwr _).grown hgrow (by simp;omega) (λq hq=>(Yx hT.out q hq).1);have e0:=Below.old hB2 h0;have e2:=Below.old hB2 c2;have e3:=Below.old hB2 d1;obtain⟨va,vc,rfl⟩:=X6 hown;have HB2:=Xqh hB2;have HC:=Xqh (HIH.out x (List.mem_of_getElem? HX.out) w2 hB2);have HOW:=Xqh hown;have hlx:=HLK.out x (List.mem_of_getElem? HX.out);clear hB2 hown hgrow g0 g2 e1 hT;go_wp2_with fail;refine HC.out.mono ?_;rintro e w3⟨hB3,v3,rfl,ho3⟩;have hB3':Below w.heap.size w w3:=HB2.out.trans (hB3.mono HB2.out.size);have HO3:=Xqh (Z0 HOW.out hB3);have HB3:=Xqh hB3';have ho0:=YP ho3 (Nat.zero_le _);clear hB3 hB3' ho3 HC HOW;rcases XlX ho0 with⟨rfl,hn,-⟩|⟨g,gc,rfl,hcell⟩;{have hnil:A.below x= []:=List.length_eq_zero_iff.1 hn;rw[hnil,List.append_nil]at HST;clear ho0 hn hnil;go_wp2_with(at_builtin;refine wpList_append_none _ rfl _ _ 41 rfl w.heap.size 3 i0 1 Tryz.underlying41 HI.out _ _ _ rfl HO3.out rfl ?_);go_wp2;go_roundw;(case rel=>exact⟨j+1,hlt,by go_num,by rw[HST.out];simpa[Xp]using HO3,HB3⟩);case measure=>simp[intOf];omega};·have HCE:=Xqh hcell;clear ho0 hcell;go_wp2_with(at_builtin;refine wpList_append_own_at _ rfl _ _ 41 rfl w.heap.size 3 i0 _ 1 8 Tryz.underlying41 HI.out hz0 hz1 hz2 rfl (by decide) (.slice va (P.length+1) vc) (P.length+1) (P.map Xp++ [.int .i64 x]) rfl HO3.out ⟨g,0,none⟩ (A.below x).length gc ((A.below x).map Xp) rfl (by simp) ?e1 ?e2 ?e3 ?e4 ?e5 ?_);(case e1=>intro q u hu;rw[Addr.add_mid,Nat.zero_add];exact HCE.out q u hu);(case e2=>intro u hu;obtain⟨y,-,rfl⟩:=List.mem_map.1 hu;rfl);(case e3=>unfold maxLen;omega);(case e4=>omega);(case e5=>exact HB3.out.size);intro v4 w4 hown4 hgrow4 _ _;have hB4:Below w.heap.size w w4:=HB3.out.grown hgrow4 HB3.out.size (λq hq=>(Yx HO3.out q hq).1);have HB4:=Xqh hB4;obtain⟨ya,yc,rfl⟩:=X6 hown4;have e1:P.length+1+(A.below x).length=(P++ [x]++A.below x).length:=by{simp only[List.length_append,List.length_cons,List.length_nil]};have e2:P.map Xp++(.int .i64 x::(A.below x).map Xp)=(P++ [x]++A.below x).map Xp:=by{simp[Xp]};have HO4:Hid (w4.ownsRow w.heap.size 3 1 (.slice ya (P.length+1+(A.below x).length) yc) (P++ [x]++A.below x).length ((P++ [x]++A.below x).map Xp)):=Xqh (by rw[<-e1,<-e2];exact hown4);clear hB4 hown4 hgrow4 HCE e1 e2;go_wp2;go_roundw;(case rel=>exact⟨j+1,hlt,by go_num,by rw[HST.out];exact HO4,HB4⟩);case measure=>simp[intOf];omega};·have hkl:K.take j=K:=List.take_of_length_le (by omega);have e:(K.take j).flatMap (λk=>k::A.below k)=A.below h:=by{rw[hkl];exact HBE.out.symm};go_wp2;go_ret;exact⟨hB.out,_,rfl,by rw[<-e];exact hT.out⟩
end
section
open Go.RowKit Go.Shelf
theorem Xi6 {w:World}{ll:List Xf}(o:Own w0 B ll w)(v:Value)(l:List OpD)(hv:∀W,Own w0 B ll W->JW W v l)(hs:Jj l m)(hm:m<=100):Calls Tryz.prog 42 #[v] w λe w'=>∃b c,e= .returned (.tuple #[.pointer (some ⟨b,0,none⟩),.pointer (some ⟨c,0,none⟩),.bool true])/\Own w0 B (.arena b (Zj l):: .refar c (Zj l)::ll) w':=by
 have hv0:=hv w o
 have HV:=Xqh hv
 obtain⟨av,cv,rfl,hc1,hc2,-⟩:=id hv0
 have HN:=Xqh (Xgv w)
 have HT5:=Xqh (λk(hk:k<=l.length)=>XfA hs hm hk)
 have HSM:=Xqh (Xir hs hm)
 clear hv hv0 hs hm
 go_enter Tryz.func42,Tryz.ntmps42
 go_wp2_with fail
 refine HN.out.mono ?_
 rintro e w1⟨rfl,hw1⟩
 have o1:=o.XgB
 rw[<-hw1]at o1
 have HB:=Xqh (show Below w.heap.size w w1 by rw[hw1];exact Xw _ _)
 clear hw1 HN o
 generalize w.heap.size=ba at*
 go_wp2_with fail
 refine(XlV o1).mono ?_
 rintro e w2⟨rfl,o2⟩
 generalize w1.heap.size+2=bc at*
 have HO:=Xqh o2
 clear o1 o2
 go_wp2
 go_loopw [7](λi wr=>∃k:Nat,k<=l.length/\i= .int .i64 k/\Hid (Own w0 B (.refar bc (Zj (l.take k)):: .arena ba (Zj (l.take k))::ll) wr))(λi _=>l.length-(intOf i).toNat)
 case atStart=>exact⟨0,Nat.zero_le _,rfl,HO.out⟩
 case round=>obtain⟨k,hk,rfl,hT⟩:=hrel;by_cases hlt:k<l.length;{obtain⟨a',c',e',-,-,hc3⟩:=HV.out wr hT.out.drop.drop;simp only[Value.slice.injEq,true_and]at e';obtain⟨rfl,rfl⟩:=e';obtain⟨b1,o1,rfl,hcs⟩:=hc3 (by omega);obtain⟨x,hx⟩:∃x,l[k]?=some x:=⟨_,List.getElem?_eq_getElem hlt⟩;obtain⟨xv,F⟩:=hcs k x hx;have hxat:=F.at';obtain⟨aa,ac,rfl,-⟩:=F.at'.form;obtain⟨c0,c1,c2,c3,c4,c5,c6,c7,c8,c9⟩:=F.facts;obtain⟨q1,-,q2,q3⟩:=HT5.out k hk;obtain⟨-,s2,-⟩:=HSM.out;have hxs:=s2 x (List.mem_of_getElem? hx);have HX:=Xqh (And.intro hx (Xnp hx));have HC:=Xqh (Xm4 hT.out.swap q1 q2 (Nat.le_trans hxs.1 (by omega)) F.at' (Nat.le_trans hxs.2.2.2.1 (by omega)) (λ_=>q3));have HQ:=Xqh (And.intro q1 (And.intro q2 q3));have HXS:=Xqh hxs;clear hcs F q1 q2 q3 s2 hxs hx hT hc3 hxat;go_wp2_with fail;refine HC.out.mono ?_;rintro e w3⟨rfl,o3⟩;clear HC c0 c1 c2 c3 c4 c5 c6 c7 c8 c9;obtain⟨a',c',e',-,-,hc3⟩:=HV.out w3 o3.drop.drop;simp only[Value.slice.injEq,true_and]at e';obtain⟨rfl,rfl⟩:=e';obtain⟨b2,o2',e',hcs⟩:=hc3 (by omega);simp only[Option.some.injEq,Addr.mk.injEq,and_true]at e';obtain⟨rfl,rfl⟩:=e';obtain⟨xv,F⟩:=hcs k x HX.out.1;obtain⟨aa',ac',rfl,-⟩:=F.at'.form;obtain⟨c0,c1,c2,c3,c4,c5,c6,c7,c8,c9⟩:=F.facts;have HC:=Xqh (Xpg o3.swap HQ.out.1 HQ.out.2.1 (Nat.le_trans HXS.out.1 (by omega)) F.at' (Nat.le_trans HXS.out.2.2.2.1 (by omega)) (λ_=>HQ.out.2.2));clear hcs F hc3 o3;unfold Xl;generalize(Ar.Xo (Zj (l.take k)) x).1=R at*;obtain⟨r1,r2⟩:=R;go_wp2_with fail;refine HC.out.mono ?_;rintro e w4⟨rfl,o4⟩;clear HC c0 c1 c2 c3 c4 c5 c6 c7 c8 c9;rw[<-HX.out.2]at o4;have HO4:=Xqh o4;have hr1:(r1 !=r1)=false:=by{simp};have hr2:(r2 !=r2)=false:=by{simp};clear o4;unfold Xl;go_wp2;go_roundw;(case rel=>exact⟨k+1,hlt,by go_num,HO4⟩);case measure=>simp[intOf];omega};·have hkl:l.take k=l:=List.take_of_length_le (by omega);have ho:=hT.out;rw[hkl]at ho;have HO4:=Xqh ho.swap;clear ho hT hkl;go_wp2;exact bodyPost_ret (v:= .tuple #[.pointer (some ⟨ba,0,none⟩),.pointer (some ⟨bc,0,none⟩),.bool true]) (by simp[results,Tryz.f42,go_sem]) rfl ⟨ba,bc,rfl,HO4.out⟩
end
section
open Go.RowKit Go.Shelf
attribute [local go_sem] Oper.semAt_some
def dk0 : Ar := Ar.new
def dk1 : Ar := dk0.Xn false
def dk2 : Ar := (dk1.element 1 1 ⟨#[104, 116, 109, 108]⟩ []).2
def dk3 : Ar := (dk2.element 1 1 ⟨#[112]⟩ []).2
def dk4 : Ar := (dk3.make 1 (Xs ⟨#[97, 98]⟩)).2
def dk5 : Ar := (dk4.make 1 (YT ⟨#[104, 116, 109, 108]⟩ ⟨#[]⟩ ⟨#[]⟩)).2
def dk6 : Ar := (dk5.make 1 Zm).2
def dk7 : Ar := (dk6.XX 6 3 0).2
def dk8 : Ar := (dk7.XX 6 4 0).2
def dk9 : Ar := (dk8.XX 1 2 0).2
def XbE : Ar := (dk9.XX 1 3 0).2
def XbF : Ar := (XbE.XX 1 4 0).2
def XbG : Ar := (XbF.XX 1 5 0).2
def XbH : Ar := (XbG.XX 1 5 2).2
def Jo : Ar := (XbH.XX 2 6 0).2
def Z9 : Ar := (Jo.split 4 1).2
def XaD : Ar := (Z9.normalize 2).2
theorem Xph :(dk6.XX 6 3 0).1=0:=by
 decide+kernel
theorem Xpi :(dk7.XX 6 4 0).1=0:=by
 decide+kernel
theorem Xpj :(dk8.XX 1 2 0).1=0:=by
 decide+kernel
theorem Xpk :(dk9.XX 1 3 0).1=4:=by
 decide+kernel
theorem Xpl :(XbE.XX 1 4 0).1=4:=by
 decide+kernel
theorem Xpm :(XbF.XX 1 5 0).1=4:=by
 decide+kernel
theorem Xpn :(XbG.XX 1 5 2).1=0:=by
 decide+kernel
theorem Xpo :(XbH.XX 2 6 0).1=0:=by
 decide+kernel
theorem Xpp :Jo.YN 2= [3,4]:=by
 decide+kernel
theorem Xpq :Jo.YN 6= []:=by
 decide+kernel
theorem Xpr :(Jo.split 4 1).1=(7,0):=by
 decide+kernel
theorem Xps :Z9.YN 2= [3,4,7]:=by
 decide+kernel
theorem Xpt :Z9.Xbl 2=(⟨#[97,98]⟩,0):=by
 decide+kernel
theorem Xpu :(Z9.normalize 2).1=0:=by
 decide+kernel
theorem Xpv :XaD.YN 2= [3,4]:=by
 decide+kernel
theorem Xpw :Z9.Xk<=9223372036854775807:=by
 decide+kernel
theorem Xpx :(Z9.Zi (Z9.below 2)).length<=140737488355328:=by
 decide+kernel
theorem Xac (h:A.Inv/\A.XB t)(x:OpD)(hx:x.Xb.length<=20)(h1:20<=t)(h2:t<=900):(A.Xo x).2.Inv/\(A.Xo x).2.XB (t+1):=⟨(Xfk h.1 (h.2.mono h2) x hx).1,XeG h.2 x (Nat.le_trans hx h1)⟩
theorem XaE (h:A.Inv/\A.XB t)(a b c:Int)(h1:20<=t)(h2:t<=900):(A.XX a b c).2.Inv/\(A.XX a b c).2.XB (t+1):=Xac h ⟨21,a,b,c,false,0,ByteArray.empty,ByteArray.empty,ByteArray.empty,[]⟩ (Nat.zero_le _) h1 h2
theorem Xpy (h:A.Inv/\A.XB t)(a b:Int)(h1:20<=t)(h2:t<=900):(A.split a b).2.Inv/\(A.split a b).2.XB (t+1):=Xac h ⟨35,a,b,0,false,0,ByteArray.empty,ByteArray.empty,ByteArray.empty,[]⟩ (Nat.zero_le _) h1 h2
theorem Xpz (h:A.Inv/\A.XB t)(a:Int)(h1:20<=t)(h2:t<=900):(A.normalize a).2.Inv/\(A.normalize a).2.XB (t+1):=Xac h ⟨34,a,0,0,false,0,ByteArray.empty,ByteArray.empty,ByteArray.empty,[]⟩ (Nat.zero_le _) h1 h2
theorem XdN {w:World}{b:Nat}(o:Own w0 B l w)(hm:Xf.arena b A∈l)(hS:A.YC){y:List Int}(hy:A.YN h=y):Calls Tryz.prog 33 #[.pointer (some ⟨b,0,none⟩),.int .i64 h] w λe w'=>∃a c,e= .returned (.slice a y.length c)/\Own w0 B (.ints (.slice a y.length c) y::l) w':=by
 subst hy
 exact Xap o hm hS
theorem XpA :dk0.Inv/\dk0.XB 20:=⟨Xen,XcY _⟩
theorem XpB :dk1.Inv/\dk1.XB 21:=Xac XpA ⟨1,0,0,0,false,0,ByteArray.empty,ByteArray.empty,ByteArray.empty,[]⟩ (by decide) (by decide) (by decide)
theorem XpC :dk2.Inv/\dk2.XB 22:=Xac XpB ⟨3,1,0,0,false,1,⟨#[104,116,109,108]⟩,ByteArray.empty,ByteArray.empty,[]⟩ (by decide) (by decide) (by decide)
theorem XpD :dk3.Inv/\dk3.XB 23:=Xac XpC ⟨3,1,0,0,false,1,⟨#[112]⟩,ByteArray.empty,ByteArray.empty,[]⟩ (by decide) (by decide) (by decide)
theorem XpE :dk4.Inv/\dk4.XB 24:=Xac XpD ⟨4,1,0,0,false,0,ByteArray.empty,⟨#[97,98]⟩,ByteArray.empty,[]⟩ (by decide) (by decide) (by decide)
theorem XpF :dk5.Inv/\dk5.XB 25:=Xac XpE ⟨2,1,0,0,false,0,⟨#[104,116,109,108]⟩,⟨#[]⟩,⟨#[]⟩,[]⟩ (by decide) (by decide) (by decide)
theorem Xi7 :dk6.Inv/\dk6.XB 26:=Xac XpF ⟨6,1,0,0,false,0,ByteArray.empty,ByteArray.empty,ByteArray.empty,[]⟩ (by decide) (by decide) (by decide)
theorem Xi8 :dk7.Inv/\dk7.XB 27:=XaE Xi7 6 3 0 (by decide) (by decide)
theorem Xi9 :dk8.Inv/\dk8.XB 28:=XaE Xi8 6 4 0 (by decide) (by decide)
theorem Xja :dk9.Inv/\dk9.XB 29:=XaE Xi9 1 2 0 (by decide) (by decide)
theorem Xjb :XbE.Inv/\XbE.XB 30:=XaE Xja 1 3 0 (by decide) (by decide)
theorem Xjc :XbF.Inv/\XbF.XB 31:=XaE Xjb 1 4 0 (by decide) (by decide)
theorem Xjd :XbG.Inv/\XbG.XB 32:=XaE Xjc 1 5 0 (by decide) (by decide)
theorem Xje :XbH.Inv/\XbH.XB 33:=XaE Xjd 1 5 2 (by decide) (by decide)
theorem XfY :Jo.Inv/\Jo.XB 34:=XaE Xje 2 6 0 (by decide) (by decide)
theorem Xco :Z9.Inv/\Z9.XB 35:=Xpy XfY 4 1 (by decide) (by decide)
theorem XpG :XaD.Inv/\XaD.XB 36:=Xpz Xco 2 (by decide) (by decide)
theorem XpH :dk0.ns.length<=20:=by
 decide+kernel
theorem XpI :dk1.ns.length<=20:=by
 decide+kernel
theorem XpJ :dk2.ns.length<=20:=by
 decide+kernel
theorem XpK :dk3.ns.length<=20:=by
 decide+kernel
theorem XpL :dk4.ns.length<=20:=by
 decide+kernel
theorem XpM :dk5.ns.length<=20:=by
 decide+kernel
theorem XpN :dk6.ns.length<=20:=by
 decide+kernel
theorem XpO :dk7.ns.length<=20:=by
 decide+kernel
theorem XpP :dk8.ns.length<=20:=by
 decide+kernel
theorem XpQ :dk9.ns.length<=20:=by
 decide+kernel
theorem XpR :XbE.ns.length<=20:=by
 decide+kernel
theorem XpS :XbF.ns.length<=20:=by
 decide+kernel
theorem XpT :XbG.ns.length<=20:=by
 decide+kernel
theorem XpU :XbH.ns.length<=20:=by
 decide+kernel
theorem Xjf :Jo.ns.length<=20:=by
 decide+kernel
theorem XfZ :Z9.ns.length<=20:=by
 decide+kernel
theorem XpV :XaD.ns.length<=20:=by
 decide+kernel
theorem Xjg :Jo.YC:=XfY.1.short (Nat.le_trans Xjf (by decide))
theorem XpW :Z9.YC:=Xco.1.short (Nat.le_trans XfZ (by decide))
theorem XpX :XaD.YC:=XpG.1.short (Nat.le_trans XpV (by decide))
theorem XdO (w:World):Calls Tryz.prog 19 #[] w λe w'=>e= .returned (.bool true)/\Below w.heap.size w w':=by
 have HN:=Xqh (Xgv w)
 go_enter Tryz.func19,Tryz.ntmps19
 go_wp2_with fail
 refine HN.out.mono ?_
 rintro e w0⟨rfl,hw1⟩
 have o:=(Own.start w).XgB
 rw[<-hw1]at o
 clear hw1 HN
 have o:Own w w.heap.size [.arena w.heap.size dk0] w0:=o
 obtain⟨g,hg⟩:∃g,w.heap.size=g:=⟨_,rfl⟩
 rw[show(Xf.arena w.heap.size dk0)=Xf.arena g dk0 by(rw[hg])]at o
 rw[show(Value.pointer (some (⟨w.heap.size,0,none⟩:Addr)))=Value.pointer (some ⟨g,0,none⟩)by(rw[hg])]
 clear hg
 have HC:=Xqh (o.call (λρ hA=>XbO dk0 ρ g false _ hA (Nat.le_trans XpH (by decide))))
 clear o
 go_wp2_with fail
 refine HC.out.mono ?_
 rintro e w1⟨rfl,o1⟩
 clear HC
 have o:Own w w.heap.size [.arena g dk1] w1:=o1
 clear o1
 generalize w1=w0 at*
 have HC:=Xqh (o.call (λρ hA=>XaO dk1 ρ g 1 1 ⟨#[104,116,109,108]⟩ (.slice none 0 0) [] _ hA (Xfu (b:=0) (l:= []) (World.ownsRow_nil _ 0 132 3)) (Nat.le_trans (Nat.add_le_add_right XpI _) (by decide)) (by decide)))
 clear o
 go_wp2_with fail
 refine HC.out.mono ?_
 rintro e w1⟨rfl,o1⟩
 clear HC
 have o:Own w w.heap.size [.arena g dk2] w1:=o1
 clear o1
 generalize w1=w0 at*
 have HC:=Xqh (o.call (λρ hA=>XaO dk2 ρ g 1 1 ⟨#[112]⟩ (.slice none 0 0) [] _ hA (Xfu (b:=0) (l:= []) (World.ownsRow_nil _ 0 132 3)) (Nat.le_trans (Nat.add_le_add_right XpJ _) (by decide)) (by decide)))
 clear o
 go_wp2_with fail
 refine HC.out.mono ?_
 rintro e w1⟨rfl,o1⟩
 clear HC
 have o:Own w w.heap.size [.arena g dk3] w1:=o1
 clear o1
 generalize w1=w0 at*
 have HC:=Xqh (o.call (λρ hA=>Xbe dk3 ρ g 1 ⟨#[97,98]⟩ _ hA (Nat.le_trans XpK (by decide))))
 clear o
 go_wp2_with fail
 refine HC.out.mono ?_
 rintro e w1⟨rfl,o1⟩
 clear HC
 have o:Own w w.heap.size [.arena g dk4] w1:=o1
 clear o1
 generalize w1=w0 at*
 have HC:=Xqh (o.call (λρ hA=>XcE dk4 ρ g 1 ⟨#[104,116,109,108]⟩ ⟨#[]⟩ ⟨#[]⟩ _ hA (Nat.le_trans XpL (by decide))))
 clear o
 go_wp2_with fail
 refine HC.out.mono ?_
 rintro e w1⟨rfl,o1⟩
 clear HC
 have o:Own w w.heap.size [.arena g dk5] w1:=o1
 clear o1
 generalize w1=w0 at*
 have HC:=Xqh (o.call (λρ hA=>XcF dk5 ρ g 1 _ hA (Nat.le_trans XpM (by decide))))
 clear o
 go_wp2_with fail
 refine HC.out.mono ?_
 rintro e w1⟨rfl,o1⟩
 clear HC
 have o:Own w w.heap.size [.arena g dk6] w1:=o1
 clear o1
 generalize w1=w0 at*
 have HC:=Xqh (Xas (p:=6) (n:=3) o Xi7.1 (Nat.le_trans (Nat.add_le_add_right XpN _) (by decide)))
 rw[Xph]at HC
 clear o
 go_wp2_with fail
 refine HC.out.mono ?_
 rintro e w1⟨rfl,o1⟩
 clear HC
 have o:Own w w.heap.size [.arena g dk7] w1:=o1
 clear o1
 generalize w1=w0 at*
 have HC:=Xqh (Xas (p:=6) (n:=4) o Xi8.1 (Nat.le_trans (Nat.add_le_add_right XpO _) (by decide)))
 rw[Xpi]at HC
 clear o
 go_wp2_with fail
 refine HC.out.mono ?_
 rintro e w1⟨rfl,o1⟩
 clear HC
 have o:Own w w.heap.size [.arena g dk8] w1:=o1
 clear o1
 generalize w1=w0 at*
 have HC:=Xqh (Xas (p:=1) (n:=2) o Xi9.1 (Nat.le_trans (Nat.add_le_add_right XpP _) (by decide)))
 rw[Xpj]at HC
 clear o
 go_wp2_with fail
 refine HC.out.mono ?_
 rintro e w1⟨rfl,o1⟩
 clear HC
 have o:Own w w.heap.size [.arena g dk9] w1:=o1
 clear o1
 generalize w1=w0 at*
 have HC:=Xqh (Xas (p:=1) (n:=3) o Xja.1 (Nat.le_trans (Nat.add_le_add_right XpQ _) (by decide)))
 rw[Xpk]at HC
 clear o
 go_wp2_with fail
 refine HC.out.mono ?_
 rintro e w1⟨rfl,o1⟩
 clear HC
 have o:Own w w.heap.size [.arena g XbE] w1:=o1
 clear o1
 generalize w1=w0 at*
 have HC:=Xqh (Xas (p:=1) (n:=4) o Xjb.1 (Nat.le_trans (Nat.add_le_add_right XpR _) (by decide)))
 rw[Xpl]at HC
 clear o
 go_wp2_with fail
 refine HC.out.mono ?_
 rintro e w1⟨rfl,o1⟩
 clear HC
 have o:Own w w.heap.size [.arena g XbF] w1:=o1
 clear o1
 generalize w1=w0 at*
 have HC:=Xqh (Xas (p:=1) (n:=5) o Xjc.1 (Nat.le_trans (Nat.add_le_add_right XpS _) (by decide)))
 rw[Xpm]at HC
 clear o
 go_wp2_with fail
 refine HC.out.mono ?_
 rintro e w1⟨rfl,o1⟩
 clear HC
 have o:Own w w.heap.size [.arena g XbG] w1:=o1
 clear o1
 generalize w1=w0 at*
 have HC:=Xqh (Xe0 (p:=1) (n:=5) (c:=2) o Xjd.1 (Nat.le_trans (Nat.add_le_add_right XpT _) (by decide)))
 rw[Xpn]at HC
 clear o
 go_wp2_with fail
 refine HC.out.mono ?_
 rintro e w1⟨rfl,o1⟩
 clear HC
 have o:Own w w.heap.size [.arena g XbH] w1:=o1
 clear o1
 generalize w1=w0 at*
 have HC:=Xqh (Xas (p:=2) (n:=6) o Xje.1 (Nat.le_trans (Nat.add_le_add_right XpU _) (by decide)))
 rw[Xpo]at HC
 clear o
 go_wp2_with fail
 refine HC.out.mono ?_
 rintro e w1⟨rfl,o1⟩
 clear HC
 have o:Own w w.heap.size [.arena g Jo] w1:=o1
 clear o1
 generalize w1=w0 at*
 have HC:=Xqh (XdN (b:=g) (A:=Jo) (h:=2) o (by simp) Xjg Xpp)
 clear o
 go_wp2_with fail
 refine HC.out.mono ?_
 rintro e w1⟨ka,kc,rfl,o1⟩
 clear HC
 simp only[List.length_cons,List.length_nil,Nat.zero_add,Nat.reduceAdd]at o1⊢
 have o2:=o1.alloc (.cells #[.int .i64 3,.int .i64 4] 3)
 have HC:=Xqh (XcU (.slice ka 2 kc) (.slice (some ⟨w1.heap.size,0,none⟩) 2 2) [3,4] [3,4] _ (o2.ints (by simp)) (Xbq w1 [3,4] 3 (by decide)))
 rw[show decide (([3,4]:List Int)= [3,4])=true from by{decide}]at HC
 have HO:=Xqh o2
 clear o1 o2
 go_wp2_with fail
 refine HC.out.mono ?_
 rintro e w2⟨rfl,hB⟩
 clear HC
 have o:Own w w.heap.size [.arena g Jo] w2:=(HO.out.read hB).drop.drop
 clear HO hB
 generalize w2=w0 at*
 have HC:=Xqh (XdN (b:=g) (A:=Jo) (h:=6) o (by simp) Xjg Xpq)
 clear o
 go_wp2_with fail
 refine HC.out.mono ?_
 rintro e w1⟨ka,kc,rfl,o1⟩
 clear HC
 simp only[List.length_nil]at o1⊢
 have o:Own w w.heap.size [.arena g Jo] w1:=o1.drop
 clear o1
 generalize w1=w0 at*
 have HC:=Xqh (Xh9 (h:=4) (at':=1) o XfY.1 (Nat.le_trans (Nat.add_le_add_right Xjf _) (by decide)))
 rw[Xpr,show Xl (7,0)= .tuple #[.int .i64 7,.int .i64 0]from rfl]at HC
 clear o
 go_wp2_with fail
 refine HC.out.mono ?_
 rintro e w1⟨rfl,o1⟩
 clear HC
 have o:Own w w.heap.size [.arena g Z9] w1:=o1
 clear o1
 generalize w1=w0 at*
 have HC:=Xqh (Xnw (h:=2) o Xco.1 (Nat.le_trans XfZ (by decide)) Xpx)
 rw[Xpt]at HC
 clear o
 go_wp2_with fail
 refine HC.out.mono ?_
 rintro e w1⟨rfl,o1⟩
 clear HC
 have o:Own w w.heap.size [.arena g Z9] w1:=o1
 clear o1
 generalize w1=w0 at*
 have HC:=Xqh (XdN (b:=g) (A:=Z9) (h:=2) o (by simp) XpW Xps)
 clear o
 go_wp2_with fail
 refine HC.out.mono ?_
 rintro e w1⟨ka,kc,rfl,o1⟩
 clear HC
 simp only[List.length_cons,List.length_nil,Nat.zero_add,Nat.reduceAdd]at o1⊢
 have o2:=o1.alloc (.cells #[.int .i64 3,.int .i64 4,.int .i64 7] 3)
 have HC:=Xqh (XcU (.slice ka 3 kc) (.slice (some ⟨w1.heap.size,0,none⟩) 3 3) [3,4,7] [3,4,7] _ (o2.ints (by simp)) (Xbq w1 [3,4,7] 3 (by decide)))
 rw[show decide (([3,4,7]:List Int)= [3,4,7])=true from by{decide}]at HC
 have HO:=Xqh o2
 clear o1 o2
 go_wp2_with fail
 refine HC.out.mono ?_
 rintro e w2⟨rfl,hB⟩
 clear HC
 have o:Own w w.heap.size [.arena g Z9] w2:=(HO.out.read hB).drop.drop
 clear HO hB
 generalize w2=w0 at*
 have HC:=Xqh (Xia (h:=2) o Xco.1 (Nat.le_trans XfZ (by decide)) (λy hy=>Nat.le_trans (Xmg Xco.1 hy) Xpw))
 rw[Xpu]at HC
 clear o
 go_wp2_with fail
 refine HC.out.mono ?_
 rintro e w1⟨rfl,o1⟩
 clear HC
 have o:Own w w.heap.size [.arena g XaD] w1:=o1
 clear o1
 generalize w1=w0 at*
 have HC:=Xqh (XdN (b:=g) (A:=XaD) (h:=2) o (by simp) XpX Xpv)
 clear o
 go_wp2_with fail
 refine HC.out.mono ?_
 rintro e w1⟨ka,kc,rfl,o1⟩
 clear HC
 simp only[List.length_cons,List.length_nil,Nat.zero_add,Nat.reduceAdd]at o1⊢
 have o2:=o1.alloc (.cells #[.int .i64 3,.int .i64 4] 3)
 have HC:=Xqh (XcU (.slice ka 2 kc) (.slice (some ⟨w1.heap.size,0,none⟩) 2 2) [3,4] [3,4] _ (o2.ints (by simp)) (Xbq w1 [3,4] 3 (by decide)))
 rw[show decide (([3,4]:List Int)= [3,4])=true from by{decide}]at HC
 have HO:=Xqh o2
 clear o1 o2
 go_wp2_with fail
 refine HC.out.mono ?_
 rintro e w2⟨rfl,hB⟩
 clear HC
 have o:Own w w.heap.size [.arena g XaD] w2:=(HO.out.read hB).drop.drop
 clear HO hB
 generalize w2=w0 at*
 have HO:=Xqh o
 clear o
 go_wp2
 go_ret
 exact⟨rfl,HO.out.low⟩
end
section
open Go.RowKit Go.Shelf
theorem way_mem_has {A:Ar}{up:Int->Int}:∀(path:List Int)(y:Int),A.Way up y path->∀x∈path,A.has x
 | [],_,_,x,hx=>absurd hx (by simp)
 |z::r,y,h,x,hx=>by{by_cases hy:y=0;{subst hy;have:=Xlv h;cases this};·obtain⟨r',e,h1,h2⟩:=Xlw h hy;injection e with e1 e2;subst e1 e2;rcases List.mem_cons.1 hx with rfl|hx;{exact h1};·exact way_mem_has r _ h2 x hx}
theorem root_has (hI:A.Inv)(hh:A.has h):A.has (A.root h):=by
 have hw:=hI.wf.wayPlain hh
 unfold Ar.root
 rw[if_pos hh]
 have hz:h≠0:=by have:=hh.1;omega
 obtain⟨r,e,h1,h2⟩:=Xlw hw hz
 rw[e]
 rw[e]at hw
 cases hl:(h::r).getLast? with|none=>{simp at hl}|some x=>have hm:x∈h::r:=by{rw[List.getLast?_eq_some_getLast (by simp)]at hl;injection hl with hl;rw[<-hl];exact List.getLast_mem _};exact way_mem_has _ _ hw x hm
/-- Whether a node comes before another one of its tree. -/
def Ar.treeL (A : Ar) (h : Int) : List Int := A.root h :: A.below (A.root h)
def Ar.beforeP (A : Ar) (h k : Int) : Prop := A.has h /\ A.has k /\ h ≠ k /\ A.root h = A.root k /\ Yt (λy => decide (y = h)) (A.treeL h) < Yt (λy => decide (y = k)) (A.treeL h)
instance (A : Ar) (h k : Int) : Decidable (A.beforeP h k) := inferInstanceAs (Decidable (_ /\ _))
theorem RBefore_own {w:World}{b:Nat}{L:List Xf}{k:Int}(o:Own w0 B L w)(hm:Xf.refar b A∈L)(hI:A.Inv)(hsz:A.ns.length<=100000):Calls Tryz.prog 63 #[.pointer (some ⟨b,0,none⟩),.int .i64 h,.int .i64 k] w λe w'=>e= .returned (.bool (decide (A.beforeP h k)))/\Below w.heap.size w w':=by
 have HH:=Xqh (ZG (h:=h) o hm)
 have HK:=Xqh (ZG (h:=k) o hm)
 have HR1:=Xqh (λW(q:Own w0 B L W)=>RRoot_own (h:=h) q hm hI)
 have HR2:=Xqh (λW(q:Own w0 B L W)=>RRoot_own (h:=k) q hm hI)
 by_cases hh:A.has h
 case neg=>have HF:Hid (decide (A.beforeP h k)=false):=Xqh (decide_eq_false (λq=>hh q.1));rw[decide_eq_false hh]at HH;clear hI o hm hh;generalize decide (A.beforeP h k)=G at*;go_enter Tryz.func63,Tryz.ntmps63;go_wp2_with fail;refine HH.out.mono ?_;rintro e w1⟨rfl,rfl⟩;go_wp2;go_ret;exact⟨by rw[HF.out];try rfl,Below.refl _ _⟩
 case pos=>rw[decide_eq_true hh]at HH;by_cases hk:A.has k;(case neg=>have HF:Hid (decide (A.beforeP h k)=false):=Xqh (decide_eq_false (λq=>hk q.2.1));rw[decide_eq_false hk]at HK;clear hI o hm hh hk;generalize decide (A.beforeP h k)=G at*;go_enter Tryz.func63,Tryz.ntmps63;go_wp2_with fail;refine HH.out.mono ?_;rintro e w1⟨rfl,rfl⟩;go_wp2_with fail;refine HK.out.mono ?_;rintro e w1⟨rfl,rfl⟩;go_wp2;go_ret;exact⟨by rw[HF.out];try rfl,Below.refl _ _⟩);case pos=>rw[decide_eq_true hk]at HK;by_cases hhk:h=k;(case pos=>have HF:Hid (decide (A.beforeP h k)=false):=Xqh (decide_eq_false (λq=>q.2.2.1 hhk));have z:(h==k)=true:=by{simp[hhk]};clear hI o hm hh hk hhk HR1 HR2;generalize decide (A.beforeP h k)=G at*;go_enter Tryz.func63,Tryz.ntmps63;go_wp2_with fail;refine HH.out.mono ?_;rintro e w1⟨rfl,rfl⟩;go_wp2_with fail;refine HK.out.mono ?_;rintro e w1⟨rfl,rfl⟩;go_wp2;go_ret;exact⟨by rw[HF.out];try rfl,Below.refl _ _⟩);case neg=>have z:(h==k)=false:=by{simp[hhk]};have H1:=Xqh (HR1.out _ o);have H2:=Xqh (HR2.out _ o);by_cases hr:A.root h=A.root k;(case neg=>have HF:Hid (decide (A.beforeP h k)=false):=Xqh (decide_eq_false (λq=>hr q.2.2.2.1));have z2:(A.root h !=A.root k)=true:=by{simp[hr]};clear hI o hm hh hk hhk HR1 HR2 hr;generalize decide (A.beforeP h k)=G at*;go_enter Tryz.func63,Tryz.ntmps63;go_wp2_with fail;refine HH.out.mono ?_;rintro e w1⟨rfl,rfl⟩;go_wp2_with fail;refine HK.out.mono ?_;rintro e w1⟨rfl,rfl⟩;go_wp2_with fail;refine H1.out.mono ?_;rintro e w1⟨rfl,rfl⟩;go_wp2_with fail;refine H2.out.mono ?_;rintro e w1⟨rfl,rfl⟩;go_wp2;go_ret;exact⟨by rw[HF.out];try rfl,Below.refl _ _⟩);case pos=>have z2:(A.root h !=A.root k)=false:=by{simp[hr]};have hrt:A.has (A.root h):=root_has hI hh;obtain⟨ρ,hA⟩:=o.refar hm;have HBE:=Xqh (λW(hB:Below w.heap.size w W)=>RBelow5_any A ρ b hI (by omega) (A.root h) hrt W (hA.below hB));have HF:Hid (decide (A.beforeP h k)=decide (Yt (λy=>decide (y=h)) (A.treeL h)<Yt (λy=>decide (y=k)) (A.treeL h))):=Xqh (decide_eq_decide.2 ⟨λq=>q.2.2.2.2,λq=>⟨hh,hk,hhk,hr,q⟩⟩);have hlen:(A.below (A.root h)).length<=100000:=by{have:=Xkb hI (A.root h) hrt;have:=Z3 hI (A.root h);omega};have HTL:Hid (A.treeL h=A.root h::A.below (A.root h)):=Xqh rfl;obtain⟨i0,hi,hz0,hz1,hz2⟩:=info_parts Xaf;have HI:=Xqh hi;have HO:=Xqh o;clear hI o hm hh hk hhk hr hA hrt hi H1 H2;generalize decide (A.beforeP h k)=G at*;generalize A.treeL h=T at*;generalize A.root h=r1 at*;generalize A.root k=r2 at*;generalize A.below r1=l at*;have H1:=Xqh (HR1.out _ HO.out);have H2:=Xqh (HR2.out _ HO.out);have HB1:=Xqh (Xw w (.cells #[.int .i64 r1] 3));have H3:=Xqh (HR1.out _ (HO.out.read HB1.out));have H4:=Xqh (HBE.out _ HB1.out);clear HR1 HR2 HBE;go_enter Tryz.func63,Tryz.ntmps63;go_wp2_with fail;refine HH.out.mono ?_;rintro e w1⟨rfl,rfl⟩;go_wp2_with fail;refine HK.out.mono ?_;rintro e w1⟨rfl,rfl⟩;go_wp2_with fail;refine H1.out.mono ?_;rintro e w1⟨rfl,rfl⟩;go_wp2_with fail;refine H2.out.mono ?_;rintro e w1⟨rfl,rfl⟩;go_wp2_with fail;refine H1.out.mono ?_;rintro e w1⟨rfl,rfl⟩;go_wp2_with fail;refine H3.out.mono ?_;rintro e w1⟨rfl,rfl⟩;go_wp2_with fail;refine H4.out.mono ?_;rintro e w2⟨hB2,v2,rfl,ho2⟩;have hown:(w.alloc (.cells #[.int .i64 r1] 3)).ownsRow 0 3 1 (.slice (some ⟨w.heap.size,0,none⟩) 1 1) 1 [.int .i64 r1]:=Xed (l:= [r1]) (heap_alloc_new w _) (by unfold maxLen;omega) rfl (Nat.le_refl _) (λk hk=>by have:k=0:=by{simp at hk;exact hk};subst this;rfl);have HOW:=Xqh (Z0 hown hB2);have HB2:=Xqh (HB1.out.trans (hB2.mono HB1.out.size));have ho0:=YP ho2 (Nat.zero_le _);clear hown hB2 ho2 H1 H2 H3 H4 HH HK HB1 HO;rcases XlX ho0 with⟨rfl,hn,-⟩|⟨g,gc,rfl,hcell⟩;{have hnil:l= []:=List.length_eq_zero_iff.1 hn;subst hnil;have HRI:Hid (Xy w2 (.slice (some ⟨w.heap.size,0,none⟩) 1 1) T):=Xqh (by rw[HTL.out];exact Xeu (show w2.ownsRow 0 3 1 _ [r1].length ([r1].map Xp)from HOW.out));have HA1:=Xqh (Xle _ T h w2 HRI.out);have HA2:=Xqh (Xle _ T k w2 HRI.out);clear ho0 hn;go_wp2_with(at_builtin;refine wpList_append_none _ rfl _ _ 41 rfl 0 3 i0 1 Tryz.underlying41 HI.out _ _ _ rfl HOW.out rfl ?_);generalize Yt (λy=>decide (y=h)) T=f1 at*;generalize Yt (λy=>decide (y=k)) T=f2 at*;go_wp2_with fail;refine HA1.out.mono ?_;rintro e w3⟨rfl,rfl⟩;go_wp2_with fail;refine HA2.out.mono ?_;rintro e w3⟨rfl,rfl⟩;go_wp2;go_ret;exact⟨by rw[HF.out];try rfl,HB2.out⟩};·have HCE:=Xqh hcell;clear ho0 hcell;go_wp2_with(at_builtin;refine wpList_append_own_at _ rfl _ _ 41 rfl 0 3 i0 _ 1 8 Tryz.underlying41 HI.out hz0 hz1 hz2 rfl (by decide) (.slice (some ⟨w.heap.size,0,none⟩) 1 1) 1 [.int .i64 r1] rfl HOW.out ⟨g,0,none⟩ l.length gc (l.map Xp) rfl (by simp) ?e1 ?e2 ?e3 ?e4 ?e5 ?_);(case e1=>intro q u hu;rw[Addr.add_mid,Nat.zero_add];exact HCE.out q u hu);(case e2=>intro u hu;obtain⟨y,-,rfl⟩:=List.mem_map.1 hu;rfl);(case e3=>unfold maxLen;omega);(case e4=>omega);(case e5=>exact Nat.zero_le _);intro v4 w4 hown4 hgrow4 _ _;have HB4:Hid (Below w.heap.size w w4):=Xqh (HB2.out.grown hgrow4 HB2.out.size (λq hq=>by simp[Value.ownBlock]at hq;omega));have HRI:Hid (Xy w4 v4 T):=Xqh (by rw[HTL.out];have e1:1+l.length=(r1::l).length:=by{simp;omega};have e2: [Value.int .i64 r1]++l.map Xp=(r1::l).map Xp:=by{simp[Xp]};exact Xeu (by rw[<-e1,<-e2];exact hown4));obtain⟨ya,yc,rfl⟩:=X6 hown4;have HA1:=Xqh (Xle _ T h w4 HRI.out);have HA2:=Xqh (Xle _ T k w4 HRI.out);clear hown4 hgrow4 HCE;generalize Yt (λy=>decide (y=h)) T=f1 at*;generalize Yt (λy=>decide (y=k)) T=f2 at*;go_wp2_with fail;refine HA1.out.mono ?_;rintro e w3⟨rfl,rfl⟩;go_wp2_with fail;refine HA2.out.mono ?_;rintro e w3⟨rfl,rfl⟩;go_wp2;go_ret;exact⟨by rw[HF.out];try rfl,HB4.out⟩
end
section
open Go.RowKit Go.Shelf
theorem root_top (hI:A.Inv)(hh:A.has h)(h0:(A.get h).Xd=0):A.root h=h:=by
 have hw:=hI.wf.wayPlain hh
 unfold Ar.root
 rw[if_pos hh]
 obtain⟨r,e,h1,h2⟩:=Xlw hw (by have:=hh.1;omega)
 rw[e]
 have h2':A.Way (Ye A false) 0 r:=by have:Ye A false h=0:=by{simp[Ye,h0]};rw[this]at h2;exact h2
 rw[Xlv h2']
 rfl
theorem root_up (hI:A.Inv)(hh:A.has h)(h0:(A.get h).Xd≠0):A.root h=A.root (A.get h).Xd:=by
 have hp:=(hI.wf.link h hh h0).1
 have hw:=hI.wf.wayPlain hh
 have hwp:=hI.wf.wayPlain hp
 obtain⟨r,e,h1,h2⟩:=Xlw hw (by have:=hh.1;omega)
 have h2':A.Way (Ye A false) (A.get h).Xd r:=by have:Ye A false h=(A.get h).Xd:=by{simp[Ye]};rw[this]at h2;exact h2
 have er:=XaH h2' hwp
 have hne:A.YR false (A.get h).Xd≠ []:=by intro q;rw[q]at hwp;exact h0 hwp
 unfold Ar.root
 rw[if_pos hh,if_pos hp,e,er,List.getLast?_cons_of_ne_nil hne]
theorem below_kid (hI:A.Inv):∀r,A.has r->∀p k,(p=r\/p∈A.below r)->k∈(A.get p).Xc->k∈A.below r:=by
 refine Jc hI (λr hr _ ih p k hp hk=>?_)
 rw[ZD hI hr]
 rcases hp with rfl|hp
 ·exact List.mem_flatMap.2 ⟨k,hk,by simp⟩
 ·rw[ZD hI hr]at hp;obtain⟨j,hj,hp⟩:=List.mem_flatMap.1 hp;exact List.mem_flatMap.2 ⟨j,hj,List.mem_cons.2 (.inr (ih j hj p k (List.mem_cons.1 hp) hk))⟩
theorem tree_mem' {A:Ar}(hI:A.Inv):∀(path:List Int)(h:Int),A.Way (Ye A false) h path->A.has h->h=A.root h\/h∈A.below (A.root h)
 | [],h,hw,hh=>by{have:h=0:=hw;exact absurd this (by have:=hh.1;omega)}
 |x::r,h,hw,hh=>by{obtain⟨rfl,-,hr⟩:=hw;by_cases h0:(A.get x).Xd=0;{exact .inl (root_top hI hh h0).symm};·obtain⟨l1,l2,-⟩:=hI.wf.link x hh h0;have hu:Ye A false x=(A.get x).Xd:=by{simp[Ye]};rw[hu]at hr;rw[root_up hI hh h0];exact .inr (below_kid hI _ (root_has hI l1) _ x (tree_mem' hI r _ hr l1) l2)}
theorem tree_mem (hI:A.Inv)(hh:A.has h):h∈A.treeL h:=List.mem_cons.2 (tree_mem' hI _ h (hI.wf.wayPlain hh) hh)
theorem treeL_root {k:Int}(e:A.root h=A.root k):A.treeL h=A.treeL k:=by
 unfold Ar.treeL
 rw[e]
theorem before_asymm {k:Int}(h1:A.beforeP h k):¬A.beforeP k h:=by
 intro h2
 have a:=h1.2.2.2.2
 have b:=h2.2.2.2.2
 rw[treeL_root h1.2.2.2.1]at a
 omega
theorem before_trans {k:Int}(h1:A.beforeP h k)(h2:A.beforeP k m):A.beforeP h m:=by
 have a:=h1.2.2.2.2
 have b:=h2.2.2.2.2
 rw[<-treeL_root h1.2.2.2.1]at b
 refine⟨h1.1,h2.2.1,?_,h1.2.2.2.1.trans h2.2.2.2.1,by omega⟩
 rintro rfl
 omega
theorem before_total (hI:A.Inv){k:Int}:(A.beforeP h k\/A.beforeP k h)↔A.has h/\A.has k/\h≠k/\A.root h=A.root k:=by
 constructor
 ·rintro(q|q);{exact⟨q.1,q.2.1,q.2.2.1,q.2.2.2.1⟩};·exact⟨q.2.1,q.1,λe=>q.2.2.1 e.symm,q.2.2.2.1.symm⟩
 ·rintro⟨q1,q2,q3,q4⟩;have m1:=tree_mem hI q1;have m2:=tree_mem hI q2;rw[<-treeL_root q4]at m2;obtain⟨i,e1,i1,i2,-⟩:=XcI m1;obtain⟨j,e2,j1,j2,-⟩:=XcI m2;have hij:i≠j:=by{rintro rfl;rw[i2]at j2;injection j2 with j2;exact q3 j2};rcases Nat.lt_or_ge i j with q|q;{exact .inl ⟨q1,q2,q3,q4,by rw[e1,e2];omega⟩};·refine .inr ⟨q2,q1,λe=>q3 e.symm,q4.symm,?_⟩;rw[<-treeL_root q4,e1,e2];omega
theorem before_found (hI:A.Inv){k:Int}{pre:List Int}{x:Int}(hh:A.has h)(hk:A.has k)(hne:h≠k)(hr:A.root h=A.root k)(h1:h≠A.root h)(h2:k≠A.root h)(e:A.below (A.root h)=pre++x::rest)(hp:h∉pre)(kp:k∉pre)(hx:x=h\/x=k):A.beforeP h k↔x=h:=by
 have m1:=tree_mem hI hh
 have m2:=tree_mem hI hk
 rw[<-treeL_root hr]at m2
 obtain⟨i,e1,i1,i2,-⟩:=XcI m1
 obtain⟨j,e2,j1,j2,-⟩:=XcI m2
 have key:∀(y:Int)(i:Nat),y≠A.root h->y∉pre->(A.treeL h)[i]?=some y->pre.length+1<=i:=by intro y i y1 y2 hi;rcases Nat.lt_or_ge pre.length i with q|q;{omega};·exfalso;unfold Ar.treeL at hi;rw[e]at hi;cases i with|zero=>{simp at hi;exact y1 hi.symm}|succ i=>rw[List.getElem?_cons_succ,List.getElem?_append_left (by omega)]at hi;exact y2 (List.mem_of_getElem? hi)
 have ki:=key h i h1 hp i2
 have kj:=key k j h2 kp j2
 have at':∀y:Int,y≠A.root h->y∉pre->x=y->Yt (λz=>decide (z=y)) (A.treeL h)=((pre.length+1:Nat):Int):=by rintro y y1 y2 rfl;refine Xbc (k:=pre.length+1) (x:=x) ?_ (by simp) ?_;{unfold Ar.treeL;rw[e];simp};·intro j z hj hz;unfold Ar.treeL at hz;rw[e]at hz;cases j with|zero=>{simp at hz;subst hz;simp;exact λq=>y1 q.symm}|succ j=>rw[List.getElem?_cons_succ,List.getElem?_append_left (by omega)]at hz;have:=List.mem_of_getElem? hz;simp;rintro rfl;exact y2 this
 have hij:i≠j:=by rintro rfl;rw[i2]at j2;injection j2 with j2;exact hne j2
 constructor
 ·intro q;rcases hx with hx|hx;{exact hx};·exfalso;have a:=q.2.2.2.2;rw[at' k h2 kp hx,e1]at a;omega
 ·intro q;refine⟨hh,hk,hne,hr,?_⟩;have a:=at' h h1 hp q;rw[e1]at a;rw[e1,e2];omega
theorem before_top (hI:A.Inv){k:Int}(hh:A.has h)(hk:A.has k)(hne:h≠k)(hr:A.root h=A.root k)(h1:h=A.root h\/k=A.root h):A.beforeP h k↔h=A.root h:=by
 have m1:=tree_mem hI hh
 have m2:=tree_mem hI hk
 rw[<-treeL_root hr]at m2
 obtain⟨i,e1,i1,i2,-⟩:=XcI m1
 obtain⟨j,e2,j1,j2,-⟩:=XcI m2
 have top:∀y:Int,y=A.root h->Yt (λz=>decide (z=y)) (A.treeL h)=((0:Nat):Int):=by rintro y rfl;refine Xbc (k:=0) (x:=A.root h) (by unfold Ar.treeL;simp) (by simp) (λj z hj=>by omega)
 have hij:i≠j:=by rintro rfl;rw[i2]at j2;injection j2 with j2;exact hne j2
 constructor
 ·intro q;rcases h1 with h1|h1;{exact h1};·exfalso;have a:=q.2.2.2.2;rw[top k h1,e1]at a;omega
 ·intro q;refine⟨hh,hk,hne,hr,?_⟩;have a:=top h q;rw[e1]at a;rw[e1,e2];omega
end
section
open Go.RowKit Go.Shelf Classical
theorem RootI_own {w:World}{b:Nat}(o:Own w0 B l w)(hm:Xf.arena b A∈l)(hI:A.Inv):Calls Tryz.prog 80 #[.pointer (some ⟨b,0,none⟩),.int .i64 h] w λe w'=>e= .returned (.int .i64 (A.root h))/\Own w0 B l w':=by
 obtain⟨ρ,hA⟩:=o.arena hm
 refine(Root_all A ρ b h w hA hI.wf).mono ?_
 rintro e w'⟨rfl,hB⟩
 exact⟨rfl,o.read hB⟩
def nx : List Bool -> Nat
  | true :: l => nx l + 1
  | _ => 0
theorem takeN {P:Program}{md:Region.Mode}{S:World->Prop}(k:Nat){i:Nat}{oi:Oper}{listed:Array Bool}{w:World}(hn:nx listed.toList+k=i)(hi:ops[i]?=some oi)(hc:(Region.noSelect ops&&(Region.free md ops listed i&&(Region.ready md ops listed).contains i))=true)(hQ:∀v c a w,Q (.panic c) (a.put oi.dst v) w->Q (.panic c) a w)(hS:S w)(h:∃v,YieldsIf P ops S oi v a/\wpAnyH P md ops Q S fuel (listed.setIfInBounds i true) (a.put oi.dst v) w):wpAnyH P md ops Q S (fuel+1) listed a w:=by
 obtain⟨v,h1,h2⟩:=h
 simp only[Bool.and_eq_true]at hc
 exact wpAnyH_take hi hc.1 hc.2.1 hc.2.2 (hQ v) h1 hS h2
attribute [local go_sem] Oper.semAt_some
theorem Before_flat {w:World}{b:Nat}{L:List Xf}{k:Int}(o:Own w0 B L w)(hm:Xf.arena b A∈L)(hI:A.Inv)(hs:A.ns.length<=100000)(hc:¬(A.has h/\A.has k)\/(A.has h/\A.has k)/\h=k):Calls Tryz.prog 62 #[.pointer (some ⟨b,0,none⟩),.int .i64 h,.int .i64 k] w λe w'=>e= .returned (.bool (decide (A.beforeP h k)))/\Own w0 B L w':=by
 have HSh:=hI.short (show A.ns.length<=1000000 by omega)
 have HF:Hid (decide (A.beforeP h k)=false):=Xqh (decide_eq_false (λq=>hc.elim (λz=>z ⟨q.1,q.2.1⟩) (λz=>q.2.2.1 z.2)))
 have o0:=((o.alloc (.cells #[.int .i64 h] 3)).alloc (.cells #[.int .i64 k] 3)).alloc (.cells #[.bool false] 4)
 simp only[World.size_alloc]at o0
 obtain⟨S,hS⟩:∃S:World->Prop,∀W,S W↔(W.cell? ⟨w.heap.size,0,none⟩=some (.int .i64 h)/\W.cell? ⟨w.heap.size+1,0,none⟩=some (.int .i64 k)):=⟨λW=>_,λ_=>Iff.rfl⟩
 have SD:=Xqh hS
 have KS:∀(l:List Xf)(W:World),Own w0 B l W->Xf.box w.heap.size (.cells #[.int .i64 h] 3 (0,0))∈l->Xf.box (w.heap.size+1) (.cells #[.int .i64 k] 3 (0,0))∈l->S W:=λl W o h1 h2=>(hS W).2 ⟨XD (o.box (g:=w.heap.size) (o:= .cells #[.int .i64 h] 3 (0,0)) h1),XD (o.box (g:=w.heap.size+1) (o:= .cells #[.int .i64 k] 3 (0,0)) h2)⟩
 clear hS hs o
 have HC:∃er,(er=3\/er=0/\(h==k)=true)/\Hid (∀W,Own w0 B (.box (w.heap.size+1+1) (.cells #[.bool false] 4 (0,0)):: .box (w.heap.size+1) (.cells #[.int .i64 k] 3 (0,0)):: .box w.heap.size (.cells #[.int .i64 h] 3 (0,0))::L) W->Calls Tryz.prog 89 #[.pointer (some ⟨b,0,none⟩),.int .i64 (-1),.slice (some ⟨W.heap.size,0,none⟩) 2 2] (W.alloc (.cells #[.int .i64 h,.int .i64 k] 3)) λe w'=>e= .returned (.int .i64 er)/\Own w0 B (.box (w.heap.size+1+1) (.cells #[.bool false] 4 (0,0)):: .box (w.heap.size+1) (.cells #[.int .i64 k] 3 (0,0)):: .box w.heap.size (.cells #[.int .i64 h] 3 (0,0))::L) w'):=by rcases hc with hh|⟨hh,hne⟩;{exact⟨3,.inl rfl,Xqh (λW q=>Xbr (opt:= -1) (x:=h) (y:=k) q (b:=b) (A:=A) (by simp[hm]) HSh (Xc6.trans (if_neg hh)))⟩};·exact⟨0,.inr ⟨rfl,by simp[hne]⟩,Xqh (λW q=>Xbr (opt:= -1) (x:=h) (y:=k) q (b:=b) (A:=A) (by simp[hm]) HSh (Xc6.trans (if_pos hh)))⟩
 clear hI HSh hc
 obtain⟨er,rfl|⟨rfl,ehk⟩,HC⟩:=HC
 all_goals go_enter Tryz.func62,Tryz.ntmps62;go_wp2_with fail;generalize hWA:((w.alloc (.cells #[.int .i64 h] 3)).alloc (.cells #[.int .i64 k] 3)).alloc (.cells #[.bool false] 4)=WA at o0⊢;clear hWA;have o1:=o0.read (Below.drew (Below.refl WA.heap.size WA));clear o0;have HSS0:=Xqh (KS _ _ o1 (by simp) (by simp));refine wp_region_noPanic ?_;refine wp_region_held (S:=S) (by kernel_rfl) ?_;change wpAnyH _ _ _ _ _ _ _ _ (World.drew WA);(refine takeN 0 (i:=0) (by rfl) (by rfl) (by kernel_rfl) (λ_ _ _ _ h=>h) HSS0.out ?_;apply Exists.intro;(refine⟨Or.inl ⟨by rfl,λww hww=>?_⟩,?_⟩;·(obtain⟨s0,s1⟩:=(SD.out ww).1 hww;go_simp;try rfl));simp only[List.length_cons,List.length_nil,Array.replicate_succ,Array.replicate_zero,List.size_toArray,Nat.reduceAdd,List.push_toArray,List.nil_append,List.cons_append,List.getElem_toArray,List.getElem_cons_zero,Act.put,List.setIfInBounds_toArray,List.set_cons_zero,List.set_cons_succ]);(iterate 2(refine takeN 0 (by simp only[nx,Nat.reduceAdd];exact rfl) (by rfl) (by kernel_rfl) (λ_ _ _ _ h=>h) HSS0.out ?_;apply Exists.intro;(refine⟨Or.inl ⟨by rfl,λww hww=>?_⟩,?_⟩;·(obtain⟨s0,s1⟩:=(SD.out ww).1 hww;go_simp;try rfl));try simp only[List.getElem_toArray,List.getElem_cons_succ,List.getElem_cons_zero,Act.put,List.setIfInBounds_toArray,List.set_cons_zero,List.set_cons_succ]));refine wpAnyH_all (rs:= [3]) (by kernel_rfl) (by simp) ?_;intro i hi;obtain rfl:i=3:=by{simpa using hi};clear hi;unfold wpOp;go_simp;(try left);have o2:=o1.alloc (.cells #[.int .i64 h,.int .i64 k] 3);have HSS0_1:=Xqh (KS _ _ o2 (by simp) (by simp));refine⟨HSS0_1.out,?_⟩;(try simp only[List.getElem_toArray,List.getElem_cons_succ,List.getElem_cons_zero,Act.put,List.setIfInBounds_toArray,List.set_cons_zero,List.set_cons_succ]);refine wpAnyH_all (rs:= [4]) (by kernel_rfl) (by simp) ?_;intro i hi;obtain rfl:i=4:=by{simpa using hi};clear hi;unfold wpOp;go_simp;(try left);refine(HC.out _ o1).mono ?_;rintro e w2⟨rfl,o3⟩;clear o1 o2;have HSS0_2:=Xqh (KS _ _ o3 (by simp) (by simp));refine⟨HSS0_2.out,?_⟩;(try simp only[List.getElem_toArray,List.getElem_cons_succ,List.getElem_cons_zero,Act.put,List.setIfInBounds_toArray,List.set_cons_zero,List.set_cons_succ]);(iterate 15(refine takeN 0 (by simp only[nx,Nat.reduceAdd];exact rfl) (by rfl) (by kernel_rfl) (λ_ _ _ _ h=>h) HSS0_2.out ?_;apply Exists.intro;(first|(refine⟨Or.inr ⟨by rfl,rfl⟩,?_⟩)|(refine⟨Or.inl ⟨by rfl,λww hww=>?_⟩,?_⟩;·(obtain⟨s0,s1⟩:=(SD.out ww).1 hww;go_simp;try rfl)));try simp only[List.getElem_toArray,List.getElem_cons_succ,List.getElem_cons_zero,Act.put,List.setIfInBounds_toArray,List.set_cons_zero,List.set_cons_succ]));refine wpAnyH_done (by kernel_rfl) ?_ _;refine NoPanic.normal ?_;have k2:=XD (o3.box (g:=w.heap.size+1+1) (o:= .cells #[.bool false] 4 (0,0)) (by simp));have f2:=Xbf (o3.box (g:=w.heap.size+1+1) (o:= .cells #[.bool false] 4 (0,0)) (by simp));have h2:=XD (one_setCell (u:= .bool false) (o3.box (g:=w.heap.size+1+1) (o:= .cells #[.bool false] 4 (0,0)) (by simp)));have HO:=Xqh ((o3.J4 (u:= .bool false)).drop.drop.drop);clear SD KS HSS0 HSS0_1 HSS0_2 o3 HC;go_wp2;rw[HF.out];refine bodyPost_ret (v:= .bool false) (by simp[results,Tryz.f62,go_sem,h2]) rfl ⟨rfl,HO.out⟩
theorem Before_diff {w:World}{b:Nat}{L:List Xf}{k:Int}(o:Own w0 B L w)(hm:Xf.arena b A∈L)(hI:A.Inv)(hs:A.ns.length<=100000)(hh:A.has h/\A.has k)(hne:h≠k):Calls Tryz.prog 62 #[.pointer (some ⟨b,0,none⟩),.int .i64 h,.int .i64 k] w λe w'=>e= .returned (.bool (decide (A.beforeP h k)))/\Own w0 B L w':=by
 have HSh:=hI.short (show A.ns.length<=1000000 by omega)
 have HC:=Xqh (λW(q:Own w0 B (.box (w.heap.size+1+1) (.cells #[.bool false] 4 (0,0)):: .box (w.heap.size+1) (.cells #[.int .i64 k] 3 (0,0)):: .box w.heap.size (.cells #[.int .i64 h] 3 (0,0))::L) W)=>Xbr (opt:= -1) (x:=h) (y:=k) q (b:=b) (A:=A) (by simp[hm]) HSh (Xc6.trans (if_pos hh)))
 have HF1:Hid (A.root h≠A.root k->decide (A.beforeP h k)=false):=Xqh (λhr=>decide_eq_false (λq=>hr q.2.2.2.1))
 have HF2:Hid (A.root h=A.root k->(h=A.root h\/k=A.root h)->decide (A.beforeP h k)=decide (h=A.root h)):=Xqh (λhr ht=>decide_eq_decide.2 (before_top hI hh.1 hh.2 hne hr ht))
 have HFO:=Xqh (fun(hr:A.root h=A.root k)(ht:h≠A.root h)(ht2:k≠A.root h)pre x rest(e:A.below (A.root h)=pre++x::rest)hp kp hx=>before_found hI hh.1 hh.2 hne hr ht ht2 e hp kp hx)
 have ehk:(h==k)=false:=by simp[hne]
 have hrt:A.has (A.root h):=root_has hI hh.1
 have HTR:Hid (A.Tree A/\A.Inv/\A.ns.length<=1000000):=Xqh ⟨Ar.Tree.refl _,hI,by omega⟩
 have HEND:Hid (h≠A.root h->h∈A.below (A.root h)):=Xqh (λht=>(tree_mem' hI _ h (hI.wf.wayPlain hh.1) hh.1).resolve_left ht)
 have hseq:=fun(ab hb:Nat)=>XeW (ab:=ab) (hb:=hb) (b:=b) hI hs hrt w0 B 7
 have HR1:=Xqh (fun(l:List Xf)W(q:Own w0 B l W)(hm:Xf.arena b A∈l)=>RootI_own (h:=h) q hm hI)
 have HR2:=Xqh (fun(l:List Xf)W(q:Own w0 B l W)(hm:Xf.arena b A∈l)=>RootI_own (h:=k) q hm hI)
 generalize A.root h=rh at*
 generalize A.root k=rk at*
 generalize hres:decide (A.beforeP h k)=res at*
 have HRES:=Xqh hres
 clear hres
 have o0:=((o.alloc (.cells #[.int .i64 h] 3)).alloc (.cells #[.int .i64 k] 3)).alloc (.cells #[.bool false] 4)
 simp only[World.size_alloc]at o0
 obtain⟨S,hS⟩:∃S:World->Prop,∀W,S W↔(W.cell? ⟨w.heap.size,0,none⟩=some (.int .i64 h)/\W.cell? ⟨w.heap.size+1,0,none⟩=some (.int .i64 k)):=⟨λW=>_,λ_=>Iff.rfl⟩
 have SD:=Xqh hS
 have KS:∀(l:List Xf)(W:World),Own w0 B l W->Xf.box w.heap.size (.cells #[.int .i64 h] 3 (0,0))∈l->Xf.box (w.heap.size+1) (.cells #[.int .i64 k] 3 (0,0))∈l->S W:=λl W o h1 h2=>(hS W).2 ⟨XD (o.box (g:=w.heap.size) (o:= .cells #[.int .i64 h] 3 (0,0)) h1),XD (o.box (g:=w.heap.size+1) (o:= .cells #[.int .i64 k] 3 (0,0)) h2)⟩
 clear hS hI hs HSh hh o hne hrt
 refine(callsIn_wide (n:=8)).1 ?_
 refine callsIn_of_wp_marks Tryz.func62 rfl trivial ?_ rfl
 simp only[Tryz.ntmps62,List.size_toArray,List.length_cons,List.length_nil,Nat.reduceAdd,Nat.reduceSub,Array.replicate_succ,Array.replicate_zero,List.push_toArray,List.append_toArray,List.nil_append,List.cons_append]
 refine wpIn_wide.2 ?_
 go_wp2_with fail
 generalize hWA:((w.alloc (.cells #[.int .i64 h] 3)).alloc (.cells #[.int .i64 k] 3)).alloc (.cells #[.bool false] 4)=WA at o0⊢
 clear hWA
 have o1:=o0.read (Below.drew (Below.refl WA.heap.size WA))
 clear o0
 have HSS0:=Xqh (KS _ _ o1 (by simp) (by simp))
 refine wp_region_noPanic ?_
 refine wp_region_held (S:=S) (by kernel_rfl) ?_
 change wpAnyH _ _ _ _ _ _ _ _ (World.drew WA)
 (refine takeN 0 (i:=0) (by rfl) (by rfl) (by kernel_rfl) (λ_ _ _ _ h=>h) HSS0.out ?_;apply Exists.intro;(refine⟨Or.inl ⟨by rfl,λww hww=>?_⟩,?_⟩;·(obtain⟨s0,s1⟩:=(SD.out ww).1 hww;go_simp;try rfl));simp only[List.length_cons,List.length_nil,Array.replicate_succ,Array.replicate_zero,List.size_toArray,Nat.reduceAdd,List.push_toArray,List.nil_append,List.cons_append,List.getElem_toArray,List.getElem_cons_zero,Act.put,List.setIfInBounds_toArray,List.set_cons_zero,List.set_cons_succ])
 iterate 2(refine takeN 0 (by simp only[nx,Nat.reduceAdd];exact rfl) (by rfl) (by kernel_rfl) (λ_ _ _ _ h=>h) HSS0.out ?_;apply Exists.intro;(refine⟨Or.inl ⟨by rfl,λww hww=>?_⟩,?_⟩;·(obtain⟨s0,s1⟩:=(SD.out ww).1 hww;go_simp;try rfl));try simp only[List.getElem_toArray,List.getElem_cons_succ,List.getElem_cons_zero,Act.put,List.setIfInBounds_toArray,List.set_cons_zero,List.set_cons_succ])
 refine wpAnyH_all (rs:= [3]) (by kernel_rfl) (by simp) ?_
 intro i hi
 obtain rfl:i=3:=by simpa using hi
 clear hi
 unfold wpOp
 go_simp
 try left
 have o2:=o1.alloc (.cells #[.int .i64 h,.int .i64 k] 3)
 have HSS0_1:=Xqh (KS _ _ o2 (by simp) (by simp))
 refine⟨HSS0_1.out,?_⟩
 try simp only[List.getElem_toArray,List.getElem_cons_succ,List.getElem_cons_zero,Act.put,List.setIfInBounds_toArray,List.set_cons_zero,List.set_cons_succ]
 refine wpAnyH_all (rs:= [4]) (by kernel_rfl) (by simp) ?_
 intro i hi
 obtain rfl:i=4:=by simpa using hi
 clear hi
 unfold wpOp
 go_simp
 try left
 refine(HC.out _ o1).mono ?_
 rintro e w2⟨rfl,o3⟩
 clear o1 o2
 have HSS0_2:=Xqh (KS _ _ o3 (by simp) (by simp))
 refine⟨HSS0_2.out,?_⟩
 try simp only[List.getElem_toArray,List.getElem_cons_succ,List.getElem_cons_zero,Act.put,List.setIfInBounds_toArray,List.set_cons_zero,List.set_cons_succ]
 iterate 9(refine takeN 0 (by simp only[nx,Nat.reduceAdd];exact rfl) (by rfl) (by kernel_rfl) (λ_ _ _ _ h=>h) HSS0_2.out ?_;apply Exists.intro;(refine⟨Or.inl ⟨by rfl,λww hww=>?_⟩,?_⟩;·(obtain⟨s0,s1⟩:=(SD.out ww).1 hww;go_simp;try rfl));try simp only[List.getElem_toArray,List.getElem_cons_succ,List.getElem_cons_zero,Act.put,List.setIfInBounds_toArray,List.set_cons_zero,List.set_cons_succ])
 refine takeN 1 (by simp only[nx,Nat.reduceAdd];exact rfl) (by rfl) (by kernel_rfl) (λ_ _ _ _ h=>h) HSS0_2.out ?_
 apply Exists.intro
 (refine⟨Or.inl ⟨by rfl,λww hww=>?_⟩,?_⟩;·(obtain⟨s0,s1⟩:=(SD.out ww).1 hww;go_simp;try rfl))
 try simp only[List.getElem_toArray,List.getElem_cons_succ,List.getElem_cons_zero,Act.put,List.setIfInBounds_toArray,List.set_cons_zero,List.set_cons_succ]
 refine takeN 2 (by simp only[nx,Nat.reduceAdd];exact rfl) (by rfl) (by kernel_rfl) (λ_ _ _ _ h=>h) HSS0_2.out ?_
 apply Exists.intro
 (refine⟨Or.inl ⟨by rfl,λww hww=>?_⟩,?_⟩;·(obtain⟨s0,s1⟩:=(SD.out ww).1 hww;go_simp;try rfl))
 try simp only[List.getElem_toArray,List.getElem_cons_succ,List.getElem_cons_zero,Act.put,List.setIfInBounds_toArray,List.set_cons_zero,List.set_cons_succ]
 refine wpAnyH_all (rs:= [14]) (by kernel_rfl) (by simp) ?_
 intro i hi
 obtain rfl:i=14:=by simpa using hi
 clear hi
 unfold wpOp
 go_simp
 try left
 refine(HR1.out _ _ o3 (by simp[hm])).mono ?_
 rintro e w3⟨rfl,o4⟩
 clear o3
 have HSS0_3:=Xqh (KS _ _ o4 (by simp) (by simp))
 refine⟨HSS0_3.out,?_⟩
 try simp only[List.getElem_toArray,List.getElem_cons_succ,List.getElem_cons_zero,Act.put,List.setIfInBounds_toArray,List.set_cons_zero,List.set_cons_succ]
 refine wpAnyH_all (rs:= [17]) (by kernel_rfl) (by simp) ?_
 intro i hi
 obtain rfl:i=17:=by simpa using hi
 clear hi
 unfold wpOp
 go_simp
 try left
 refine(HR2.out _ _ o4 (by simp[hm])).mono ?_
 rintro e w4⟨rfl,o5⟩
 clear o4
 have HSS0_4:=Xqh (KS _ _ o5 (by simp) (by simp))
 refine⟨HSS0_4.out,?_⟩
 try simp only[List.getElem_toArray,List.getElem_cons_succ,List.getElem_cons_zero,Act.put,List.setIfInBounds_toArray,List.set_cons_zero,List.set_cons_succ]
 iterate 2(refine takeN 0 (by simp only[nx,Nat.reduceAdd];exact rfl) (by rfl) (by kernel_rfl) (λ_ _ _ _ h=>h) HSS0_4.out ?_;apply Exists.intro;(refine⟨Or.inl ⟨by rfl,λww hww=>?_⟩,?_⟩;·(obtain⟨s0,s1⟩:=(SD.out ww).1 hww;go_simp;try rfl));try simp only[List.getElem_toArray,List.getElem_cons_succ,List.getElem_cons_zero,Act.put,List.setIfInBounds_toArray,List.set_cons_zero,List.set_cons_succ])
 refine wpAnyH_done (by kernel_rfl) ?_ _
 refine NoPanic.normal ?_
 have HO5:=Xqh o5
 clear SD KS HSS0 HSS0_1 HSS0_2 HSS0_3 HSS0_4 o5 HC HR2
 by_cases hr:rh=rk
 case neg=>have erk:(rh !=rk)=true:=by{simp[hr]};have HV:=Xqh (HF1.out hr);clear HF1 HF2 HFO HEND HTR HRES hseq HR1 hr;have k2:=XD ((HO5.out).box (g:=w.heap.size+1+1) (o:= .cells #[.bool false] 4 (0,0)) (by simp));have f2:=Xbf ((HO5.out).box (g:=w.heap.size+1+1) (o:= .cells #[.bool false] 4 (0,0)) (by simp));have h2:=XD (one_setCell (u:= .bool false) ((HO5.out).box (g:=w.heap.size+1+1) (o:= .cells #[.bool false] 4 (0,0)) (by simp)));have HO:=Xqh (((HO5.out).J4 (u:= .bool false)).drop.drop.drop);go_wp2;refine⟨.bool false,by simp[results,Tryz.f62,go_sem,h2],?_⟩;exact⟨by rw[HV.out],HO.out⟩
 case pos=>have erk:(rh !=rk)=false:=by{simp[hr]};have g0:=XD (HO5.out.box (g:=w.heap.size) (o:= .cells #[.int .i64 h] 3 (0,0)) (by simp));have g1:=XD (HO5.out.box (g:=w.heap.size+1) (o:= .cells #[.int .i64 k] 3 (0,0)) (by simp));have HRR:=Xqh hr;clear hr HF1;go_wp2_with fail;refine(HR1.out _ _ HO5.out (by simp[hm])).mono ?_;rintro e w5⟨rfl,o6⟩;clear HR1 HO5 g0 g1;have g0:=XD (o6.box (g:=w.heap.size) (o:= .cells #[.int .i64 h] 3 (0,0)) (by simp));have g1:=XD (o6.box (g:=w.heap.size+1) (o:= .cells #[.int .i64 k] 3 (0,0)) (by simp));by_cases e1:h=rh;(case pos=>have e2:(h==rh)=true:=by{simp[e1]};have HV:=Xqh ((HF2.out HRR.out (.inl e1)).trans (decide_eq_true e1));clear HF2 HFO HEND HTR HRES hseq e1 HRR;have k2:=XD ((o6).box (g:=w.heap.size+1+1) (o:= .cells #[.bool false] 4 (0,0)) (by simp));have f2:=Xbf ((o6).box (g:=w.heap.size+1+1) (o:= .cells #[.bool false] 4 (0,0)) (by simp));have h2:=XD (one_setCell (u:= .bool true) ((o6).box (g:=w.heap.size+1+1) (o:= .cells #[.bool false] 4 (0,0)) (by simp)));have HO:=Xqh (((o6).J4 (u:= .bool true)).drop.drop.drop);go_wp2;refine⟨.bool true,by simp[results,Tryz.f62,go_sem,h2],?_⟩;exact⟨by rw[HV.out],HO.out⟩);case neg=>have eh:(h==rh)=false:=by{simp[e1]};by_cases e3:k=rh;(case pos=>have e4:(k==rh)=true:=by{simp[e3]};have HV:=Xqh ((HF2.out HRR.out (.inr e3)).trans (decide_eq_false e1));clear HF2 HFO HEND HTR HRES hseq e1 e3 HRR;have k2:=XD ((o6).box (g:=w.heap.size+1+1) (o:= .cells #[.bool false] 4 (0,0)) (by simp));have f2:=Xbf ((o6).box (g:=w.heap.size+1+1) (o:= .cells #[.bool false] 4 (0,0)) (by simp));have h2:=XD (one_setCell (u:= .bool false) ((o6).box (g:=w.heap.size+1+1) (o:= .cells #[.bool false] 4 (0,0)) (by simp)));have HO:=Xqh (((o6).J4 (u:= .bool false)).drop.drop.drop);go_wp2;refine⟨.bool false,by simp[results,Tryz.f62,go_sem,h2],?_⟩;exact⟨by rw[HV.out],HO.out⟩);case neg=>have ek:(k==rh)=false:=by{simp[e3]};replace HFO:=Xqh (HFO.out HRR.out e1 e3);replace HEND:=Xqh (HEND.out e1);clear HF2 HRR e1 e3;go_wp2_with fail;refine(XeV b rh _).mono ?_;rintro e w6⟨rfl,rfl⟩;have o7:=(o6.alloc (.cells #[.pointer (some ⟨b,0,none⟩)] 23)).alloc (.cells #[.int .i64 rh] 3);simp only[World.size_alloc]at o7;have hseq:=hseq w5.heap.size (w5.heap.size+1);clear o6 g0 g1;go_wp2_with fail;refine wpIn_wide.1 (XeP (n:=8) (α:=Int) rfl (by omega) (gf:=181) (lb:= #[.pointer (some ⟨w5.heap.size,0,none⟩),.pointer (some ⟨w5.heap.size+1,0,none⟩)]) rfl trivial (enters_of Tryz.func181 (by kernel_rfl) rfl) (Rd:=Xbn A b w5.heap.size (w5.heap.size+1) rh) XeU hseq (λ_=>rfl) o7 (λpre L'=>(h∉pre/\k∉pre)/\L'= .box (w5.heap.size+1) (.cells #[.int .i64 rh] 3 (0,0)):: .box w5.heap.size (.cells #[.pointer (some ⟨b,0,none⟩)] 23 (0,0)):: .box (w.heap.size+1+1) (.cells #[.bool false] 4 (0,0)):: .box (w.heap.size+1) (.cells #[.int .i64 k] 3 (0,0)):: .box w.heap.size (.cells #[.int .i64 h] 3 (0,0))::L) (λc pre L'=>c= .ret/\L'= .box (w5.heap.size+1) (.cells #[.int .i64 rh] 3 (0,0)):: .box w5.heap.size (.cells #[.pointer (some ⟨b,0,none⟩)] 23 (0,0)):: .box (w.heap.size+1+1) (.cells #[.bool res] 4 (0,0)):: .box (w.heap.size+1) (.cells #[.int .i64 k] 3 (0,0)):: .box w.heap.size (.cells #[.int .i64 h] 3 (0,0))::L) ?hLR ⟨⟨by simp,by simp⟩,rfl⟩ ?a1 ?assign ?body ?done ?stop);(case assign=>intro l' x W' K hK;gi_wp2;exact hK);(case hLR=>rintro pre L'⟨-,rfl⟩;exact⟨by simp,by simp,_,by simp[hm],HTR.out⟩);(case body=>rintro l' G f pre x W' L'⟨rest,hrest⟩⟨⟨hp,kp⟩,rfl⟩o;have g0:=XD (o.box (g:=w.heap.size) (o:= .cells #[.int .i64 h] 3 (0,0)) (by simp));have g1:=XD (o.box (g:=w.heap.size+1) (o:= .cells #[.int .i64 k] 3 (0,0)) (by simp));have k2:=XD (o.box (g:=w.heap.size+1+1) (o:= .cells #[.bool false] 4 (0,0)) (by simp));have f2:=Xbf (o.box (g:=w.heap.size+1+1) (o:= .cells #[.bool false] 4 (0,0)) (by simp));have hF:=HFO.out pre x rest (by rw[hrest];simp) hp kp;by_cases e1:x=h;{have e1':(x==h)=true:=by{simp[e1]};have hv:res=true:=HRES.out.symm.trans (decide_eq_true ((hF (.inl e1)).2 e1));have HK:=Xqh (((o.pick 3 rfl).J4 (u:= .bool true)).lay (l:= .keep G f:: .box (w5.heap.size+1) (.cells #[.int .i64 rh] 3 (0,0)):: .box w5.heap.size (.cells #[.pointer (some ⟨b,0,none⟩)] 23 (0,0)):: .box (w.heap.size+1+1) (.cells #[.bool true] 4 (0,0)):: .box (w.heap.size+1) (.cells #[.int .i64 k] 3 (0,0)):: .box w.heap.size (.cells #[.int .i64 h] 3 (0,0))::L) 3 rfl rfl);have HV:=Xqh hv;clear o hF hseq o7 e1 hv;gi_wp2;exact⟨_,⟨rfl,by rw[HV.out]⟩,HK.out⟩};·have e1':(x==h)=false:=by{simp[e1]};by_cases e2:x=k;{have e2':(x==k)=true:=by{simp[e2]};have hv:res=false:=HRES.out.symm.trans (decide_eq_false (λq=>e1 ((hF (.inr e2)).1 q)));have HK:=Xqh (((o.pick 3 rfl).J4 (u:= .bool false)).lay (l:= .keep G f:: .box (w5.heap.size+1) (.cells #[.int .i64 rh] 3 (0,0)):: .box w5.heap.size (.cells #[.pointer (some ⟨b,0,none⟩)] 23 (0,0)):: .box (w.heap.size+1+1) (.cells #[.bool false] 4 (0,0)):: .box (w.heap.size+1) (.cells #[.int .i64 k] 3 (0,0)):: .box w.heap.size (.cells #[.int .i64 h] 3 (0,0))::L) 3 rfl rfl);have HV:=Xqh hv;clear o hF hseq o7 e1 e2 hv;gi_wp2;exact⟨_,⟨rfl,by rw[HV.out]⟩,HK.out⟩};·have e2':(x==k)=false:=by{simp[e2]};have HK:=Xqh o;have HN:Hid (h∉pre++ [x]/\k∉pre++ [x]):=Xqh ⟨by simp[hp];exact λq=>e1 q.symm,by simp[kp];exact λq=>e2 q.symm⟩;clear o hF hseq o7 e1 e2;gi_wp2;exact⟨_,⟨HN.out,rfl⟩,HK.out⟩);(case done=>rintro xs W' L' rfl⟨⟨hp,kp⟩,rfl⟩o;simp only[World.size_alloc]at o;have hv:res=false:=absurd HEND.out hp;have k2:=XD (o.box (g:=w.heap.size+1+1) (o:= .cells #[.bool false] 4 (0,0)) (by simp));have f2:=Xbf (o.box (g:=w.heap.size+1+1) (o:= .cells #[.bool false] 4 (0,0)) (by simp));have oo:=((o.pick 3 rfl).J4 (u:= .bool false)).lay (l:= .box (w5.heap.size+1+1) (.deferred (some [])):: .box (w5.heap.size+1) (.cells #[.int .i64 rh] 3 (0,0)):: .box w5.heap.size (.cells #[.pointer (some ⟨b,0,none⟩)] 23 (0,0)):: .box (w.heap.size+1+1) (.cells #[.bool false] 4 (0,0)):: .box (w.heap.size+1) (.cells #[.int .i64 k] 3 (0,0)):: .box w.heap.size (.cells #[.int .i64 h] 3 (0,0))::L) 3 rfl rfl;have hD:=oo.box (g:=w5.heap.size+1+1) (o:= .deferred (some [])) (by simp);have o20:=oo.Xak (ZT (.deferred none) rfl) (World.putObj_heap_same (lt_of_block hD));have h2:=XD (o20.box (g:=w.heap.size+1+1) (o:= .cells #[.bool false] 4 (0,0)) (by simp));have HO:=Xqh o20.drop.drop.drop.drop.drop.drop;clear o oo o20 hseq o7;go_wp2;simp only[World.size_alloc];refine⟨by simp,.inl ⟨_,_,rfl,run_takeDeferred hD,?_⟩⟩;refine⟨.bool false,by simp[results,Tryz.f62,go_sem,h2],?_⟩;exact⟨by rw[hv],HO.out⟩);case stop=>rintro c pre W' L'-⟨rfl,rfl⟩o;simp only[World.size_alloc]at o;have hD:=o.box (g:=w5.heap.size+1+1) (o:= .deferred (some [])) (by simp);have o20:=o.Xak (ZT (.deferred none) rfl) (World.putObj_heap_same (lt_of_block hD));have h2:=XD (o20.box (g:=w.heap.size+1+1) (o:= .cells #[.bool res] 4 (0,0)) (by simp));have HO:=Xqh o20.drop.drop.drop.drop.drop.drop;clear o o20 hseq o7;gi_wp2;simp only[World.size_alloc];refine⟨by simp,.inl ⟨_,_,rfl,run_takeDeferred hD,?_⟩⟩;refine⟨.bool res,by simp[results,Tryz.f62,go_sem,h2],?_⟩;exact⟨rfl,HO.out⟩
theorem Before_own {w:World}{b:Nat}{L:List Xf}{k:Int}(o:Own w0 B L w)(hm:Xf.arena b A∈L)(hI:A.Inv)(hs:A.ns.length<=100000):Calls Tryz.prog 62 #[.pointer (some ⟨b,0,none⟩),.int .i64 h,.int .i64 k] w λe w'=>e= .returned (.bool (decide (A.beforeP h k)))/\Own w0 B L w':=by
 by_cases hh:A.has h/\A.has k
 ·by_cases hne:h=k;{exact Before_flat o hm hI hs (.inr ⟨hh,hne⟩)};·exact Before_diff o hm hI hs hh hne
 ·exact Before_flat o hm hI hs (.inl hh)
end
section
open Go.RowKit Go.Shelf Classical
theorem DomOrders_no (v:Value)(l:List OpD)(h k m:Int)(w:World)(hv:JW w v l)(hs:¬Jj l 100):Calls Tryz.prog 12 #[v,.int .i64 h,.int .i64 k,.int .i64 m] w λe w'=>e= .returned (.bool true)/\Below w.heap.size w w':=by
 have HS:=Xqh (XdA v l 100 w hv)
 have HD:=Xqh (show decide (Jj l 100)=false from decide_eq_false hs)
 obtain⟨av,cv,rfl,-⟩:=hv
 go_enter Tryz.func12,Tryz.ntmps12
 go_wp2_with fail
 refine HS.out.mono ?_
 rintro e w1⟨rfl,hB1⟩
 rw[HD.out]
 go_wp2_with fail
 refine(XdO w1).mono ?_
 rintro e w2⟨rfl,hB2⟩
 go_wp2
 go_ret
 exact⟨rfl,hB1.trans (hB2.mono hB1.size)⟩
theorem DomOrders_any (v:Value)(l:List OpD)(h k m:Int)(w:World)(hv:JW w v l):Calls Tryz.prog 12 #[v,.int .i64 h,.int .i64 k,.int .i64 m] w λe w'=>e= .returned (.bool true)/\Below w.heap.size w w':=by
 by_cases hs:Jj l 100
 case neg=>exact DomOrders_no v l h k m w hv hs
 have HS:=Xqh (XdA v l 100 w hv)
 have HD:=Xqh (show decide (Jj l 100)=true from decide_eq_true hs)
 obtain⟨i1,-,hlen,-⟩:=XfA hs (by omega) (Nat.le_refl l.length)
 rw[List.take_length]at i1 hlen
 have HP:=Xqh (λW(o:Own w w.heap.size [] W)=>Xi6 o v l (λW' o'=>hv.below o'.low) hs (by omega))
 have HI:=Xqh (i1.short (show(Zj l).ns.length<=1000000 by omega))
 have o0:=Own.start w
 obtain⟨av,cv,rfl,-⟩:=hv
 clear hs
 generalize Zj l=A at*
 have HB1:=Xqh (fun(W:World)(b:Nat)(ll:List Xf)(x y:Int)(o:Own w w.heap.size ll W)(hm:Xf.arena b A∈ll)=>Before_own (h:=x) (k:=y) o hm i1 (by omega))
 have HB2:=Xqh (fun(W:World)(b:Nat)(ll:List Xf)(x y:Int)(o:Own w w.heap.size ll W)(hm:Xf.refar b A∈ll)=>RBefore_own (h:=x) (k:=y) o hm i1 (by omega))
 have HR:=Xqh (fun(W:World)(b:Nat)(ll:List Xf)(x:Int)(o:Own w w.heap.size ll W)(hm:Xf.refar b A∈ll)=>RRoot_own (h:=x) o hm i1)
 have HH:=Xqh (fun(W:World)(b:Nat)(ll:List Xf)(x:Int)(o:Own w w.heap.size ll W)(hm:Xf.refar b A∈ll)=>ZG (h:=x) o hm)
 have F1:¬(A.beforeP h k/\A.beforeP k h):=λq=>before_asymm q.1 q.2
 have F2:A.beforeP h k->A.beforeP k m->A.beforeP h m:=λq r=>before_trans q r
 have F3:(A.beforeP h k\/A.beforeP k h)↔A.has h/\A.has k/\h≠k/\A.root h=A.root k:=before_total i1
 have HQ1:=Xqh (fun(W:World)(b:Nat)(ll:List Xf)(o:Own w w.heap.size ll W)(hm:Xf.arena b A∈ll)=>HB1.out W b ll h k o hm)
 have HQ2:=Xqh (fun(W:World)(b:Nat)(ll:List Xf)(o:Own w w.heap.size ll W)(hm:Xf.arena b A∈ll)=>HB1.out W b ll k h o hm)
 have HQ3:=Xqh (fun(W:World)(b:Nat)(ll:List Xf)(o:Own w w.heap.size ll W)(hm:Xf.arena b A∈ll)=>HB1.out W b ll k m o hm)
 have HQ4:=Xqh (fun(W:World)(b:Nat)(ll:List Xf)(o:Own w w.heap.size ll W)(hm:Xf.arena b A∈ll)=>HB1.out W b ll h m o hm)
 have HQ5:=Xqh (fun(W:World)(b:Nat)(ll:List Xf)(o:Own w w.heap.size ll W)(hm:Xf.refar b A∈ll)=>HB2.out W b ll h k o hm)
 have HH1:=Xqh (fun(W:World)(b:Nat)(ll:List Xf)(o:Own w w.heap.size ll W)(hm:Xf.refar b A∈ll)=>HH.out W b ll h o hm)
 have HH2:=Xqh (fun(W:World)(b:Nat)(ll:List Xf)(o:Own w w.heap.size ll W)(hm:Xf.refar b A∈ll)=>HH.out W b ll k o hm)
 have HR1:=Xqh (fun(W:World)(b:Nat)(ll:List Xf)(o:Own w w.heap.size ll W)(hm:Xf.refar b A∈ll)=>HR.out W b ll h o hm)
 have HR2:=Xqh (fun(W:World)(b:Nat)(ll:List Xf)(o:Own w w.heap.size ll W)(hm:Xf.refar b A∈ll)=>HR.out W b ll k o hm)
 clear HB1 HB2 i1 HR HH
 have HC:Hid ((∃(x1:A.has h)(x2:A.has k),(h !=k)=true/\(A.root h==A.root k)=true/\((A.beforeP h k/\¬A.beforeP k h/\¬A.beforeP k m)\/(A.beforeP h k/\¬A.beforeP k h/\A.beforeP k m/\A.beforeP h m)\/(¬A.beforeP h k/\A.beforeP k h)))\/(¬A.beforeP h k/\¬A.beforeP k h/\(¬A.has h\/(A.has h/\¬A.has k)\/(A.has h/\A.has k/\(h !=k)=false)\/(A.has h/\A.has k/\(h !=k)=true/\(A.root h==A.root k)=false)))):=Xqh (by by_cases t:A.has h/\A.has k/\h≠k/\A.root h=A.root k;{left;obtain⟨t1,t2,t3,t4⟩:=t;refine⟨t1,t2,by simp[t3],by simp[t4],?_⟩;by_cases a:A.beforeP h k;{by_cases c:A.beforeP k m;{exact .inr (.inl ⟨a,λz=>F1 ⟨a,z⟩,c,F2 a c⟩)};·exact .inl ⟨a,λz=>F1 ⟨a,z⟩,c⟩};·exact .inr (.inr ⟨a,(F3.2 ⟨t1,t2,t3,t4⟩).resolve_left a⟩)};·right;refine⟨λz=>t (F3.1 (.inl z)),λz=>t (F3.1 (.inr z)),?_⟩;by_cases t1:A.has h;{by_cases t2:A.has k;{by_cases t3:h=k;{exact .inr (.inr (.inl ⟨t1,t2,by simp[t3]⟩))};·exact .inr (.inr (.inr ⟨t1,t2,by simp[t3],by simp;exact λz=>t ⟨t1,t2,t3,z⟩⟩))};·exact .inr (.inl ⟨t1,t2⟩)};·exact .inl t1)
 clear F1 F2 F3
 rcases HC.out with⟨x1,x2,x3,x4,⟨a1,a2,a3⟩|⟨a1,a2,a3,a4⟩|⟨a1,a2⟩⟩|⟨a1,a2,x1|⟨x1,x2⟩|⟨x1,x2,x3⟩|⟨x1,x2,x3,x4⟩⟩
 rw[show decide (A.beforeP h k)=true from decide_eq_true a1]at HQ1 HQ5
 rw[show decide (A.beforeP k h)=false from decide_eq_false a2]at HQ2
 rw[show decide (A.beforeP k m)=false from decide_eq_false a3]at HQ3
 generalize decide (A.beforeP h m)=hmm at*
 rw[show decide (A.has h)=true from decide_eq_true x1]at HH1
 rw[show decide (A.has k)=true from decide_eq_true x2]at HH2
 clear x1 a1 a2 HC x2
 generalize A.root h=rh at*
 generalize A.root k=rk at*
 rotate_left
 rw[show decide (A.beforeP h k)=true from decide_eq_true a1]at HQ1 HQ5
 rw[show decide (A.beforeP k h)=false from decide_eq_false a2]at HQ2
 rw[show decide (A.beforeP k m)=true from decide_eq_true a3]at HQ3
 rw[show decide (A.beforeP h m)=true from decide_eq_true a4]at HQ4
 rw[show decide (A.has h)=true from decide_eq_true x1]at HH1
 rw[show decide (A.has k)=true from decide_eq_true x2]at HH2
 clear x1 a1 a2 HC x2
 generalize A.root h=rh at*
 generalize A.root k=rk at*
 rotate_left
 rw[show decide (A.beforeP h k)=false from decide_eq_false a1]at HQ1 HQ5
 rw[show decide (A.beforeP k h)=true from decide_eq_true a2]at HQ2
 generalize decide (A.beforeP k m)=km at*
 generalize decide (A.beforeP h m)=hmm at*
 rw[show decide (A.has h)=true from decide_eq_true x1]at HH1
 rw[show decide (A.has k)=true from decide_eq_true x2]at HH2
 clear x1 a1 a2 HC x2
 generalize A.root h=rh at*
 generalize A.root k=rk at*
 rotate_left
 rw[show decide (A.beforeP h k)=false from decide_eq_false a1]at HQ1 HQ5
 rw[show decide (A.beforeP k h)=false from decide_eq_false a2]at HQ2
 generalize decide (A.beforeP k m)=km at*
 generalize decide (A.beforeP h m)=hmm at*
 rw[show decide (A.has h)=false from decide_eq_false x1]at HH1
 clear x1 a1 a2 HC
 generalize A.root h=rh at*
 generalize A.root k=rk at*
 rotate_left
 rw[show decide (A.beforeP h k)=false from decide_eq_false a1]at HQ1 HQ5
 rw[show decide (A.beforeP k h)=false from decide_eq_false a2]at HQ2
 generalize decide (A.beforeP k m)=km at*
 generalize decide (A.beforeP h m)=hmm at*
 rw[show decide (A.has h)=true from decide_eq_true x1]at HH1
 rw[show decide (A.has k)=false from decide_eq_false x2]at HH2
 clear x1 a1 a2 HC x2
 generalize A.root h=rh at*
 generalize A.root k=rk at*
 rotate_left
 rw[show decide (A.beforeP h k)=false from decide_eq_false a1]at HQ1 HQ5
 rw[show decide (A.beforeP k h)=false from decide_eq_false a2]at HQ2
 generalize decide (A.beforeP k m)=km at*
 generalize decide (A.beforeP h m)=hmm at*
 rw[show decide (A.has h)=true from decide_eq_true x1]at HH1
 rw[show decide (A.has k)=true from decide_eq_true x2]at HH2
 clear x1 a1 a2 HC x2
 generalize A.root h=rh at*
 generalize A.root k=rk at*
 rotate_left
 rw[show decide (A.beforeP h k)=false from decide_eq_false a1]at HQ1 HQ5
 rw[show decide (A.beforeP k h)=false from decide_eq_false a2]at HQ2
 generalize decide (A.beforeP k m)=km at*
 generalize decide (A.beforeP h m)=hmm at*
 rw[show decide (A.has h)=true from decide_eq_true x1]at HH1
 rw[show decide (A.has k)=true from decide_eq_true x2]at HH2
 clear x1 a1 a2 HC x2
 generalize A.root h=rh at*
 generalize A.root k=rk at*
 rotate_left
 all_goals go_enter Tryz.func12,Tryz.ntmps12;go_wp2_with fail;refine HS.out.mono ?_;rintro e w1⟨rfl,hB1⟩;rw[HD.out];have o1:=o0.read hB1;clear o0 HS HD hB1;go_wp2_with fail;refine(HP.out _ o1).mono ?_;rintro e w2⟨b,c,rfl,o2⟩;clear o1 HP;go_wp2_with fail;refine(HQ1.out _ b _ o2 (by simp)).mono ?_;rintro e w3⟨rfl,o3⟩;clear o2;go_wp2_with fail;refine(HQ5.out _ c _ o3 (by simp)).mono ?_;rintro e w4⟨rfl,hB4⟩;have o4:=o3.read hB4;clear o3 hB4;go_wp2_with fail;refine(HQ1.out _ b _ o4 (by simp)).mono ?_;rintro e w5⟨rfl,o5⟩;clear o4;go_wp2_with fail;refine(HQ2.out _ b _ o5 (by simp)).mono ?_;rintro e w6⟨rfl,o6⟩;clear o5;go_wp2_with fail;refine(HQ3.out _ b _ o6 (by simp)).mono ?_;rintro e w7⟨rfl,o7⟩;clear o6;go_wp2_with fail;refine(HQ4.out _ b _ o7 (by simp)).mono ?_;rintro e w8⟨rfl,o8⟩;clear o7 HQ1 HQ2 HQ3 HQ4 HQ5;have G1:=Xqh (HH1.out _ c _ o8 (by simp));have G2:=Xqh (HH2.out _ c _ o8 (by simp));have G3:=Xqh (HR1.out _ c _ o8 (by simp));have G4:=Xqh (HR2.out _ c _ o8 (by simp));have HO:=Xqh o8;clear o8 HH1 HH2 HR1 HR2
 ·skip;go_wp2_with fail;refine G1.out.mono ?_;rintro e w9⟨rfl,rfl⟩;go_wp2_with fail;refine G2.out.mono ?_;rintro e w9⟨rfl,rfl⟩;go_wp2_with fail;refine G3.out.mono ?_;rintro e w9⟨rfl,rfl⟩;go_wp2_with fail;refine G4.out.mono ?_;rintro e w9⟨rfl,rfl⟩;go_wp2_with fail;refine(XdO _).mono ?_;rintro e wk⟨rfl,hBk⟩;have HB:=Xqh (HO.out.back hBk);clear hBk;go_wp2;go_ret;exact⟨rfl,HB.out⟩
 ·skip;go_wp2_with fail;refine G1.out.mono ?_;rintro e w9⟨rfl,rfl⟩;go_wp2_with fail;refine G2.out.mono ?_;rintro e w9⟨rfl,rfl⟩;go_wp2_with fail;refine G3.out.mono ?_;rintro e w9⟨rfl,rfl⟩;go_wp2_with fail;refine G4.out.mono ?_;rintro e w9⟨rfl,rfl⟩;go_wp2_with fail;refine(XdO _).mono ?_;rintro e wk⟨rfl,hBk⟩;have HB:=Xqh (HO.out.back hBk);clear hBk;go_wp2;go_ret;exact⟨rfl,HB.out⟩
 ·skip;go_wp2_with fail;refine G1.out.mono ?_;rintro e w9⟨rfl,rfl⟩;go_wp2_with fail;refine G2.out.mono ?_;rintro e w9⟨rfl,rfl⟩;go_wp2_with fail;refine G3.out.mono ?_;rintro e w9⟨rfl,rfl⟩;go_wp2_with fail;refine G4.out.mono ?_;rintro e w9⟨rfl,rfl⟩;go_wp2_with fail;refine(XdO _).mono ?_;rintro e wk⟨rfl,hBk⟩;have HB:=Xqh (HO.out.back hBk);clear hBk;go_wp2;go_ret;exact⟨rfl,HB.out⟩
 ·skip;go_wp2_with fail;refine G1.out.mono ?_;rintro e w9⟨rfl,rfl⟩;go_wp2_with fail;refine(XdO _).mono ?_;rintro e wk⟨rfl,hBk⟩;have HB:=Xqh (HO.out.back hBk);clear hBk;go_wp2;go_ret;exact⟨rfl,HB.out⟩
 ·skip;go_wp2_with fail;refine G1.out.mono ?_;rintro e w9⟨rfl,rfl⟩;go_wp2_with fail;refine G2.out.mono ?_;rintro e w9⟨rfl,rfl⟩;go_wp2_with fail;refine(XdO _).mono ?_;rintro e wk⟨rfl,hBk⟩;have HB:=Xqh (HO.out.back hBk);clear hBk;go_wp2;go_ret;exact⟨rfl,HB.out⟩
 ·skip;go_wp2_with fail;refine G1.out.mono ?_;rintro e w9⟨rfl,rfl⟩;go_wp2_with fail;refine G2.out.mono ?_;rintro e w9⟨rfl,rfl⟩;go_wp2_with fail;refine(XdO _).mono ?_;rintro e wk⟨rfl,hBk⟩;have HB:=Xqh (HO.out.back hBk);clear hBk;go_wp2;go_ret;exact⟨rfl,HB.out⟩
 ·skip;go_wp2_with fail;refine G1.out.mono ?_;rintro e w9⟨rfl,rfl⟩;go_wp2_with fail;refine G2.out.mono ?_;rintro e w9⟨rfl,rfl⟩;go_wp2_with fail;refine G3.out.mono ?_;rintro e w9⟨rfl,rfl⟩;go_wp2_with fail;refine G4.out.mono ?_;rintro e w9⟨rfl,rfl⟩;go_wp2_with fail;refine(XdO _).mono ?_;rintro e wk⟨rfl,hBk⟩;have HB:=Xqh (HO.out.back hBk);clear hBk;go_wp2;go_ret;exact⟨rfl,HB.out⟩
end
end Go.Proofs.YtpicinjcmjaogaaGreat
