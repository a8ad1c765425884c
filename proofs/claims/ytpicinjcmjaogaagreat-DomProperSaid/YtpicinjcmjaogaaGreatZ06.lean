import Derived.ProofKit
import Derived.BigQuiet
import Derived.Deep.MidRow
import Derived.Laws.StructEq
import Derived.Test.YtpicinjcmjaogaaGreatZ05
set_option maxRecDepth 100000
set_option maxHeartbeats 4000000
set_option linter.unusedVariables false
namespace Go.Proofs.YtpicinjcmjaogaaGreat
section
def walkF (A : Ar) : Nat → Int → List Int
  | 0, _ => []
  | n + 1, h => h :: ((if (A.get h).Xg ≠ 0 then walkF A n (A.get h).Xg else []) ++ (A.get h).Xc.flatMap (walkF A n))
def Ar.Xi (A : Ar) (h : Int) : List Int := if A.has h then walkF A A.ns.length h else []
def Ar.depth (A : Ar) (h : Int) : Nat := (A.YR true h).length
theorem Xeo {A:Ar}(hI:A.Inv){k h:Int}(hk:A.has k)(hh:A.has h)(hu:A.up k=h):A.YR true k=k::A.YR true h:=XaH (hI.wf.Zs hk) ⟨rfl,hk,by have:Ye A true k=h:=by{simp[Ye,hu]};rw[this];exact hI.wf.Zs hh⟩
theorem Jq {A:Ar}(hI:A.Inv){k h:Int}(hk:A.has k)(hh:A.has h)(hu:A.up k=h):A.depth k=A.depth h+1:=by
 unfold Ar.depth
 rw[Xeo hI hk hh hu]
 simp
theorem XbT {A:Ar}(hI:A.Inv){h:Int}(hh:A.has h):A.depth h≤A.ns.length:=XdV (hI.wf.Zs hh)
theorem XgD {A:Ar}(hI:A.Inv){h:Int}(hh:A.has h):1≤A.depth h:=by
 have:=Xcx (hI.wf.Zs hh) hh
 unfold Ar.depth
 exact List.length_pos_of_mem this
theorem XF {A:Ar}(hI:A.Inv){h k:Int}(hh:A.has h)(hk:k∈(A.get h).Xc):A.has k∧A.up k=h∧(A.get k).Xd=h:=by
 obtain⟨h1,h2⟩:=hI.wf.Xc h hh k hk
 refine⟨h1,?_,h2⟩
 unfold Ar.up
 rw[if_pos (by rw[h2];have:=hh.1;omega),h2]
theorem ZL {A:Ar}(hI:A.Inv){h:Int}(hh:A.has h)(hc:(A.get h).Xg≠0):A.has (A.get h).Xg∧A.up (A.get h).Xg=h∧(A.get (A.get h).Xg).Xd=0:=by
 have ht:XN (A.get h):=Classical.not_not.1 (fun hn=>hc (hI.YG h hh (.inr hn)))
 obtain⟨h1,h2,h3⟩:=hI.cont h hh (by have:=hh.1;omega) ht
 have h4:(A.get (A.get h).Xg).Xd=0:=Classical.not_not.1 (fun hn=>(hI.par _ h1 hn).2 h2)
 refine⟨h1,?_,h4⟩
 unfold Ar.up
 rw[if_neg (by rw[h4];simp),h3]
theorem XaR {α β:Type}{l:List α}{f g:α→List β}(h:∀x∈l,f x=g x):l.flatMap f=l.flatMap g:=by
 induction l with|nil=>{rfl}|cons a l ih=>simp only[List.flatMap_cons];rw[h a (by simp),ih (fun x hx=>h x (by simp[hx]))]
theorem Xep {A:Ar}(hI:A.Inv):∀(f:Nat)(h:Int),A.has h→A.ns.length+1≤f+A.depth h→walkF A f h=walkF A (f+1) h
 |0,h,hh,hf=>by{have:=XbT hI hh;omega}
 |f+1,h,hh,hf=>by{rw[walkF,walkF];congr 1;congr 1;·{split;·{rename_i hc;obtain⟨h1,h2,_⟩:=ZL hI hh hc;exact Xep hI f _ h1 (by rw[Jq hI h1 hh h2];omega)};·rfl};·refine XaR (fun k hk=>?_);obtain⟨h1,h2,_⟩:=XF hI hh hk;exact Xep hI f _ h1 (by rw[Jq hI h1 hh h2];omega)}
theorem Ym {A:Ar}(hI:A.Inv){h:Int}(hh:A.has h):A.Xi h=h::((if(A.get h).Xg≠0 then A.Xi (A.get h).Xg else [])++(A.get h).Xc.flatMap A.Xi):=by
 have h1:A.Xi h=walkF A A.ns.length h:=if_pos hh
 have hd:=XgD hI hh
 rw[h1,Xep hI _ h hh (by omega),walkF]
 congr 1
 congr 1
 ·split;·{rename_i hc;exact(if_pos (ZL hI hh hc).1).symm};·rfl
 ·refine XaR (fun k hk=>?_);exact(if_pos (XF hI hh hk).1).symm
theorem Jc {A:Ar}(hI:A.Inv){P:Int→Prop}(step:∀h,A.has h→((A.get h).Xg≠0→P (A.get h).Xg)→(∀k∈(A.get h).Xc,P k)→P h):∀h,A.has h→P h:=by
 have key:∀(m:Nat)(h:Int),A.has h→A.ns.length-A.depth h≤m→P h:=by intro m;induction m with|zero=>{intro h hh hm;have hd:=XbT hI hh;refine step h hh (fun hc=>?_) (fun k hk=>?_);·{obtain⟨h1,h2,_⟩:=ZL hI hh hc;have:=XbT hI h1;rw[Jq hI h1 hh h2]at this;omega};·obtain⟨h1,h2,_⟩:=XF hI hh hk;have:=XbT hI h1;rw[Jq hI h1 hh h2]at this;omega}|succ m ih=>intro h hh hm;refine step h hh (fun hc=>?_) (fun k hk=>?_);·{obtain⟨h1,h2,_⟩:=ZL hI hh hc;exact ih _ h1 (by rw[Jq hI h1 hh h2];omega)};·obtain⟨h1,h2,_⟩:=XF hI hh hk;exact ih _ h1 (by rw[Jq hI h1 hh h2];omega)
 exact fun h hh=>key _ h hh (Nat.le_refl _)
theorem XbU {A:Ar}(hI:A.Inv){h:Int}(hh:A.has h):h∈A.YR true h:=Xcx (hI.wf.Zs hh) hh
theorem XaS {A:Ar}(hI:A.Inv){x y:Int}(hx:A.has x)(hy:y∈A.YR true x):∃l1,A.YR true x=l1++A.YR true y:=by
 have hw:=hI.wf.Zs hx
 obtain⟨l1,l2,e⟩:=List.append_of_mem hy
 rw[e]at hw
 have hyh:=Xa9 hw y (by simp)
 have h1:=XaH (Xct hw) (hI.wf.Zs hyh)
 exact⟨l1,by rw[e,h1]⟩
theorem Jr {A:Ar}(hI:A.Inv):∀h,A.has h→∀x,x∈A.Xi h↔A.has x∧h∈A.YR true x:=by
 refine Jc hI (fun h hh hc hk x=>?_)
 rw[Ym hI hh]
 constructor
 ·intro hx;have sub:∀y,A.has y→A.up y=h→A.has x∧y∈A.YR true x→A.has x∧h∈A.YR true x:=by{rintro y hy hu⟨h1,h2⟩;obtain⟨l1,e⟩:=XaS hI h1 h2;refine⟨h1,?_⟩;rw[e,Xeo hI hy hh hu];simp[XbU hI hh]};rcases List.mem_cons.1 hx with rfl|hx;·{exact⟨hh,XbU hI hh⟩};·rcases List.mem_append.1 hx with hx|hx;·{split at hx;·{rename_i hcc;obtain⟨h1,h2,_⟩:=ZL hI hh hcc;exact sub _ h1 h2 ((hc hcc x).1 hx)};·simp at hx};·obtain⟨k,hkk,hx⟩:=List.mem_flatMap.1 hx;obtain⟨h1,h2,_⟩:=XF hI hh hkk;exact sub _ h1 h2 ((hk k hkk x).1 hx)
 ·rintro⟨hx,hm⟩;obtain⟨l1,e⟩:=XaS hI hx hm;by_cases hl:l1= [];·{subst hl;have hw:=hI.wf.Zs hx;have h1:=hI.wf.Zs hh;rw[List.nil_append]at e;have hne:A.YR true x≠ []:=fun e=>by{have:=XbU hI hx;rw[e]at this;simp at this};obtain⟨a,l,ea⟩:=List.exists_cons_of_ne_nil hne;rw[ea]at hw e;rw[←e]at h1;have:x=h:=hw.1.symm.trans h1.1;rw[this];simp};·obtain⟨l0,y,rfl⟩:=List.eq_nil_or_concat l1|>.resolve_left hl;simp only[List.append_assoc,List.singleton_append,List.concat_eq_append]at e;have hw:=hI.wf.Zs hx;rw[e]at hw;have hyh:=Xa9 hw y (by simp);have hym:y∈A.YR true x:=by{rw[e];simp};obtain⟨_,_,hw3⟩:=Xct hw;have hup:A.up y=h:=by{have hhh:=hI.wf.Zs hh;have hne:A.YR true h≠ []:=fun e=>by{have:=XbU hI hh;rw[e]at this;simp at this};obtain⟨a,l,ea⟩:=List.exists_cons_of_ne_nil hne;rw[ea]at hw3 hhh;have h1:a=Ye A true y:=hw3.1;have h2:a=h:=hhh.1;rw[←h2,h1];simp[Ye]};refine List.mem_cons.2 (.inr (List.mem_append.2 ?_));by_cases hp:(A.get y).Xd=0;·{have hho:(A.get y).host=h:=by{unfold Ar.up at hup;rw[if_neg (by rw[hp];simp)]at hup;exact hup};obtain⟨_,_,_,h4⟩:=hI.host y hyh (by rw[hho];have:=hh.1;omega);rw[hho]at h4;have hcc:(A.get h).Xg≠0:=by{rw[h4];have:=hyh.1;omega};left;rw[if_pos hcc];exact(hc hcc x).2 ⟨hx,by rw[h4];exact hym⟩};·have hpp:(A.get y).Xd=h:=by{unfold Ar.up at hup;rw[if_pos hp]at hup;exact hup};have hkm:=(hI.wf.link y hyh hp).2.1;rw[hpp]at hkm;right;exact List.mem_flatMap.2 ⟨y,hkm,(hk y hkm x).2 ⟨hx,hym⟩⟩
theorem XgE {A:Ar}(hI:A.Inv){x y z:Int}(hx:A.has x)(hy:y∈A.YR true x)(hz:z∈A.YR true x)(hd:A.depth y=A.depth z):y=z:=by
 obtain⟨l1,e1⟩:=XaS hI hx hy
 obtain⟨l2,e2⟩:=XaS hI hx hz
 have hyh:=Xa9 (hI.wf.Zs hx) y hy
 have hzh:=Xa9 (hI.wf.Zs hx) z hz
 unfold Ar.depth at hd
 have h3:=List.append_inj_right' (e1.symm.trans e2) hd
 have h1:=hI.wf.Zs hyh
 have h2:=hI.wf.Zs hzh
 have hne:A.YR true y≠ []:=fun e=>by have:=XbU hI hyh;rw[e]at this;simp at this
 obtain⟨a,l,ea⟩:=List.exists_cons_of_ne_nil hne
 rw[←h3,ea]at h2
 rw[ea]at h1
 exact h1.1.symm.trans h2.1
theorem XgF {l:List Int}{f:Int→List Int}(hl:l.Nodup)(h1:∀k∈l,(f k).Nodup)(h2:∀j∈l,∀k∈l,∀x,x∈f j→x∈f k→j=k):(l.flatMap f).Nodup:=by
 induction l with|nil=>{simp}|cons a l ih=>rw[List.nodup_cons]at hl;rw[List.flatMap_cons,List.nodup_append];refine⟨h1 a (by simp),ih hl.2 (fun k hk=>h1 k (by simp[hk])) (fun j hj k hk=>h2 j (by simp[hj]) k (by simp[hk])),?_⟩;intro x hx y hy e;subst e;obtain⟨k,hk,hxk⟩:=List.mem_flatMap.1 hy;have:=h2 a (by simp) k (by simp[hk]) x hx hxk;exact hl.1 (by rw[this];exact hk)
theorem Xeq {A:Ar}(hI:A.Inv):∀h,A.has h→(A.Xi h).Nodup:=by
 refine Jc hI (fun h hh hc hk=>?_)
 have hmem:=Jr hI
 rw[Ym hI hh,List.nodup_cons,List.nodup_append]
 have hno:∀y,A.has y→A.up y=h→h∉A.Xi y:=fun y hy hu hm=>by have h1:=((hmem y hy h).1 hm).2;obtain⟨l1,e⟩:=XaS hI hh h1;have h2:=congrArg List.length e;rw[Xeo hI hy hh hu]at h2;simp at h2;omega
 refine⟨fun hm=>?_,?_,?_,?_⟩
 ·rcases List.mem_append.1 hm with hm|hm;·{split at hm;·{rename_i hcc;exact hno _ (ZL hI hh hcc).1 (ZL hI hh hcc).2.1 hm};·simp at hm};·obtain⟨k,hkk,hm⟩:=List.mem_flatMap.1 hm;exact hno _ (XF hI hh hkk).1 (XF hI hh hkk).2.1 hm
 ·split;·{rename_i hcc;exact hc hcc};·exact List.nodup_nil
 ·refine XgF (hI.wf.nodup h hh) hk (fun j hj k hkk x hxj hxk=>?_);obtain⟨j1,j2,_⟩:=XF hI hh hj;obtain⟨k1,k2,_⟩:=XF hI hh hkk;have a:=(hmem j j1 x).1 hxj;have b:=(hmem k k1 x).1 hxk;exact XgE hI a.1 a.2 b.2 (by rw[Jq hI j1 hh j2,Jq hI k1 hh k2])
 ·intro x hx y hy e;subst e;split at hx;·{rename_i hcc;obtain⟨k,hkk,hxk⟩:=List.mem_flatMap.1 hy;obtain⟨c1,c2,c3⟩:=ZL hI hh hcc;obtain⟨k1,k2,k3⟩:=XF hI hh hkk;have a:=(hmem _ c1 x).1 hx;have b:=(hmem k k1 x).1 hxk;have:=XgE hI a.1 a.2 b.2 (by rw[Jq hI c1 hh c2,Jq hI k1 hh k2]);rw[←this,c3]at k3;have:=hh.1;omega};·simp at hx
theorem Z3 {A:Ar}(hI:A.Inv)(h:Int):(A.Xi h).length≤A.ns.length:=by
 by_cases hh:A.has h
 ·exact Xcr _ _ (Xeq hI h hh) (fun x hx=>((Jr hI h hh x).1 hx).1)
 ·unfold Ar.Xi;rw[if_neg hh];exact Nat.zero_le _
theorem Xka {A:Ar}{h:Int}(hh:¬A.has h):A.Xi h= []:=if_neg hh
theorem J0 {A:Ar}(hI:A.Inv)(h x:Int):A.contains h x=decide (x∈A.Xi h):=by
 unfold Ar.contains
 by_cases hh:A.has h
 ·rw[Bool.eq_iff_iff];simp only[decide_eq_true_eq];rw[Jr hI h hh x];exact⟨fun⟨_,a,b⟩=>⟨a,b⟩,fun⟨a,b⟩=>⟨hh,a,b⟩⟩
 ·rw[Xka hh,decide_eq_false (by rintro⟨h1,_⟩;exact hh h1)];simp
end
section
open Go.ChangeShapes Go.WideShapes Go.ChangeAt Go.RowKit
end
section
open Go.RowKit
end
section
open Go.RowKit
theorem Own.back {w0 w w':World}{B:Nat}{l:List Xf}(h:Own w0 B l w)(hb:Below w.heap.size w w'):Below B w0 w':=h.low.trans (hb.mono h.big)
end
section
open Go.RowKit
theorem XcU (v1 v2:Value)(l1 l2:List Int)(w:World)(h1:Xy w v1 l1)(h2:Xy w v2 l2):Calls Tryz.prog 36 #[v1,v2] w fun e w'=>e= .returned (.bool (decide (l1=l2)))∧Below w.heap.size w w':=by
 obtain⟨a1,c1,rfl,p1,p2,p3⟩:=h1.form
 obtain⟨a2,c2,rfl,q1,q2,q3⟩:=h2.form
 clear h1 h2
 by_cases hl:l1.length=l2.length
 ·have hl1:((l1.length:Int)!=l2.length)=false:=by{simp[hl]};have HL:=Xqh hl;go_enter Tryz.func36,Tryz.ntmps36;go_wp2;go_loopw [5](fun i wr=>∃k:Nat,k≤l1.length∧i= .int .i64 k∧Hid (∀j:Nat,j<k→l1[j]?=l2[j]?)∧Below w.heap.size w wr)(fun i _=>l1.length-(intOf i).toNat);(case atStart=>exact⟨0,Nat.zero_le _,rfl,fun j hj=>by omega,Below.refl _ _⟩);case round=>obtain⟨k,hk,rfl,hT,hB⟩:=hrel;by_cases hlt:k<l1.length;·{have hlt2:k<l2.length:=by{have:=HL.out;omega};obtain⟨b1,o1,rfl,hcs1⟩:=p3 (by omega);obtain⟨b2,o2,rfl,hcs2⟩:=q3 (by omega);have d1:=Below.old hB (hcs1 k hlt);have d2:=Below.old hB (hcs2 k hlt2);clear hcs1 hcs2 p3 q3;obtain⟨x,hx⟩:∃x,l1[k]?=some x:=⟨_,List.getElem?_eq_getElem hlt⟩;obtain⟨y,hy⟩:∃y,l2[k]?=some y:=⟨_,List.getElem?_eq_getElem hlt2⟩;rw[hx]at d1;rw[hy]at d2;simp only[Option.getD_some]at d1 d2;have HX:=Xqh (And.intro hx hy);clear hx hy;by_cases he:x=y;·{have he1:(x !=y)=false:=by{simp[he]};have HE:=Xqh he;clear he;go_wp2_with(go_quiet(fail));go_wp2;go_roundw;(case rel=>exact⟨k+1,hlt,by go_num,fun j hj=>by by_cases hjk:j<k;·{exact hT.out j hjk};·have:j=k:=by{omega};rw[this,HX.out.1,HX.out.2,HE.out],Below.drewN hB _⟩);case measure=>simp[intOf];omega};·have he1:(x !=y)=true:=by{simp[he]};have HE:=Xqh he;clear he;go_wp2_with(go_quiet(fail));go_wp2;go_ret;exact⟨XW (decide_eq_false (fun h=>HE.out (by have a:=HX.out.1;have b:=HX.out.2;rw[h,b]at a;simpa using a.symm))).symm,Below.drewN hB _⟩};·have hfin:l1=l2:=by{apply List.ext_getElem?;intro j;by_cases hj:j<k;·{exact hT.out j hj};·have:=HL.out;rw[List.getElem?_eq_none (by omega),List.getElem?_eq_none (by omega)]};have HF:=Xqh hfin;clear hfin;go_wp2;go_ret;exact⟨XW (decide_eq_true HF.out).symm,hB⟩
 ·have hl1:((l1.length:Int)!=l2.length)=true:=by{simp;omega};have HL:=Xqh hl;clear hl;go_enter Tryz.func36,Tryz.ntmps36;go_wp2;go_ret;exact⟨XW (decide_eq_false (fun h=>HL.out (by rw[h]))).symm,Below.refl _ _⟩
end
section
open Go.RowKit
def Ar.YN (A : Ar) (h : Int) : List Int := if A.has h then (A.get h).Xc else []
def Ar.parentOf (A : Ar) (h : Int) : Int := if A.has h then (A.get h).Xd else 0
theorem Xeu {w:World}{b:Nat}{v:Value}{l:List Int}(h:w.ownsRow b 3 1 v l.length (l.map Xp)):Xy w v l:=by
 have h':XT w (fun k=>if v.ownBlock=some k then 1 else 0) 1 3 1 v l.length (l.map Xp):=by refine⟨⟨h.1,?_⟩,fun g hg=>by simp[hg]⟩;rcases h.2 with h2|⟨g,cap,cur,h3,_,h4⟩;·{exact .inl h2};·exact .inr ⟨g,cap,cur,h3,Nat.zero_le _,h4⟩
 exact h'.reads
/-- A list of integers in the call's own memory. -/
abbrev Xf.ints (v : Value) (l : List Int) : Xf := .row 3 1 v l.length (l.map Xp)
theorem Own.ints {w0 w:World}{B:Nat}{v:Value}{x:List Int}{l:List Xf}(h:Own w0 B l w)(hm:Xf.ints v x∈l):Xy w v x:=Xeu (h.row hm)
theorem Xap {w0 w:World}{B b:Nat}{A:Ar}{l:List Xf}{h:Int}(o:Own w0 B l w)(hm:Xf.arena b A∈l)(hS:A.YC):Calls Tryz.prog 33 #[.pointer (some ⟨b,0,none⟩),.int .i64 h] w fun e w'=>∃a c,e= .returned (.slice a (A.YN h).length c)∧Own w0 B (.ints (.slice a (A.YN h).length c) (A.YN h)::l) w':=by
 obtain⟨ρ,hA⟩:=o.arena hm
 refine(Xgt A ρ b h w hA (fun hh=>(hS.get hh).1)).mono ?_
 rintro e w'⟨hB,v,rfl,ho⟩
 obtain⟨a,c,rfl⟩:=X6 ho
 exact⟨a,c,rfl,o.newRow hB ho⟩
theorem Xev {w0 w:World}{B b:Nat}{A:Ar}{l:List Xf}{h:Int}(o:Own w0 B l w)(hm:Xf.arena b A∈l):Calls Tryz.prog 37 #[.pointer (some ⟨b,0,none⟩),.int .i64 h] w fun e w'=>e= .returned (.int .i64 (A.parentOf h))∧w=w':=by
 obtain⟨ρ,hA⟩:=o.arena hm
 exact Xgs A ρ b h w hA
end
section
open Go.RowKit
theorem Xex {w:World}{b b':Nat}{e e':TypeId}{s s':Nat}{v v':Value}{n n':Nat}{xs xs':List Value}(h:w.ownsRow b e s v n xs)(h':w.ownsRow b' e' s' v' n' xs')(hne:e≠e'):∀k,v.ownBlock=some k→v'.ownBlock≠some k:=by
 intro k hk hk'
 rcases h.2 with⟨rfl,_⟩|⟨g,cap,cur,rfl,_,hg,_⟩
 ·simp[Value.ownBlock]at hk
 ·rcases h'.2 with⟨rfl,_⟩|⟨g',cap',cur',rfl,_,hg',_⟩;·{simp[Value.ownBlock]at hk'};·simp[Value.ownBlock]at hk hk';subst hk;subst hk';rw[hg]at hg';simp at hg';exact hne hg'.2
/-- A list of descriptions in new memory, with the rows of their lists. -/
def Zw (w : World) (base : Nat) (v : Value) (ns : List Nd) : Prop :=
  ∃ rows : List (List Value), w.ownsRow base 46 13 v ns.length rows.flatten ∧ rows.length = ns.length ∧ ∀ (i : Nat) (n : Nd), ns[i]? = some n → ∃ kv av, rows[i]? = some (n.cells kv av) ∧ w.ownsRow base 3 1 kv n.Xc.length (n.Xc.map Xp) ∧ w.ownsRow base 132 3 av n.Xb.length (n.Xb.flatMap Xv)
theorem Zw.nil (w:World)(base:Nat):Zw w base (.slice none 0 0) []:=⟨[],World.ownsRow_nil _ _ _ _,rfl,fun i n h=>by simp at h⟩
theorem Zw.snoc {w w':World}{base:Nat}{v v' kv av:Value}{ns:List Nd}{n:Nd}{rows:List (List Value)}(hl:rows.length=ns.length)(hv:w.ownsRow base 46 13 v ns.length rows.flatten)(hN:∀(i:Nat)(n:Nd),ns[i]?=some n→∃kv av,rows[i]?=some (n.cells kv av)∧w.ownsRow base 3 1 kv n.Xc.length (n.Xc.map Xp)∧w.ownsRow base 132 3 av n.Xb.length (n.Xb.flatMap Xv))(hk:w.ownsRow base 3 1 kv n.Xc.length (n.Xc.map Xp))(ha:w.ownsRow base 132 3 av n.Xb.length (n.Xb.flatMap Xv))(hg:w.grownBy w' v.ownBlock)(ho:w'.ownsRow base 46 13 v' (ns.length+1) (rows.flatten++n.cells kv av)):Zw w' base v' (ns++ [n]):=by
 have hU:Upd (fun k=>v.ownBlock=some k) w w':=Upd.grown hg (fun k hk=>hk)
 have keep:∀{e:TypeId}{s:Nat}{x:Value}{m:Nat}{xs:List Value},w.ownsRow base e s x m xs→e≠46→w'.ownsRow base e s x m xs:=fun h hne=>ZS h hU (fun k hk hf=>Xex h hv hne k hk hf)
 refine⟨rows++ [n.cells kv av],by simpa[List.flatten_append]using ho,by simp[hl],fun i m hm=>?_⟩
 rw[List.getElem?_append]at hm
 split at hm
 ·rename_i hi;obtain⟨kv',av',h1,h2,h3⟩:=hN i m hm;exact⟨kv',av',by rw[List.getElem?_append_left (by omega)];exact h1,keep h2 (by decide),keep h3 (by decide)⟩
 ·rename_i hi;have hi':i=ns.length:=by{have:=(List.getElem?_eq_some_iff.1 hm).1;simp at this;omega};subst hi';simp at hm;subst hm;exact⟨kv,av,by rw[←hl];simp,keep hk (by decide),keep ha (by decide)⟩
theorem XcW :(Tryz.prog.info? 46).map (fun i=>(i.zero,i.size,i.bytes))=some (some (.agg #[.int .i64 0,.int .i64 0,.slice none 0 0,.int .i64 0,.int .i64 0,.string ByteArray.empty,.slice none 0 0,.string ByteArray.empty,.string ByteArray.empty,.string ByteArray.empty,.bool false,.int .i64 0,.int .i64 0]),13,168):=by
 kernel_rfl
theorem Xkh (A:Ar)(ρ:Nat→Nat)(b:Nat)(w:World)(hA:Xz w ρ b A)(hS:A.YC):Calls Tryz.prog 43 #[.pointer (some ⟨b,0,none⟩)] w fun e w'=>Below w.heap.size w w'∧∃a c,e= .returned (.slice a A.ns.length c)∧Zw w' w.heap.size (.slice a A.ns.length c) A.ns:=by
 obtain⟨i0,hi,hz0,hz1,hz2⟩:=info_parts XcW
 obtain⟨a,c,mv,h0,-,hf,hlt,hm,hN⟩:=hA.head
 have HI:=Xqh hi
 have HS:=Xqh hS
 have hsm:=hS.1
 clear hi hS
 have HN:=Xqh hN
 clear hN
 go_enter Tryz.func43,Tryz.ntmps43
 go_wp2
 go_loopw [3,12](fun out i wr=>∃k:Nat,k≤A.ns.length∧i= .int .i64 k∧Hid (Zw wr w.heap.size out (A.ns.take k))∧Below w.heap.size w wr)(fun _ i _=>A.ns.length-(intOf i).toNat)
 case atStart=>exact⟨0,Nat.zero_le _,rfl,Zw.nil _ _,Below.refl _ _⟩
 case round=>obtain⟨k,hk,rfl,hT,hB⟩:=hrel;by_cases hlt:k<A.ns.length;·{obtain⟨nb,rfl,hr,hnb,hfn,hNx⟩:=HN.out (by omega);have hx:A.has ((k:Int)+1):=⟨by omega,by unfold Ar.n;omega⟩;have hkk:((k:Int)+1).toNat-1=k:=by{omega};obtain⟨kv,av,F,hK,hAt⟩:=hNx _ hx;rw[hkk]at F;have hgn:=Ar.get_some hx;rw[hkk]at hgn;have HG:=Xqh hgn;have hsh:=HS.out.get hx;have c0:=Below.old hB h0;have HD:=Xqh (Xgu nb (k*13) (A.get ((k:Int)+1)) kv av wr (F.below hB) (Xy.below hK.reads hB) (XE.below hAt.reads hB) hsh.1 hsh.2);clear F hNx hfn hK hAt hgn hkk hx hsh;generalize A.get ((k:Int)+1)=n at*;obtain⟨rows,r1,r2,r3⟩:=hT.out;have hkl:(A.ns.take k).length=k:=by{simp;omega};go_wp2_with fail;refine HD.out.mono ?_;rintro e w2⟨hB2,kv',av',rfl,ho1,ho2⟩;obtain⟨ka,kc,rfl⟩:=X6 ho1;obtain⟨aa,ac,rfl⟩:=X6 ho2;have hwr:w.heap.size≤wr.heap.size:=hB.size;have hB2':Below w.heap.size w w2:=hB.trans (hB2.mono hwr);have hw2:w.heap.size≤w2.heap.size:=hB2'.size;have hrows:=Z0 r1 hB2;rw[hkl]at hrows;have HR:=Xqh (And.intro r2 r3);have hone:=JU n (.slice ka n.Xc.length kc) (.slice aa n.Xb.length ac) rfl rfl;have HO:=Xqh (And.intro (YP ho1 hwr) (YP ho2 hwr));have HONE:=Xqh hone;have HROW:=Xqh hrows;clear r1 r2 r3 ho1 ho2 hone hrows hT;unfold Nd.cells;go_wp2_with(at_builtin;refine wpList_append_own _ rfl _ _ 60 rfl w.heap.size 46 i0 _ 13 168 Tryz.underlying60 HI.out hz0 hz1 hz2 rfl (by decide) _ k rows.flatten rfl (HROW.out.alloc _) ⟨w2.heap.size,0,none⟩ 1 1 (n.cells (.slice ka n.Xc.length kc) (.slice aa n.Xb.length ac)) rfl rfl ?c1 ?c2 ?c3 ?c4 ?c5 ?_);(case c1=>intro j u hj;rw[Addr.add_mid,Nat.zero_add];exact Yi rfl (by simpa[Nd.cells]using hj));(case c2=>exact HONE.out);(case c3=>unfold maxLen;omega);(case c4=>omega);(case c5=>simp;omega);intro v' w3 hown hgrow _;have hB3:Below w.heap.size w w3:=(hB2'.alloc hw2 _).grown hgrow (by simp;omega) (fun q hq=>(Yx HROW.out q hq).1);have hst:A.ns.take (k+1)=A.ns.take k++ [n]:=by{rw[List.take_succ_eq_append_getElem hlt];have:=(List.getElem?_eq_some_iff.1 HG.out).2;rw[this]};have hfin:Zw w3 w.heap.size v' (A.ns.take (k+1)):=by{rw[hst];refine Zw.snoc (w:=w2.alloc (.cells (n.cells (.slice ka n.Xc.length kc) (.slice aa n.Xb.length ac)).toArray 46)) HR.out.1 (by rw[hkl];exact HROW.out.alloc _) (fun i m hm=>?_) (HO.out.1.alloc _) (HO.out.2.alloc _) hgrow (by rw[hkl];exact hown);obtain⟨kv1,av1,g1,g2,g3⟩:=HR.out.2 i m hm;exact⟨kv1,av1,g1,(Z0 g2 hB2).alloc _,(Z0 g3 hB2).alloc _⟩};have HFIN:=Xqh hfin;clear hown hgrow hst hfin;go_wp2;go_roundw;(case rel=>exact⟨k+1,hlt,by go_num,HFIN,hB3⟩);case measure=>simp[intOf];omega};·have hkl:A.ns.take k=A.ns:=List.take_of_length_le (by omega);have hfin:=hT.out;rw[hkl]at hfin;obtain⟨fa,fc,hfe⟩:=X6 hfin.choose_spec.1;have HF:=Xqh (And.intro hfin hfe);clear hfin hfe hT;go_wp2;go_ret;obtain⟨g1,g2⟩:=HF.out;subst g2;exact⟨hB,fa,fc,rfl,g1⟩
end
section
open Go.RowKit
/-- Something that holds as long as some blocks stay. -/
def Xf.hold (Q : World → Prop) : Xf where
  P w S := (∀ k, S k → k < w.heap.size) ∧ ∀ w' : World, (∀ k, S k → w'.heap[k]? = w.heap[k]?) → Q w'
  upd := by
    rintro w w' S F ⟨h1, h2⟩ hu hF
    exact ⟨fun k hk => Nat.lt_of_lt_of_le (h1 k hk) hu.size, fun w'' hw => h2 w'' (fun k hk => (hw k hk).trans (hu.block k (h1 k hk) (hF k hk)))⟩
  lt := by
    rintro w S ⟨h1, _⟩ k hk
    exact h1 k hk
theorem Own.Xg2 {w0 w w':World}{B:Nat}{l:List Xf}{Q:World→Prop}(h:Own w0 B l w)(hb:Below w.heap.size w w')(hQ:∀w'':World,(∀k,w.heap.size≤k→k<w'.heap.size→w''.heap[k]?=w'.heap[k]?)→Q w''):Own w0 B (.hold Q::l) w':=h.fresh hb ⟨fun k=>w.heap.size≤k∧k<w'.heap.size,⟨fun k hk=>hk.2,fun w'' hw=>hQ w'' (fun k a b=>hw k ⟨a,b⟩)⟩,fun k hk=>hk.1⟩
theorem Own.held {w0 w:World}{B:Nat}{l:List Xf}{Q:World→Prop}(h:Own w0 B l w)(hm:Xf.hold Q∈l):Q w:=let⟨_,⟨_,q⟩,_⟩:=h.get hm;q w (fun _ _=>rfl)
theorem Xc4 {w w':World}{base:Nat}{e:TypeId}{size:Nat}{v:Value}{n:Nat}{xs:List Value}(h:w.ownsRow base e size v n xs)(hk:∀k,base≤k→k<w.heap.size→w'.heap[k]?=w.heap[k]?):w'.ownsRow base e size v n xs:=by
 refine⟨h.1,?_⟩
 rcases h.2 with h2|⟨g,cap,cur,rfl,hb,hg,hr⟩
 ·exact Or.inl h2
 ·exact Or.inr ⟨g,cap,cur,rfl,hb,by rw[hk g hb (lt_of_block hg)];exact hg,hr⟩
theorem Zw.keep {w w':World}{base:Nat}{v:Value}{ns:List Nd}(h:Zw w base v ns)(hk:∀k,base≤k→k<w.heap.size→w'.heap[k]?=w.heap[k]?):Zw w' base v ns:=by
 obtain⟨rows,h1,h2,h3⟩:=h
 refine⟨rows,Xc4 h1 hk,h2,fun i n hn=>?_⟩
 obtain⟨kv,av,h4,h5,h6⟩:=h3 i n hn
 exact⟨kv,av,h4,Xc4 h5 hk,Xc4 h6 hk⟩
/-- A slice of descriptions, to be read. -/
def J5 (w : World) (v : Value) (ns : List Nd) : Prop :=
  ∃ a c, v = .slice a ns.length c ∧ ns.length ≤ c ∧ c ≤ 9223372036854775807 ∧ (0 < ns.length → ∃ b o, a = some ⟨b, o, none⟩ ∧ ∀ i n, ns[i]? = some n → ∃ kv av, YB w b (o + i * 13) n kv av ∧ Xy w kv n.Xc ∧ XE w av n.Xb)
theorem Zw.reads {w:World}{base:Nat}{v:Value}{ns:List Nd}(h:Zw w base v ns):J5 w v ns:=by
 obtain⟨rows,h1,h2,h3⟩:=h
 have h13:∀r∈rows,r.length=13:=by intro r hr;obtain⟨i,hi,rfl⟩:=List.getElem_of_mem hr;obtain⟨kv,av,e,_⟩:=h3 i (ns[i]'(by omega)) (List.getElem?_eq_getElem _);rw[List.getElem?_eq_getElem hi]at e;simp at e;rw[e];rfl
 obtain⟨h4,h5⟩:=h1
 rcases h5 with⟨h7,h8⟩|⟨g,cap,cur,h7,_,hg,hn,hc,hs,ht⟩
 ·exact⟨none,0,by rw[h7,h8],by omega,by omega,fun h=>by omega⟩
 ·refine⟨_,cap,h7,hn,hc,fun _=>⟨g,0,rfl,fun i n hi=>?_⟩⟩;obtain⟨kv,av,hrc,hk,ha⟩:=h3 i n hi;have key:∀j v,j<13→(n.cells kv av)[j]?=some v→w.cell? ⟨g,i*13+j,none⟩=some v:=fun j v hj hv=>by{rw[cell_of_row w g _ cur _ (0,0) hg];have h0:=XaF h13 i j hj;rw[hrc,Option.bind_some,hv,←ht,List.getElem?_take]at h0;split at h0;·{rw[show i*13+j=13*i+j from by{omega}];simpa using h0};·simp at h0};rw[Nat.zero_add];exact⟨kv,av,⟨key 0 _ (by omega) rfl,key 1 _ (by omega) rfl,key 2 _ (by omega) rfl,key 3 _ (by omega) rfl,key 4 _ (by omega) rfl,key 5 _ (by omega) rfl,key 6 _ (by omega) rfl,key 7 _ (by omega) rfl,key 8 _ (by omega) rfl,key 9 _ (by omega) rfl,key 10 _ (by omega) rfl,key 11 _ (by omega) rfl,key 12 _ (by omega) rfl⟩,Xeu hk,Xd5 ha⟩
/-- A list of descriptions in the call's own memory. -/
abbrev Xf.nlist (v : Value) (ns : List Nd) : Xf := .hold (fun w => ∃ base, Zw w base v ns)
theorem Own.nlist {w0 w:World}{B:Nat}{v:Value}{ns:List Nd}{l:List Xf}(h:Own w0 B l w)(hm:Xf.nlist v ns∈l):J5 w v ns:=let⟨_,q⟩:=h.held hm;q.reads
theorem XeQ {w0 w:World}{B b:Nat}{A:Ar}{l:List Xf}(o:Own w0 B l w)(hm:Xf.arena b A∈l)(hS:A.YC):Calls Tryz.prog 43 #[.pointer (some ⟨b,0,none⟩)] w fun e w'=>∃a c,e= .returned (.slice a A.ns.length c)∧Own w0 B (.nlist (.slice a A.ns.length c) A.ns::l) w':=by
 obtain⟨ρ,hA⟩:=o.arena hm
 refine(Xkh A ρ b w hA hS).mono ?_
 rintro e w'⟨hB,a,c,rfl,hN⟩
 exact⟨a,c,rfl,o.Xg2 hB (fun w'' hk=>⟨_,hN.keep hk⟩)⟩
end
section
open Go.RowKit
theorem Xy.cells {w:World}{a:Option Addr}{n c:Nat}{l:List Int}(h:Xy w (.slice a n c) l)(hp:0<l.length):∃b o,a=some ⟨b,o,none⟩∧n=l.length∧∀j x,l[j]?=some x→w.cell? ⟨b,o+j,none⟩=some (.int .i64 x):=by
 obtain⟨a',c',e,h2,h3,h4⟩:=h.form
 simp at e
 obtain⟨rfl,rfl,rfl⟩:=e
 obtain⟨b,o,h5,h6⟩:=h4 hp
 refine⟨b,o,h5,rfl,fun j x hx=>?_⟩
 have:=h6 j (List.getElem?_eq_some_iff.1 hx).1
 rw[hx]at this
 simpa using this
theorem XeR {α:Type}{l:List Int}{k:Nat}{x:Int}(f:Int→List α)(hx:l[k]?=some x):(l.take (k+1)).flatMap f=(l.take k).flatMap f++f x:=by
 have hk:=(List.getElem?_eq_some_iff.1 hx).1
 rw[List.take_succ_eq_append_getElem hk,(List.getElem?_eq_some_iff.1 hx).2]
 simp
end
section
open Go.RowKit
theorem Xle (v:Value)(l:List Int)(n:Int)(w:World)(hv:Xy w v l):Calls Tryz.prog 141 #[v,.int .i64 n] w fun e w'=>e= .returned (.int .i64 (Yt (fun y=>decide (y=n)) l))∧w=w':=by
 obtain⟨a,c,rfl,hc1,hc2,hc3⟩:=hv.form
 have HV:=Xqh hv
 clear hc3 hv
 go_enter Tryz.func141,Tryz.ntmps141
 go_wp2
 go_loop [5](fun i=>∃k:Nat,k≤l.length∧i= .int .i64 k∧Hid (∀j x,j<k→l[j]?=some x→x≠n))(fun i=>l.length-(intOf i).toNat)
 case atStart=>exact⟨0,Nat.zero_le _,rfl,fun j x hj=>by omega⟩
 case round=>obtain⟨k,hk,rfl,hT⟩:=hrel;by_cases hlt:k<l.length;·{obtain⟨b1,o1,rfl,-,hcs⟩:=HV.out.cells (by omega);obtain⟨x,hx⟩:∃x,l[k]?=some x:=⟨_,List.getElem?_eq_getElem hlt⟩;have d1:=hcs k x hx;have HX:=Xqh hx;clear hcs hx;by_cases he:x=n;·{have he1:(x==n)=true:=by{simp[he]};have HE:=Xqh he;clear he;go_wp2;go_ret;exact⟨Zd (Xbc HX.out (by simp[HE.out]) (fun j y hj hy=>by simpa using hT.out j y hj hy)).symm,rfl⟩};·have he1:(x==n)=false:=by{simp[he]};have HE:=Xqh he;clear he;go_wp2;go_round;(case rel=>exact⟨k+1,hlt,by go_num,fun j y hj hy=>by by_cases hjk:j<k;·{exact hT.out j y hjk hy};·have:j=k:=by{omega};rw[this,HX.out]at hy;simp at hy;rw[←hy];exact HE.out⟩);case measure=>simp[intOf];omega};·have hfin:Yt (fun y=>decide (y=n)) l= -1:=JT (fun j y hy=>by have:=hT.out j y (by have:=(List.getElem?_eq_some_iff.1 hy).1;omega) hy;simpa using this);have HF:=Xqh hfin;clear hfin;go_wp2;go_ret;exact⟨Zd HF.out.symm,rfl⟩
theorem XE.cells {w:World}{a:Option Addr}{n c:Nat}{l:List Xm}(h:XE w (.slice a n c) l)(hp:0<l.length):∃b o,a=some ⟨b,o,none⟩∧n=l.length∧∀j x,l[j]?=some x→w.cell? ⟨b,o+j*3,none⟩=some (.int .i64 x.1)∧w.cell? ⟨b,o+j*3+1,none⟩=some (.string x.2.1)∧w.cell? ⟨b,o+j*3+2,none⟩=some (.string x.2.2):=by
 obtain⟨a',c',e,h2,h3,h4⟩:=h.form
 simp at e
 obtain⟨rfl,rfl,rfl⟩:=e
 obtain⟨b,o,h5,h6⟩:=h4 hp
 exact⟨b,o,h5,rfl,h6⟩
end
section
open Go.RowKit
def Y1 (x y : Nd) : Prop := x.Xa = y.Xa ∧ x.space = y.space ∧ x.name = y.name ∧ x.Xb = y.Xb ∧ x.data = y.data ∧ x.pub = y.pub ∧ x.sys = y.sys ∧ x.XI = y.XI
instance (x y : Nd) : Decidable (Y1 x y) := inferInstanceAs (Decidable (_ ∧ _ ∧ _ ∧ _ ∧ _ ∧ _ ∧ _ ∧ _))
theorem XaY (w:World)(n:Nd)(kv av:Value)(t:TypeId):YB (w.alloc (.cells (n.cells kv av).toArray t)) w.heap.size 0 n kv av:=⟨Yi rfl rfl,Yi rfl rfl,Yi rfl rfl,Yi rfl rfl,Yi rfl rfl,Yi rfl rfl,Yi rfl rfl,Yi rfl rfl,Yi rfl rfl,Yi rfl rfl,Yi rfl rfl,Yi rfl rfl,Yi rfl rfl⟩
theorem J5.at {w:World}{a:Option Addr}{n c:Nat}{ns:List Nd}(h:J5 w (.slice a n c) ns)(hp:0<ns.length):∃b o,a=some ⟨b,o,none⟩∧n=ns.length∧∀i m,ns[i]?=some m→∃kv av,YB w b (o+i*13) m kv av∧Xy w kv m.Xc∧XE w av m.Xb:=by
 obtain⟨a',c',e,h2,h3,h4⟩:=h
 simp at e
 obtain⟨rfl,rfl,rfl⟩:=e
 obtain⟨b,o,h5,h6⟩:=h4 hp
 exact⟨b,o,h5,rfl,h6⟩
end
section
open Go.RowKit
end
section
/-- Two nodes, with all that hangs below them, are alike. -/
inductive ZJ (A B : Ar) : Int → Int → Prop
  | mk {h k : Int} (ha : A.has h) (hb : B.has k) (h1 : Y1 (A.get h) (B.get k)) (h2 : (A.get h).Xc.length = (B.get k).Xc.length) (h3 : (A.get h).Xg = 0 ↔ (B.get k).Xg = 0)
      (h4 : (A.get h).Xg ≠ 0 → ZJ A B (A.get h).Xg (B.get k).Xg) (h5 : ∀ (i : Nat) (x y : Int), (A.get h).Xc[i]? = some x → (B.get k).Xc[i]? = some y → ZJ A B x y) : ZJ A B h k
theorem ZJ.inv {A B:Ar}{h k:Int}(q:ZJ A B h k):A.has h∧B.has k∧Y1 (A.get h) (B.get k)∧(A.get h).Xc.length=(B.get k).Xc.length∧((A.get h).Xg=0↔(B.get k).Xg=0)∧((A.get h).Xg≠0→ZJ A B (A.get h).Xg (B.get k).Xg)∧∀(i:Nat)(x y:Int),(A.get h).Xc[i]?=some x→(B.get k).Xc[i]?=some y→ZJ A B x y:=by
 cases q with|mk ha hb h1 h2 h3 h4 h5=>exact⟨ha,hb,h1,h2,h3,h4,h5⟩
end
section
open Go.ChangeShapes Go.WideShapes Go.ChangeAt Go.RowKit Go.Deep
end
end Go.Proofs.YtpicinjcmjaogaaGreat
