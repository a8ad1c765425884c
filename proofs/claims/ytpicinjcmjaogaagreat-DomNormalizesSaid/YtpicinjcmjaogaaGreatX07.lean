import Derived.Laws.StructEq
import Derived.Test.YtpicinjcmjaogaaGreatX06
set_option maxRecDepth 100000
set_option maxHeartbeats 4000000
set_option linter.unusedVariables false
namespace Go.Proofs.YtpicinjcmjaogaaGreat
section
def walkF (A : Ar) : Nat → Int → List Int
  | 0, _ => []
  | n + 1, h => h :: ((if (A.get h).Xg ≠ 0 then walkF A n (A.get h).Xg else []) ++ (A.get h).Xc.flatMap (walkF A n))
def Ar.Xi (A : Ar) (h : Int) : List Int := if A.has h then walkF A A.ns.length h else []
def Ar.depth (A : Ar) (h : Int) : Nat := (A.YR true h).length
theorem Xeo {A:Ar}(hI:A.Inv){k h:Int}(hk:A.has k)(hh:A.has h)(hu:A.up k=h):A.YR true k=k::A.YR true h:=XaH (hI.wf.Zs hk) ⟨rfl,hk,by have:Ye A true k=h:=by{simp[Ye,hu]};rw[this];exact hI.wf.Zs hh⟩
theorem Jq {A:Ar}(hI:A.Inv){k h:Int}(hk:A.has k)(hh:A.has h)(hu:A.up k=h):A.depth k=A.depth h+1:=by
 unfold Ar.depth
 rw[Xeo hI hk hh hu]
 simp
theorem XbT {A:Ar}(hI:A.Inv){h:Int}(hh:A.has h):A.depth h≤A.ns.length:=XdV (hI.wf.Zs hh)
theorem XgD {A:Ar}(hI:A.Inv){h:Int}(hh:A.has h):1≤A.depth h:=by
 have:=Xcx (hI.wf.Zs hh) hh
 unfold Ar.depth
 exact List.length_pos_of_mem this
theorem XF {A:Ar}(hI:A.Inv){h k:Int}(hh:A.has h)(hk:k∈(A.get h).Xc):A.has k∧A.up k=h∧(A.get k).Xd=h:=by
 obtain⟨h1,h2⟩:=hI.wf.Xc h hh k hk
 refine⟨h1,?_,h2⟩
 unfold Ar.up
 rw[if_pos (by rw[h2];have:=hh.1;omega),h2]
theorem ZL {A:Ar}(hI:A.Inv){h:Int}(hh:A.has h)(hc:(A.get h).Xg≠0):A.has (A.get h).Xg∧A.up (A.get h).Xg=h∧(A.get (A.get h).Xg).Xd=0:=by
 have ht:XN (A.get h):=Classical.not_not.1 (fun hn=>hc (hI.YG h hh (.inr hn)))
 obtain⟨h1,h2,h3⟩:=hI.cont h hh (by have:=hh.1;omega) ht
 have h4:(A.get (A.get h).Xg).Xd=0:=Classical.not_not.1 (fun hn=>(hI.par _ h1 hn).2 h2)
 refine⟨h1,?_,h4⟩
 unfold Ar.up
 rw[if_neg (by rw[h4];simp),h3]
theorem XaR {α β:Type}{l:List α}{f g:α→List β}(h:∀x∈l,f x=g x):l.flatMap f=l.flatMap g:=by
 induction l with|nil=>{rfl}|cons a l ih=>simp only[List.flatMap_cons];rw[h a (by simp),ih (fun x hx=>h x (by simp[hx]))]
theorem Xep {A:Ar}(hI:A.Inv):∀(f:Nat)(h:Int),A.has h→A.ns.length+1≤f+A.depth h→walkF A f h=walkF A (f+1) h
 |0,h,hh,hf=>by{have:=XbT hI hh;omega}
 |f+1,h,hh,hf=>by{rw[walkF,walkF];congr 1;congr 1;·{split;·{rename_i hc;obtain⟨h1,h2,_⟩:=ZL hI hh hc;exact Xep hI f _ h1 (by rw[Jq hI h1 hh h2];omega)};·rfl};·refine XaR (fun k hk=>?_);obtain⟨h1,h2,_⟩:=XF hI hh hk;exact Xep hI f _ h1 (by rw[Jq hI h1 hh h2];omega)}
theorem Ym {A:Ar}(hI:A.Inv){h:Int}(hh:A.has h):A.Xi h=h::((if(A.get h).Xg≠0 then A.Xi (A.get h).Xg else [])++(A.get h).Xc.flatMap A.Xi):=by
 have h1:A.Xi h=walkF A A.ns.length h:=if_pos hh
 have hd:=XgD hI hh
 rw[h1,Xep hI _ h hh (by omega),walkF]
 congr 1
 congr 1
 ·split;·{rename_i hc;exact(if_pos (ZL hI hh hc).1).symm};·rfl
 ·refine XaR (fun k hk=>?_);exact(if_pos (XF hI hh hk).1).symm
theorem Jc {A:Ar}(hI:A.Inv){P:Int→Prop}(step:∀h,A.has h→((A.get h).Xg≠0→P (A.get h).Xg)→(∀k∈(A.get h).Xc,P k)→P h):∀h,A.has h→P h:=by
 have key:∀(m:Nat)(h:Int),A.has h→A.ns.length-A.depth h≤m→P h:=by intro m;induction m with|zero=>{intro h hh hm;have hd:=XbT hI hh;refine step h hh (fun hc=>?_) (fun k hk=>?_);·{obtain⟨h1,h2,_⟩:=ZL hI hh hc;have:=XbT hI h1;rw[Jq hI h1 hh h2]at this;omega};·obtain⟨h1,h2,_⟩:=XF hI hh hk;have:=XbT hI h1;rw[Jq hI h1 hh h2]at this;omega}|succ m ih=>intro h hh hm;refine step h hh (fun hc=>?_) (fun k hk=>?_);·{obtain⟨h1,h2,_⟩:=ZL hI hh hc;exact ih _ h1 (by rw[Jq hI h1 hh h2];omega)};·obtain⟨h1,h2,_⟩:=XF hI hh hk;exact ih _ h1 (by rw[Jq hI h1 hh h2];omega)
 exact fun h hh=>key _ h hh (Nat.le_refl _)
theorem XbU {A:Ar}(hI:A.Inv){h:Int}(hh:A.has h):h∈A.YR true h:=Xcx (hI.wf.Zs hh) hh
theorem XaS {A:Ar}(hI:A.Inv){x y:Int}(hx:A.has x)(hy:y∈A.YR true x):∃l1,A.YR true x=l1++A.YR true y:=by
 have hw:=hI.wf.Zs hx
 obtain⟨l1,l2,e⟩:=List.append_of_mem hy
 rw[e]at hw
 have hyh:=Xa9 hw y (by simp)
 have h1:=XaH (Xct hw) (hI.wf.Zs hyh)
 exact⟨l1,by rw[e,h1]⟩
theorem Jr {A:Ar}(hI:A.Inv):∀h,A.has h→∀x,x∈A.Xi h↔A.has x∧h∈A.YR true x:=by
 refine Jc hI (fun h hh hc hk x=>?_)
 rw[Ym hI hh]
 constructor
 ·intro hx;have sub:∀y,A.has y→A.up y=h→A.has x∧y∈A.YR true x→A.has x∧h∈A.YR true x:=by{rintro y hy hu⟨h1,h2⟩;obtain⟨l1,e⟩:=XaS hI h1 h2;refine⟨h1,?_⟩;rw[e,Xeo hI hy hh hu];simp[XbU hI hh]};rcases List.mem_cons.1 hx with rfl|hx;·{exact⟨hh,XbU hI hh⟩};·rcases List.mem_append.1 hx with hx|hx;·{split at hx;·{rename_i hcc;obtain⟨h1,h2,_⟩:=ZL hI hh hcc;exact sub _ h1 h2 ((hc hcc x).1 hx)};·simp at hx};·obtain⟨k,hkk,hx⟩:=List.mem_flatMap.1 hx;obtain⟨h1,h2,_⟩:=XF hI hh hkk;exact sub _ h1 h2 ((hk k hkk x).1 hx)
 ·rintro⟨hx,hm⟩;obtain⟨l1,e⟩:=XaS hI hx hm;by_cases hl:l1= [];·{subst hl;have hw:=hI.wf.Zs hx;have h1:=hI.wf.Zs hh;rw[List.nil_append]at e;have hne:A.YR true x≠ []:=fun e=>by{have:=XbU hI hx;rw[e]at this;simp at this};obtain⟨a,l,ea⟩:=List.exists_cons_of_ne_nil hne;rw[ea]at hw e;rw[←e]at h1;have:x=h:=hw.1.symm.trans h1.1;rw[this];simp};·obtain⟨l0,y,rfl⟩:=List.eq_nil_or_concat l1|>.resolve_left hl;simp only[List.append_assoc,List.singleton_append,List.concat_eq_append]at e;have hw:=hI.wf.Zs hx;rw[e]at hw;have hyh:=Xa9 hw y (by simp);have hym:y∈A.YR true x:=by{rw[e];simp};obtain⟨_,_,hw3⟩:=Xct hw;have hup:A.up y=h:=by{have hhh:=hI.wf.Zs hh;have hne:A.YR true h≠ []:=fun e=>by{have:=XbU hI hh;rw[e]at this;simp at this};obtain⟨a,l,ea⟩:=List.exists_cons_of_ne_nil hne;rw[ea]at hw3 hhh;have h1:a=Ye A true y:=hw3.1;have h2:a=h:=hhh.1;rw[←h2,h1];simp[Ye]};refine List.mem_cons.2 (.inr (List.mem_append.2 ?_));by_cases hp:(A.get y).Xd=0;·{have hho:(A.get y).host=h:=by{unfold Ar.up at hup;rw[if_neg (by rw[hp];simp)]at hup;exact hup};obtain⟨_,_,_,h4⟩:=hI.host y hyh (by rw[hho];have:=hh.1;omega);rw[hho]at h4;have hcc:(A.get h).Xg≠0:=by{rw[h4];have:=hyh.1;omega};left;rw[if_pos hcc];exact(hc hcc x).2 ⟨hx,by rw[h4];exact hym⟩};·have hpp:(A.get y).Xd=h:=by{unfold Ar.up at hup;rw[if_pos hp]at hup;exact hup};have hkm:=(hI.wf.link y hyh hp).2.1;rw[hpp]at hkm;right;exact List.mem_flatMap.2 ⟨y,hkm,(hk y hkm x).2 ⟨hx,hym⟩⟩
theorem XgE {A:Ar}(hI:A.Inv){x y z:Int}(hx:A.has x)(hy:y∈A.YR true x)(hz:z∈A.YR true x)(hd:A.depth y=A.depth z):y=z:=by
 obtain⟨l1,e1⟩:=XaS hI hx hy
 obtain⟨l2,e2⟩:=XaS hI hx hz
 have hyh:=Xa9 (hI.wf.Zs hx) y hy
 have hzh:=Xa9 (hI.wf.Zs hx) z hz
 unfold Ar.depth at hd
 have h3:=List.append_inj_right' (e1.symm.trans e2) hd
 have h1:=hI.wf.Zs hyh
 have h2:=hI.wf.Zs hzh
 have hne:A.YR true y≠ []:=fun e=>by have:=XbU hI hyh;rw[e]at this;simp at this
 obtain⟨a,l,ea⟩:=List.exists_cons_of_ne_nil hne
 rw[←h3,ea]at h2
 rw[ea]at h1
 exact h1.1.symm.trans h2.1
theorem XgF {l:List Int}{f:Int→List Int}(hl:l.Nodup)(h1:∀k∈l,(f k).Nodup)(h2:∀j∈l,∀k∈l,∀x,x∈f j→x∈f k→j=k):(l.flatMap f).Nodup:=by
 induction l with|nil=>{simp}|cons a l ih=>rw[List.nodup_cons]at hl;rw[List.flatMap_cons,List.nodup_append];refine⟨h1 a (by simp),ih hl.2 (fun k hk=>h1 k (by simp[hk])) (fun j hj k hk=>h2 j (by simp[hj]) k (by simp[hk])),?_⟩;intro x hx y hy e;subst e;obtain⟨k,hk,hxk⟩:=List.mem_flatMap.1 hy;have:=h2 a (by simp) k (by simp[hk]) x hx hxk;exact hl.1 (by rw[this];exact hk)
theorem Xeq {A:Ar}(hI:A.Inv):∀h,A.has h→(A.Xi h).Nodup:=by
 refine Jc hI (fun h hh hc hk=>?_)
 have hmem:=Jr hI
 rw[Ym hI hh,List.nodup_cons,List.nodup_append]
 have hno:∀y,A.has y→A.up y=h→h∉A.Xi y:=fun y hy hu hm=>by have h1:=((hmem y hy h).1 hm).2;obtain⟨l1,e⟩:=XaS hI hh h1;have h2:=congrArg List.length e;rw[Xeo hI hy hh hu]at h2;simp at h2;omega
 refine⟨fun hm=>?_,?_,?_,?_⟩
 ·rcases List.mem_append.1 hm with hm|hm;·{split at hm;·{rename_i hcc;exact hno _ (ZL hI hh hcc).1 (ZL hI hh hcc).2.1 hm};·simp at hm};·obtain⟨k,hkk,hm⟩:=List.mem_flatMap.1 hm;exact hno _ (XF hI hh hkk).1 (XF hI hh hkk).2.1 hm
 ·split;·{rename_i hcc;exact hc hcc};·exact List.nodup_nil
 ·refine XgF (hI.wf.nodup h hh) hk (fun j hj k hkk x hxj hxk=>?_);obtain⟨j1,j2,_⟩:=XF hI hh hj;obtain⟨k1,k2,_⟩:=XF hI hh hkk;have a:=(hmem j j1 x).1 hxj;have b:=(hmem k k1 x).1 hxk;exact XgE hI a.1 a.2 b.2 (by rw[Jq hI j1 hh j2,Jq hI k1 hh k2])
 ·intro x hx y hy e;subst e;split at hx;·{rename_i hcc;obtain⟨k,hkk,hxk⟩:=List.mem_flatMap.1 hy;obtain⟨c1,c2,c3⟩:=ZL hI hh hcc;obtain⟨k1,k2,k3⟩:=XF hI hh hkk;have a:=(hmem _ c1 x).1 hx;have b:=(hmem k k1 x).1 hxk;have:=XgE hI a.1 a.2 b.2 (by rw[Jq hI c1 hh c2,Jq hI k1 hh k2]);rw[←this,c3]at k3;have:=hh.1;omega};·simp at hx
theorem Z3 {A:Ar}(hI:A.Inv)(h:Int):(A.Xi h).length≤A.ns.length:=by
 by_cases hh:A.has h
 ·exact Xcr _ _ (Xeq hI h hh) (fun x hx=>((Jr hI h hh x).1 hx).1)
 ·unfold Ar.Xi;rw[if_neg hh];exact Nat.zero_le _
theorem Xka {A:Ar}{h:Int}(hh:¬A.has h):A.Xi h= []:=if_neg hh
theorem J0 {A:Ar}(hI:A.Inv)(h x:Int):A.contains h x=decide (x∈A.Xi h):=by
 unfold Ar.contains
 by_cases hh:A.has h
 ·rw[Bool.eq_iff_iff];simp only[decide_eq_true_eq];rw[Jr hI h hh x];exact⟨fun⟨_,a,b⟩=>⟨a,b⟩,fun⟨a,b⟩=>⟨hh,a,b⟩⟩
 ·rw[Xka hh,decide_eq_false (by rintro⟨h1,_⟩;exact hh h1)];simp
end
section
open Go.RowKit
/-- Something that holds as long as some blocks stay. -/
def Xf.hold (Q : World → Prop) : Xf where
  P w S := (∀ k, S k → k < w.heap.size) ∧ ∀ w' : World, (∀ k, S k → w'.heap[k]? = w.heap[k]?) → Q w'
  upd := by
    rintro w w' S F ⟨h1, h2⟩ hu hF
    exact ⟨fun k hk => Nat.lt_of_lt_of_le (h1 k hk) hu.size, fun w'' hw => h2 w'' (fun k hk => (hw k hk).trans (hu.block k (h1 k hk) (hF k hk)))⟩
  lt := by
    rintro w S ⟨h1, _⟩ k hk
    exact h1 k hk
theorem Own.Xg2 {w0 w w':World}{B:Nat}{l:List Xf}{Q:World→Prop}(h:Own w0 B l w)(hb:Below w.heap.size w w')(hQ:∀w'':World,(∀k,w.heap.size≤k→k<w'.heap.size→w''.heap[k]?=w'.heap[k]?)→Q w''):Own w0 B (.hold Q::l) w':=h.fresh hb ⟨fun k=>w.heap.size≤k∧k<w'.heap.size,⟨fun k hk=>hk.2,fun w'' hw=>hQ w'' (fun k a b=>hw k ⟨a,b⟩)⟩,fun k hk=>hk.1⟩
theorem Own.held {w0 w:World}{B:Nat}{l:List Xf}{Q:World→Prop}(h:Own w0 B l w)(hm:Xf.hold Q∈l):Q w:=let⟨_,⟨_,q⟩,_⟩:=h.get hm;q w (fun _ _=>rfl)
theorem Xc4 {w w':World}{base:Nat}{e:TypeId}{size:Nat}{v:Value}{n:Nat}{xs:List Value}(h:w.ownsRow base e size v n xs)(hk:∀k,base≤k→k<w.heap.size→w'.heap[k]?=w.heap[k]?):w'.ownsRow base e size v n xs:=by
 refine⟨h.1,?_⟩
 rcases h.2 with h2|⟨g,cap,cur,rfl,hb,hg,hr⟩
 ·exact Or.inl h2
 ·exact Or.inr ⟨g,cap,cur,rfl,hb,by rw[hk g hb (lt_of_block hg)];exact hg,hr⟩
theorem Zw.keep {w w':World}{base:Nat}{v:Value}{ns:List Nd}(h:Zw w base v ns)(hk:∀k,base≤k→k<w.heap.size→w'.heap[k]?=w.heap[k]?):Zw w' base v ns:=by
 obtain⟨rows,h1,h2,h3⟩:=h
 refine⟨rows,Xc4 h1 hk,h2,fun i n hn=>?_⟩
 obtain⟨kv,av,h4,h5,h6⟩:=h3 i n hn
 exact⟨kv,av,h4,Xc4 h5 hk,Xc4 h6 hk⟩
/-- A slice of descriptions, to be read. -/
def J5 (w : World) (v : Value) (ns : List Nd) : Prop :=
  ∃ a c, v = .slice a ns.length c ∧ ns.length ≤ c ∧ c ≤ 9223372036854775807 ∧ (0 < ns.length → ∃ b o, a = some ⟨b, o, none⟩ ∧ ∀ i n, ns[i]? = some n → ∃ kv av, YB w b (o + i * 13) n kv av ∧ Xy w kv n.Xc ∧ XE w av n.Xb)
theorem J5.below {w w':World}{v:Value}{ns:List Nd}(h:J5 w v ns)(hb:Below w.heap.size w w'):J5 w' v ns:=by
 obtain⟨a,c,h1,h2,h3,h4⟩:=h
 refine⟨a,c,h1,h2,h3,fun hn=>?_⟩
 obtain⟨b,o,h5,h6⟩:=h4 hn
 refine⟨b,o,h5,fun i n hi=>?_⟩
 obtain⟨kv,av,h7,h8,h9⟩:=h6 i n hi
 exact⟨kv,av,h7.below hb,h8.below hb,h9.below hb⟩
theorem Zw.reads {w:World}{base:Nat}{v:Value}{ns:List Nd}(h:Zw w base v ns):J5 w v ns:=by
 obtain⟨rows,h1,h2,h3⟩:=h
 have h13:∀r∈rows,r.length=13:=by intro r hr;obtain⟨i,hi,rfl⟩:=List.getElem_of_mem hr;obtain⟨kv,av,e,_⟩:=h3 i (ns[i]'(by omega)) (List.getElem?_eq_getElem _);rw[List.getElem?_eq_getElem hi]at e;simp at e;rw[e];rfl
 obtain⟨h4,h5⟩:=h1
 rcases h5 with⟨h7,h8⟩|⟨g,cap,cur,h7,_,hg,hn,hc,hs,ht⟩
 ·exact⟨none,0,by rw[h7,h8],by omega,by omega,fun h=>by omega⟩
 ·refine⟨_,cap,h7,hn,hc,fun _=>⟨g,0,rfl,fun i n hi=>?_⟩⟩;obtain⟨kv,av,hrc,hk,ha⟩:=h3 i n hi;have key:∀j v,j<13→(n.cells kv av)[j]?=some v→w.cell? ⟨g,i*13+j,none⟩=some v:=fun j v hj hv=>by{rw[cell_of_row w g _ cur _ (0,0) hg];have h0:=XaF h13 i j hj;rw[hrc,Option.bind_some,hv,←ht,List.getElem?_take]at h0;split at h0;·{rw[show i*13+j=13*i+j from by{omega}];simpa using h0};·simp at h0};rw[Nat.zero_add];exact⟨kv,av,⟨key 0 _ (by omega) rfl,key 1 _ (by omega) rfl,key 2 _ (by omega) rfl,key 3 _ (by omega) rfl,key 4 _ (by omega) rfl,key 5 _ (by omega) rfl,key 6 _ (by omega) rfl,key 7 _ (by omega) rfl,key 8 _ (by omega) rfl,key 9 _ (by omega) rfl,key 10 _ (by omega) rfl,key 11 _ (by omega) rfl,key 12 _ (by omega) rfl⟩,Xeu hk,Xd5 ha⟩
/-- A list of descriptions in the call's own memory. -/
abbrev Xf.nlist (v : Value) (ns : List Nd) : Xf := .hold (fun w => ∃ base, Zw w base v ns)
theorem Own.nlist {w0 w:World}{B:Nat}{v:Value}{ns:List Nd}{l:List Xf}(h:Own w0 B l w)(hm:Xf.nlist v ns∈l):J5 w v ns:=let⟨_,q⟩:=h.held hm;q.reads
theorem XeQ {w0 w:World}{B b:Nat}{A:Ar}{l:List Xf}(o:Own w0 B l w)(hm:Xf.arena b A∈l)(hS:A.YC):Calls Tryz.prog 43 #[.pointer (some ⟨b,0,none⟩)] w fun e w'=>∃a c,e= .returned (.slice a A.ns.length c)∧Own w0 B (.nlist (.slice a A.ns.length c) A.ns::l) w':=by
 obtain⟨ρ,hA⟩:=o.arena hm
 refine(Xkh A ρ b w hA hS).mono ?_
 rintro e w'⟨hB,a,c,rfl,hN⟩
 exact⟨a,c,rfl,o.Xg2 hB (fun w'' hk=>⟨_,hN.keep hk⟩)⟩
theorem XkI {w0 w:World}{B b:Nat}{A:Ar}{l:List Xf}(o:Own w0 B l w)(hm:Xf.arena b A∈l):Calls Tryz.prog 40 #[.pointer (some ⟨b,0,none⟩)] w fun e w'=>e= .returned (.int .i64 A.ns.length)∧w=w':=by
 obtain⟨ρ,hA⟩:=o.arena hm
 obtain⟨a,c,mv,h0,-⟩:=hA.head
 exact Xjn A b a c w h0
end
section
open Go.RowKit
theorem Xy.cells {w:World}{a:Option Addr}{n c:Nat}{l:List Int}(h:Xy w (.slice a n c) l)(hp:0<l.length):∃b o,a=some ⟨b,o,none⟩∧n=l.length∧∀j x,l[j]?=some x→w.cell? ⟨b,o+j,none⟩=some (.int .i64 x):=by
 obtain⟨a',c',e,h2,h3,h4⟩:=h.form
 simp at e
 obtain⟨rfl,rfl,rfl⟩:=e
 obtain⟨b,o,h5,h6⟩:=h4 hp
 refine⟨b,o,h5,rfl,fun j x hx=>?_⟩
 have:=h6 j (List.getElem?_eq_some_iff.1 hx).1
 rw[hx]at this
 simpa using this
theorem XeR {α:Type}{l:List Int}{k:Nat}{x:Int}(f:Int→List α)(hx:l[k]?=some x):(l.take (k+1)).flatMap f=(l.take k).flatMap f++f x:=by
 have hk:=(List.getElem?_eq_some_iff.1 hx).1
 rw[List.take_succ_eq_append_getElem hk,(List.getElem?_eq_some_iff.1 hx).2]
 simp
end
section
open Go.RowKit
theorem XE.cells {w:World}{a:Option Addr}{n c:Nat}{l:List Xm}(h:XE w (.slice a n c) l)(hp:0<l.length):∃b o,a=some ⟨b,o,none⟩∧n=l.length∧∀j x,l[j]?=some x→w.cell? ⟨b,o+j*3,none⟩=some (.int .i64 x.1)∧w.cell? ⟨b,o+j*3+1,none⟩=some (.string x.2.1)∧w.cell? ⟨b,o+j*3+2,none⟩=some (.string x.2.2):=by
 obtain⟨a',c',e,h2,h3,h4⟩:=h.form
 simp at e
 obtain⟨rfl,rfl,rfl⟩:=e
 obtain⟨b,o,h5,h6⟩:=h4 hp
 exact⟨b,o,h5,rfl,h6⟩
theorem Xlf (v1 v2:Value)(l1 l2:List Xm)(w:World)(h1:XE w v1 l1)(h2:XE w v2 l2):Calls Tryz.prog 60 #[v1,v2] w fun e w'=>e= .returned (.bool (decide (l1=l2)))∧Below w.heap.size w w':=by
 obtain⟨a1,c1,rfl,p1,p2,p3⟩:=h1.form
 obtain⟨a2,c2,rfl,q1,q2,q3⟩:=h2.form
 have H1:=Xqh h1
 have H2:=Xqh h2
 clear h1 h2 p3 q3
 by_cases hl:l1.length=l2.length
 ·have hl1:((l1.length:Int)!=l2.length)=false:=by{simp[hl]};have HL:=Xqh hl;go_enter Tryz.func60,Tryz.ntmps60;go_wp2;go_loopw [5](fun i wr=>∃k:Nat,k≤l1.length∧i= .int .i64 k∧Hid (∀j:Nat,j<k→l1[j]?=l2[j]?)∧Below w.heap.size w wr)(fun i _=>l1.length-(intOf i).toNat);(case atStart=>exact⟨0,Nat.zero_le _,rfl,fun j hj=>by omega,Below.refl _ _⟩);case round=>obtain⟨k,hk,rfl,hT,hB⟩:=hrel;by_cases hlt:k<l1.length;·{have hlt2:k<l2.length:=by{have:=HL.out;omega};obtain⟨b1,o1,rfl,-,hcs1⟩:=H1.out.cells (by omega);obtain⟨b2,o2,rfl,-,hcs2⟩:=H2.out.cells (by omega);obtain⟨x,hx⟩:∃x,l1[k]?=some x:=⟨_,List.getElem?_eq_getElem hlt⟩;obtain⟨y,hy⟩:∃y,l2[k]?=some y:=⟨_,List.getElem?_eq_getElem hlt2⟩;obtain⟨d1,d2,d3⟩:=hcs1 k x hx;obtain⟨e1,e2,e3⟩:=hcs2 k y hy;have d1:=Below.old hB d1;have d2:=Below.old hB d2;have d3:=Below.old hB d3;have e1:=Below.old hB e1;have e2:=Below.old hB e2;have e3:=Below.old hB e3;have HX:=Xqh (And.intro hx hy);clear hcs1 hcs2 hx hy;obtain⟨xs,xn,xv⟩:=x;obtain⟨ys,yn,yv⟩:=y;dsimp only at d1 d2 d3 e1 e2 e3;by_cases t1:xs=ys;·{have u1:(xs==ys)=true:=by{simp[t1]};by_cases t2:xn=yn;·{have u2:(xn.toList==yn.toList)=true:=by{simp[t2]};by_cases t3:xv=yv;·{have u3:(xv.toList==yv.toList)=true:=by{simp[t3]};have HT:=Xqh (And.intro t1 (And.intro t2 t3));clear t1 t2 t3;go_wp2_with(go_quiet(fail));go_wp2;go_roundw;(case rel=>exact⟨k+1,hlt,by go_num,fun j hj=>by by_cases hjk:j<k;·{exact hT.out j hjk};·have:j=k:=by{omega};rw[this,HX.out.1,HX.out.2,HT.out.1,HT.out.2.1,HT.out.2.2],Below.drewN hB _⟩);case measure=>simp[intOf];omega};·have u3:(xv.toList==yv.toList)=false:=by{rw[Xa7];simp[t3]};have HT:=Xqh t3;clear t1 t2 t3;go_wp2_with(go_quiet(fail));go_wp2;go_ret;exact⟨XW (decide_eq_false (fun h=>HT.out (by have a:=HX.out.1;have b:=HX.out.2;rw[h,b]at a;simp at a;exact a.2.2.symm))).symm,Below.drewN hB _⟩};·have u2:(xn.toList==yn.toList)=false:=by{rw[Xa7];simp[t2]};have HT:=Xqh t2;clear t1 t2;go_wp2_with(go_quiet(fail));go_wp2;go_ret;exact⟨XW (decide_eq_false (fun h=>HT.out (by have a:=HX.out.1;have b:=HX.out.2;rw[h,b]at a;simp at a;exact a.2.1.symm))).symm,Below.drewN hB _⟩};·have u1:(xs==ys)=false:=by{simp[t1]};have HT:=Xqh t1;clear t1;go_wp2_with(go_quiet(fail));go_wp2;go_ret;exact⟨XW (decide_eq_false (fun h=>HT.out (by have a:=HX.out.1;have b:=HX.out.2;rw[h,b]at a;simp at a;exact a.1.symm))).symm,Below.drewN hB _⟩};·have hfin:l1=l2:=by{apply List.ext_getElem?;intro j;by_cases hj:j<k;·{exact hT.out j hj};·have:=HL.out;rw[List.getElem?_eq_none (by omega),List.getElem?_eq_none (by omega)]};have HF:=Xqh hfin;clear hfin;go_wp2;go_ret;exact⟨XW (decide_eq_true HF.out).symm,hB⟩
 ·have hl1:((l1.length:Int)!=l2.length)=true:=by{simp;omega};have HL:=Xqh hl;clear hl;go_enter Tryz.func60,Tryz.ntmps60;go_wp2;go_ret;exact⟨XW (decide_eq_false (fun h=>HL.out (by rw[h]))).symm,Below.refl _ _⟩
end
section
open Go.RowKit
theorem XT.ext {w:World}{ρ ρ':Nat→Nat}{r:Nat}{e:TypeId}{size:Nat}{v:Value}{n:Nat}{xs:List Value}(h:XT w ρ r e size v n xs)(h0:r≠0)(hr:∀k,ρ k≠0→ρ' k=ρ k):XT w ρ' r e size v n xs:=⟨h.1,fun g hg=>by have:=h.2 g hg;rw[hr g (by omega)];exact this⟩
theorem ZP.ext {w:World}{ρ ρ':Nat→Nat}{eA:TypeId}{i:Nat}{n:Nd}{r:List Value}(h:ZP w ρ eA i n r)(hr:∀k,ρ k≠0→ρ' k=ρ k):ZP w ρ' eA i n r:=by
 obtain⟨kv,av,h1,h2,h3⟩:=h
 exact⟨kv,av,h1,h2.ext (by omega) hr,h3.ext (by omega) hr⟩
theorem Jb.ext {w:World}{ρ ρ':Nat→Nat}{mv:Value}{I:List Int}(h:Jb w ρ mv I)(hr:∀k,ρ k≠0→ρ' k=ρ k):Jb w ρ' mv I:=by
 obtain⟨L,h1,h2,h3⟩:=h
 refine⟨L,h1,h2,?_⟩
 rcases h3 with h3|⟨mb,h4,h5,h6⟩
 ·exact .inl h3
 ·exact .inr ⟨mb,h4,by rw[hr mb (by omega)];exact h5,h6⟩
theorem roles_two {w:World}{ρ:Nat→Nat}{base i:Nat}{e:TypeId}{kv av:Value}{n m s:Nat}{xs ys:List Value}(hρ:∀k,ρ k≠0→k<base)(hb:base≤w.heap.size)(hk:w.ownsRow base 3 1 kv n xs)(ha:w.ownsRow base 132 s av m ys):∃ρ':Nat→Nat,(∀k,ρ k≠0→ρ' k=ρ k)∧(∀k,k<base→ρ' k=ρ k)∧(∀k,ρ' k≠0→k<w.heap.size)∧XT w ρ' (2*i+4) 3 1 kv n xs∧XT w ρ' (2*i+5) 132 s av m ys:=by
 have hap:∀k,kv.ownBlock=some k→av.ownBlock=some k→False:=fun k h1 h2=>by rcases hk.2 with⟨rfl,-⟩|⟨g,cap,cur,rfl,-,hg,-⟩;·{simp[Value.ownBlock]at h1};rcases ha.2 with⟨rfl,-⟩|⟨g',cap',cur',rfl,-,hg',-⟩;·{simp[Value.ownBlock]at h2};simp[Value.ownBlock]at h1 h2;subst h1;subst h2;rw[hg]at hg';simp at hg'
 have hkb:=Yx hk
 have hab:=Yx ha
 refine⟨fun k=>if kv.ownBlock=some k then 2*i+4 else if av.ownBlock=some k then 2*i+5 else ρ k,fun k h=>?_,fun k h=>?_,fun k h=>?_,⟨YP hk (Nat.zero_le _),fun g hg=>?_⟩,⟨YP ha (Nat.zero_le _),fun g hg=>?_⟩⟩
 ·have hlt:=hρ k h;dsimp only;rw[if_neg (fun e=>by have:=(hkb k e).1;omega),if_neg (fun e=>by have:=(hab k e).1;omega)]
 ·dsimp only;rw[if_neg (fun e=>by have:=(hkb k e).1;omega),if_neg (fun e=>by have:=(hab k e).1;omega)]
 ·dsimp only at h;split at h;·{rename_i e;exact(hkb k e).2};·split at h;·{rename_i e;exact(hab k e).2};·have:=hρ k h;omega
 ·dsimp only;rw[if_pos hg]
 ·dsimp only;rw[if_neg (fun e=>hap g e hg),if_pos hg]
theorem YX.addedK {w w1:World}{ρ:Nat→Nat}{e eA:TypeId}{nv kv av:Value}{ns:List Nd}{rows:List (List Value)}{n:Nd}{gg cap:Nat}(hl:∀k,ρ k≠0→k<w.heap.size)(hrole:∀g,nv.ownBlock=some g→ρ g=2)(hrl:rows.length=ns.length)(hrows:∀i n,ns[i]?=some n→∃r,rows[i]?=some r∧ZP w ρ eA i n r)(hkv:XT w ρ (2*ns.length+4) 3 1 kv n.Xc.length (n.Xc.map Xp))(hav:XT w ρ (2*ns.length+5) eA 3 av n.Xb.length (n.Xb.flatMap Xv))(hU:Upd (fun k=>nv.ownBlock=some k) w w1)(hown:w1.ownsRow 0 e 13 (.slice (some ⟨gg,0,none⟩) (ns.length+1) cap) (ns.length+1) (rows.flatten++n.cells kv av))(hat:nv.ownBlock=some gg∨w.heap.size≤gg):(∀k,k<w.heap.size→(if k=gg then 2 else ρ k)=ρ k)∧YX w1 (fun k=>if k=gg then 2 else ρ k) e eA (.slice (some ⟨gg,0,none⟩) (ns.length+1) cap) (ns++ [n]):=by
 have hr':∀k,k<w.heap.size→(if k=gg then 2 else ρ k)=ρ k:=fun k hk=>by split;·{rename_i e;subst e;rcases hat with hat|hat;·{exact(hrole _ hat).symm};·omega};·rfl
 have hF:∀k r,(fun k=>if k=gg then 2 else ρ k) k=r→3≤r→¬(nv.ownBlock=some k):=by intro k r hr h3 hf;dsimp only at hr;have:=hrole k hf;split at hr<;>omega
 refine⟨hr',rows++ [n.cells kv av],⟨by simpa[List.flatten_append]using hown,?_⟩,by simp[hrl],?_⟩
 ·intro g hg;simp[Value.ownBlock]at hg;simp[hg]
 ·intro i m hm;rw[List.getElem?_append]at hm;split at hm;·{rename_i hi;obtain⟨r,hr,hM⟩:=hrows i m hm;exact⟨r,by rw[List.getElem?_append_left (by omega)];exact hr,(hM.role hr').upd hU (fun k hk=>by rcases hk with hk|hk<;>exact hF k _ hk (by omega))⟩};·rename_i hi;have hi':i=ns.length:=by{have:=(List.getElem?_eq_some_iff.1 hm).1;simp at this;omega};subst hi';simp at hm;subst hm;exact⟨n.cells kv av,by rw[←hrl];simp,kv,av,rfl,(hkv.role hr').upd hU (fun k hk=>hF k _ hk (by omega)),(hav.role hr').upd hU (fun k hk=>hF k _ hk (by omega))⟩
theorem box_addK {w w1:World}{ρ:Nat→Nat}{b:Nat}{T e:TypeId}{nv x kv av v':Value}{ns:List Nd}{n:Nd}{rows:List (List Value)}(hl:∀k,ρ k≠0→k<w.heap.size)(hb:ρ b=1)(hbox:w.heap[b]?=some (.cells #[nv,x] T (0,0)))(hrole:∀g,nv.ownBlock=some g→ρ g=2)(hrl:rows.length=ns.length)(hrows:∀i n,ns[i]?=some n→∃r,rows[i]?=some r∧ZP w ρ 132 i n r)(hkv:XT w ρ (2*ns.length+4) 3 1 kv n.Xc.length (n.Xc.map Xp))(hav:XT w ρ (2*ns.length+5) 132 3 av n.Xb.length (n.Xb.flatMap Xv))(hU:Upd (fun k=>nv.ownBlock=some k) w w1)(hown:w1.ownsRow 0 e 13 v' (ns.length+1) (rows.flatten++n.cells kv av))(hat:v'.ownBlock=nv.ownBlock∨∃g,v'.ownBlock=some g∧w.heap.size≤g):∃ρ',(∀k,ρ' k≠0→k<(w1.setCell ⟨b,0,none⟩ v').heap.size)∧ρ' b=1∧(w1.setCell ⟨b,0,none⟩ v').heap[b]?=some (.cells #[v',x] T (0,0))∧YX (w1.setCell ⟨b,0,none⟩ v') ρ' e 132 v' (ns++ [n])∧(∀k,k<w.heap.size→ρ' k=ρ k)∧Xr ρ ρ' w (w1.setCell ⟨b,0,none⟩ v')∧Upd (fun k=>k=b∨nv.ownBlock=some k) w (w1.setCell ⟨b,0,none⟩ v'):=by
 have hbl:=lt_of_block hbox
 rcases hown.2 with⟨hv,h0⟩|⟨gg,cap,cur,hv,hb0,hg,hn,hc,hs,ht⟩
 ·omega
 subst hv
 have hat':nv.ownBlock=some gg∨w.heap.size≤gg:=by rcases hat with hat|⟨g,q1,q2⟩;·{left;rw[←hat];rfl};·simp[Value.ownBlock]at q1;subst q1;exact .inr q2
 have hnb:∀k,nv.ownBlock=some k→k≠b:=fun k hk e=>by have:=hrole k hk;rw[e]at this;omega
 have hgb:gg≠b:=by rcases hat' with q|q;·{exact hnb gg q};·omega
 obtain⟨hr',hN⟩:=YX.addedK hl hrole hrl hrows hkv hav hU hown hat'
 have hUb:Upd (fun k=>k=b) w1 (w1.setCell ⟨b,0,none⟩ (.slice (some ⟨gg,0,none⟩) (ns.length+1) cap)):=(Upd.refl (fun k=>k=b) w1).setCell (p:=⟨b,0,none⟩) (.inr rfl) _
 have hF:∀k r,(fun k=>if k=gg then 2 else ρ k) k=r→r≠1→¬k=b:=by rintro k r hk hk1 rfl;dsimp only at hk;rw[if_neg (Ne.symm hgb)]at hk;omega
 obtain⟨rows',hN1,hN2,hN3⟩:=hN
 have hUU:Upd (fun k=>k=b∨nv.ownBlock=some k) w (w1.setCell ⟨b,0,none⟩ (.slice (some ⟨gg,0,none⟩) (ns.length+1) cap)):=(hU.mono (fun k _ hk=> .inr hk)).trans (hUb.mono (fun k _ hk=> .inl hk))
 refine⟨fun k=>if k=gg then 2 else ρ k,fun k hk=>?_,?_,?_,⟨rows',hN1.upd hUb (fun k hk=>hF k _ hk (by omega)),hN2,fun i m hm=>?_⟩,hr',⟨hUU.mono (fun k _ hk=>?_),hr'⟩,hUU⟩
 ·dsimp only at hk;have hsz:(w1.setCell ⟨b,0,none⟩ (.slice (some ⟨gg,0,none⟩) (ns.length+1) cap)).heap.size=w1.heap.size:=by{simp};rw[hsz];split at hk;·{rename_i e;rw[e];exact lt_of_block hg};·exact Nat.lt_of_lt_of_le (hl k hk) hU.size
 ·dsimp only;rw[if_neg (Ne.symm hgb)];exact hb
 ·exact Xf1 ((hU.block b hbl (fun e=>hnb b e rfl)).trans hbox)
 ·obtain⟨r,q1,q2⟩:=hN3 i m hm;exact⟨r,q1,q2.upd hUb (fun k hk=>by rcases hk with hk|hk<;>exact hF k _ hk (by omega))⟩
 ·rcases hk with rfl|hk;·{rw[hb];omega};·rw[hrole k hk];omega
end
end Go.Proofs.YtpicinjcmjaogaaGreat
