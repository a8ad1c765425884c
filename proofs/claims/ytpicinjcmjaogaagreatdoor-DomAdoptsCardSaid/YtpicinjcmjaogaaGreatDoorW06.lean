import Derived.Lib.ItoaNum
import Derived.Test.YtpicinjcmjaogaaGreatDoorChecked
import Derived.Tactics
import Derived.Tactics2
import Derived.Defers
import Derived.Laws.Pointers
import Derived.Laws.LoneSync
import Derived.RegionTactic
import Derived.RegionCalls
import Derived.ChangeAlike
import Derived.BigRegion
import Derived.Lib.Hide
import Derived.Test.YtpicinjcmjaogaaGreatDoorW05
set_option maxRecDepth 100000
set_option maxHeartbeats 4000000
set_option linter.unusedVariables false
namespace Go.Proofs.YtpicinjcmjaogaaGreatDoor
section
def walkF (A : Ar) : Nat → Int → List Int
  | 0, _ => []
  | n + 1, h => h :: ((if (A.get h).Xg ≠ 0 then walkF A n (A.get h).Xg else []) ++ (A.get h).Xc.flatMap (walkF A n))
def Ar.Xi (A : Ar) (h : Int) : List Int := if A.has h then walkF A A.ns.length h else []
def Ar.depth (A : Ar) (h : Int) : Nat := (A.YR true h).length
theorem Xeo {A:Ar}(hI:A.Inv){k h:Int}(hk:A.has k)(hh:A.has h)(hu:A.up k=h):A.YR true k=k::A.YR true h:=XaH (hI.wf.Zs hk) ⟨rfl,hk,by have:Ye A true k=h:=by{simp[Ye,hu]};rw[this];exact hI.wf.Zs hh⟩
theorem Jq {A:Ar}(hI:A.Inv){k h:Int}(hk:A.has k)(hh:A.has h)(hu:A.up k=h):A.depth k=A.depth h+1:=by
 unfold Ar.depth
 rw[Xeo hI hk hh hu]
 simp
theorem XbT {A:Ar}(hI:A.Inv){h:Int}(hh:A.has h):A.depth h≤A.ns.length:=XdV (hI.wf.Zs hh)
theorem XgD {A:Ar}(hI:A.Inv){h:Int}(hh:A.has h):1≤A.depth h:=by
 have:=Xcx (hI.wf.Zs hh) hh
 unfold Ar.depth
 exact List.length_pos_of_mem this
theorem XF {A:Ar}(hI:A.Inv){h k:Int}(hh:A.has h)(hk:k∈(A.get h).Xc):A.has k∧A.up k=h∧(A.get k).Xd=h:=by
 obtain⟨h1,h2⟩:=hI.wf.Xc h hh k hk
 refine⟨h1,?_,h2⟩
 unfold Ar.up
 rw[if_pos (by rw[h2];have:=hh.1;omega),h2]
theorem ZL {A:Ar}(hI:A.Inv){h:Int}(hh:A.has h)(hc:(A.get h).Xg≠0):A.has (A.get h).Xg∧A.up (A.get h).Xg=h∧(A.get (A.get h).Xg).Xd=0:=by
 have ht:XN (A.get h):=Classical.not_not.1 (fun hn=>hc (hI.YG h hh (.inr hn)))
 obtain⟨h1,h2,h3⟩:=hI.cont h hh (by have:=hh.1;omega) ht
 have h4:(A.get (A.get h).Xg).Xd=0:=Classical.not_not.1 (fun hn=>(hI.par _ h1 hn).2 h2)
 refine⟨h1,?_,h4⟩
 unfold Ar.up
 rw[if_neg (by rw[h4];simp),h3]
theorem XaR {α β:Type}{l:List α}{f g:α→List β}(h:∀x∈l,f x=g x):l.flatMap f=l.flatMap g:=by
 induction l with|nil=>{rfl}|cons a l ih=>simp only[List.flatMap_cons];rw[h a (by simp),ih (fun x hx=>h x (by simp[hx]))]
theorem Xep {A:Ar}(hI:A.Inv):∀(f:Nat)(h:Int),A.has h→A.ns.length+1≤f+A.depth h→walkF A f h=walkF A (f+1) h
 |0,h,hh,hf=>by{have:=XbT hI hh;omega}
 |f+1,h,hh,hf=>by{rw[walkF,walkF];congr 1;congr 1;·{split;·{rename_i hc;obtain⟨h1,h2,_⟩:=ZL hI hh hc;exact Xep hI f _ h1 (by rw[Jq hI h1 hh h2];omega)};·rfl};·refine XaR (fun k hk=>?_);obtain⟨h1,h2,_⟩:=XF hI hh hk;exact Xep hI f _ h1 (by rw[Jq hI h1 hh h2];omega)}
theorem Ym {A:Ar}(hI:A.Inv){h:Int}(hh:A.has h):A.Xi h=h::((if(A.get h).Xg≠0 then A.Xi (A.get h).Xg else [])++(A.get h).Xc.flatMap A.Xi):=by
 have h1:A.Xi h=walkF A A.ns.length h:=if_pos hh
 have hd:=XgD hI hh
 rw[h1,Xep hI _ h hh (by omega),walkF]
 congr 1
 congr 1
 ·split;·{rename_i hc;exact(if_pos (ZL hI hh hc).1).symm};·rfl
 ·refine XaR (fun k hk=>?_);exact(if_pos (XF hI hh hk).1).symm
theorem Jc {A:Ar}(hI:A.Inv){P:Int→Prop}(step:∀h,A.has h→((A.get h).Xg≠0→P (A.get h).Xg)→(∀k∈(A.get h).Xc,P k)→P h):∀h,A.has h→P h:=by
 have key:∀(m:Nat)(h:Int),A.has h→A.ns.length-A.depth h≤m→P h:=by intro m;induction m with|zero=>{intro h hh hm;have hd:=XbT hI hh;refine step h hh (fun hc=>?_) (fun k hk=>?_);·{obtain⟨h1,h2,_⟩:=ZL hI hh hc;have:=XbT hI h1;rw[Jq hI h1 hh h2]at this;omega};·obtain⟨h1,h2,_⟩:=XF hI hh hk;have:=XbT hI h1;rw[Jq hI h1 hh h2]at this;omega}|succ m ih=>intro h hh hm;refine step h hh (fun hc=>?_) (fun k hk=>?_);·{obtain⟨h1,h2,_⟩:=ZL hI hh hc;exact ih _ h1 (by rw[Jq hI h1 hh h2];omega)};·obtain⟨h1,h2,_⟩:=XF hI hh hk;exact ih _ h1 (by rw[Jq hI h1 hh h2];omega)
 exact fun h hh=>key _ h hh (Nat.le_refl _)
theorem XbU {A:Ar}(hI:A.Inv){h:Int}(hh:A.has h):h∈A.YR true h:=Xcx (hI.wf.Zs hh) hh
theorem XaS {A:Ar}(hI:A.Inv){x y:Int}(hx:A.has x)(hy:y∈A.YR true x):∃l1,A.YR true x=l1++A.YR true y:=by
 have hw:=hI.wf.Zs hx
 obtain⟨l1,l2,e⟩:=List.append_of_mem hy
 rw[e]at hw
 have hyh:=Xa9 hw y (by simp)
 have h1:=XaH (Xct hw) (hI.wf.Zs hyh)
 exact⟨l1,by rw[e,h1]⟩
theorem Jr {A:Ar}(hI:A.Inv):∀h,A.has h→∀x,x∈A.Xi h↔A.has x∧h∈A.YR true x:=by
 refine Jc hI (fun h hh hc hk x=>?_)
 rw[Ym hI hh]
 constructor
 ·intro hx;have sub:∀y,A.has y→A.up y=h→A.has x∧y∈A.YR true x→A.has x∧h∈A.YR true x:=by{rintro y hy hu⟨h1,h2⟩;obtain⟨l1,e⟩:=XaS hI h1 h2;refine⟨h1,?_⟩;rw[e,Xeo hI hy hh hu];simp[XbU hI hh]};rcases List.mem_cons.1 hx with rfl|hx;·{exact⟨hh,XbU hI hh⟩};·rcases List.mem_append.1 hx with hx|hx;·{split at hx;·{rename_i hcc;obtain⟨h1,h2,_⟩:=ZL hI hh hcc;exact sub _ h1 h2 ((hc hcc x).1 hx)};·simp at hx};·obtain⟨k,hkk,hx⟩:=List.mem_flatMap.1 hx;obtain⟨h1,h2,_⟩:=XF hI hh hkk;exact sub _ h1 h2 ((hk k hkk x).1 hx)
 ·rintro⟨hx,hm⟩;obtain⟨l1,e⟩:=XaS hI hx hm;by_cases hl:l1= [];·{subst hl;have hw:=hI.wf.Zs hx;have h1:=hI.wf.Zs hh;rw[List.nil_append]at e;have hne:A.YR true x≠ []:=fun e=>by{have:=XbU hI hx;rw[e]at this;simp at this};obtain⟨a,l,ea⟩:=List.exists_cons_of_ne_nil hne;rw[ea]at hw e;rw[←e]at h1;have:x=h:=hw.1.symm.trans h1.1;rw[this];simp};·obtain⟨l0,y,rfl⟩:=List.eq_nil_or_concat l1|>.resolve_left hl;simp only[List.append_assoc,List.singleton_append,List.concat_eq_append]at e;have hw:=hI.wf.Zs hx;rw[e]at hw;have hyh:=Xa9 hw y (by simp);have hym:y∈A.YR true x:=by{rw[e];simp};obtain⟨_,_,hw3⟩:=Xct hw;have hup:A.up y=h:=by{have hhh:=hI.wf.Zs hh;have hne:A.YR true h≠ []:=fun e=>by{have:=XbU hI hh;rw[e]at this;simp at this};obtain⟨a,l,ea⟩:=List.exists_cons_of_ne_nil hne;rw[ea]at hw3 hhh;have h1:a=Ye A true y:=hw3.1;have h2:a=h:=hhh.1;rw[←h2,h1];simp[Ye]};refine List.mem_cons.2 (.inr (List.mem_append.2 ?_));by_cases hp:(A.get y).Xd=0;·{have hho:(A.get y).host=h:=by{unfold Ar.up at hup;rw[if_neg (by rw[hp];simp)]at hup;exact hup};obtain⟨_,_,_,h4⟩:=hI.host y hyh (by rw[hho];have:=hh.1;omega);rw[hho]at h4;have hcc:(A.get h).Xg≠0:=by{rw[h4];have:=hyh.1;omega};left;rw[if_pos hcc];exact(hc hcc x).2 ⟨hx,by rw[h4];exact hym⟩};·have hpp:(A.get y).Xd=h:=by{unfold Ar.up at hup;rw[if_pos hp]at hup;exact hup};have hkm:=(hI.wf.link y hyh hp).2.1;rw[hpp]at hkm;right;exact List.mem_flatMap.2 ⟨y,hkm,(hk y hkm x).2 ⟨hx,hym⟩⟩
theorem XgE {A:Ar}(hI:A.Inv){x y z:Int}(hx:A.has x)(hy:y∈A.YR true x)(hz:z∈A.YR true x)(hd:A.depth y=A.depth z):y=z:=by
 obtain⟨l1,e1⟩:=XaS hI hx hy
 obtain⟨l2,e2⟩:=XaS hI hx hz
 have hyh:=Xa9 (hI.wf.Zs hx) y hy
 have hzh:=Xa9 (hI.wf.Zs hx) z hz
 unfold Ar.depth at hd
 have h3:=List.append_inj_right' (e1.symm.trans e2) hd
 have h1:=hI.wf.Zs hyh
 have h2:=hI.wf.Zs hzh
 have hne:A.YR true y≠ []:=fun e=>by have:=XbU hI hyh;rw[e]at this;simp at this
 obtain⟨a,l,ea⟩:=List.exists_cons_of_ne_nil hne
 rw[←h3,ea]at h2
 rw[ea]at h1
 exact h1.1.symm.trans h2.1
theorem XgF {l:List Int}{f:Int→List Int}(hl:l.Nodup)(h1:∀k∈l,(f k).Nodup)(h2:∀j∈l,∀k∈l,∀x,x∈f j→x∈f k→j=k):(l.flatMap f).Nodup:=by
 induction l with|nil=>{simp}|cons a l ih=>rw[List.nodup_cons]at hl;rw[List.flatMap_cons,List.nodup_append];refine⟨h1 a (by simp),ih hl.2 (fun k hk=>h1 k (by simp[hk])) (fun j hj k hk=>h2 j (by simp[hj]) k (by simp[hk])),?_⟩;intro x hx y hy e;subst e;obtain⟨k,hk,hxk⟩:=List.mem_flatMap.1 hy;have:=h2 a (by simp) k (by simp[hk]) x hx hxk;exact hl.1 (by rw[this];exact hk)
theorem Xeq {A:Ar}(hI:A.Inv):∀h,A.has h→(A.Xi h).Nodup:=by
 refine Jc hI (fun h hh hc hk=>?_)
 have hmem:=Jr hI
 rw[Ym hI hh,List.nodup_cons,List.nodup_append]
 have hno:∀y,A.has y→A.up y=h→h∉A.Xi y:=fun y hy hu hm=>by have h1:=((hmem y hy h).1 hm).2;obtain⟨l1,e⟩:=XaS hI hh h1;have h2:=congrArg List.length e;rw[Xeo hI hy hh hu]at h2;simp at h2;omega
 refine⟨fun hm=>?_,?_,?_,?_⟩
 ·rcases List.mem_append.1 hm with hm|hm;·{split at hm;·{rename_i hcc;exact hno _ (ZL hI hh hcc).1 (ZL hI hh hcc).2.1 hm};·simp at hm};·obtain⟨k,hkk,hm⟩:=List.mem_flatMap.1 hm;exact hno _ (XF hI hh hkk).1 (XF hI hh hkk).2.1 hm
 ·split;·{rename_i hcc;exact hc hcc};·exact List.nodup_nil
 ·refine XgF (hI.wf.nodup h hh) hk (fun j hj k hkk x hxj hxk=>?_);obtain⟨j1,j2,_⟩:=XF hI hh hj;obtain⟨k1,k2,_⟩:=XF hI hh hkk;have a:=(hmem j j1 x).1 hxj;have b:=(hmem k k1 x).1 hxk;exact XgE hI a.1 a.2 b.2 (by rw[Jq hI j1 hh j2,Jq hI k1 hh k2])
 ·intro x hx y hy e;subst e;split at hx;·{rename_i hcc;obtain⟨k,hkk,hxk⟩:=List.mem_flatMap.1 hy;obtain⟨c1,c2,c3⟩:=ZL hI hh hcc;obtain⟨k1,k2,k3⟩:=XF hI hh hkk;have a:=(hmem _ c1 x).1 hx;have b:=(hmem k k1 x).1 hxk;have:=XgE hI a.1 a.2 b.2 (by rw[Jq hI c1 hh c2,Jq hI k1 hh k2]);rw[←this,c3]at k3;have:=hh.1;omega};·simp at hx
theorem Z3 {A:Ar}(hI:A.Inv)(h:Int):(A.Xi h).length≤A.ns.length:=by
 by_cases hh:A.has h
 ·exact Xcr _ _ (Xeq hI h hh) (fun x hx=>((Jr hI h hh x).1 hx).1)
 ·unfold Ar.Xi;rw[if_neg hh];exact Nat.zero_le _
theorem Xka {A:Ar}{h:Int}(hh:¬A.has h):A.Xi h= []:=if_neg hh
theorem J0 {A:Ar}(hI:A.Inv)(h x:Int):A.contains h x=decide (x∈A.Xi h):=by
 unfold Ar.contains
 by_cases hh:A.has h
 ·rw[Bool.eq_iff_iff];simp only[decide_eq_true_eq];rw[Jr hI h hh x];exact⟨fun⟨_,a,b⟩=>⟨a,b⟩,fun⟨a,b⟩=>⟨hh,a,b⟩⟩
 ·rw[Xka hh,decide_eq_false (by rintro⟨h1,_⟩;exact hh h1)];simp
end
section
/-- A byte of a quoted string. -/
def escB (c : UInt8) : List UInt8 := if c = 10 then [92, 110] else if c = 34 ∨ c = 92 then [92, c] else [c]
/-- A quoted string. -/
def quoteL (l : List UInt8) : List UInt8 := 34 :: (l.flatMap escB ++ [34])
def quoteS (s : ByteArray) : List UInt8 := quoteL s.toList
theorem escB_len (c:UInt8):(escB c).length≤2:=by
 unfold escB
 split
 ·simp
 ·split<;>simp
theorem esc_len :∀l:List UInt8,(l.flatMap escB).length≤2*l.length
 | []=>by{simp}
 |c::l=>by{have h1:=escB_len c;have h2:=esc_len l;simp only[List.flatMap_cons,List.length_append,List.length_cons];omega}
theorem quoteL_len (l:List UInt8):(quoteL l).length≤2*l.length+2:=by
 have:=esc_len l
 unfold quoteL
 simp only[List.length_cons,List.length_append,List.length_nil]
 omega
/-- The line of an attribute. -/
def attrL (x : Xm) : List UInt8 := [32] ++ (Lib.decDigits x.1.toNat ++ ([58] ++ (quoteS x.2.1 ++ ([61] ++ quoteS x.2.2))))
def attrsL (l : List Xm) : List UInt8 := l.flatMap attrL
/-- The head of an element's line. -/
def elemL (n : Nd) : List UInt8 := [101, 108, 101, 109, 101, 110, 116, 32] ++ (Lib.decDigits n.space.toNat ++ ([32] ++ quoteS n.name))
/-- The text of one node. -/
def lineL (n : Nd) : List UInt8 :=
  if n.Xa = 1 then (if n.XI = true then [100, 111, 99, 117, 109, 101, 110, 116, 32, 113, 117, 105, 114, 107, 115] else [100, 111, 99, 117, 109, 101, 110, 116])
  else if n.Xa = 2 then (if n.host ≠ 0 then [99, 111, 110, 116, 101, 110, 116, 115] else [102, 114, 97, 103, 109, 101, 110, 116])
  else if n.Xa = 3 then [100, 111, 99, 116, 121, 112, 101, 32] ++ (quoteS n.name ++ ([32] ++ (quoteS n.pub ++ ([32] ++ quoteS n.sys))))
  else if n.Xa = 5 then [116, 101, 120, 116, 32] ++ quoteS n.data
  else if n.Xa = 6 then [99, 111, 109, 109, 101, 110, 116, 32] ++ quoteS n.data
  else elemL n ++ attrsL n.Xb
/-- The line of a node at a depth. -/
def lineD (n : Nd) (d : Nat) : List UInt8 := List.replicate (2 * d) 32 ++ (lineL n ++ [10])
end
section
def dumpF (A : Ar) : Nat → Int → Nat → List UInt8
  | 0, _, _ => []
  | f + 1, h, d => lineD (A.get h) d ++ ((if (A.get h).Xg ≠ 0 then dumpF A f (A.get h).Xg (d + 1) else []) ++ (A.get h).Xc.flatMap (fun k => dumpF A f k (d + 1)))
/-- The preorder of a node as text. -/
def Ar.dump (A : Ar) (h : Int) (d : Nat) : List UInt8 := if A.has h then dumpF A A.ns.length h d else []
theorem dumpF_fuel {A:Ar}(hI:A.Inv):∀(f:Nat)(h:Int)(d:Nat),A.has h→A.ns.length+1≤f+A.depth h→dumpF A f h d=dumpF A (f+1) h d
 |0,h,d,hh,hf=>by{have:=XbT hI hh;omega}
 |f+1,h,d,hh,hf=>by{rw[dumpF,dumpF];congr 1;congr 1;·{split;·{rename_i hc;obtain⟨h1,h2,_⟩:=ZL hI hh hc;exact dumpF_fuel hI f _ _ h1 (by rw[Jq hI h1 hh h2];omega)};·rfl};·refine XaR (fun k hk=>?_);obtain⟨h1,h2,_⟩:=XF hI hh hk;exact dumpF_fuel hI f _ _ h1 (by rw[Jq hI h1 hh h2];omega)}
theorem dump_eq {A:Ar}(hI:A.Inv){h:Int}(hh:A.has h)(d:Nat):A.dump h d=lineD (A.get h) d++((if(A.get h).Xg≠0 then A.dump (A.get h).Xg (d+1)else [])++(A.get h).Xc.flatMap (fun k=>A.dump k (d+1))):=by
 have h1:A.dump h d=dumpF A A.ns.length h d:=if_pos hh
 have hd:=XgD hI hh
 rw[h1,dumpF_fuel hI _ h d hh (by omega),dumpF]
 congr 1
 congr 1
 ·split;·{rename_i hc;exact(if_pos (ZL hI hh hc).1).symm};·rfl
 ·refine XaR (fun k hk=>?_);exact(if_pos (XF hI hh hk).1).symm
end
section
theorem flat_congr {α β:Type}{f g:α→List β}:∀(l:List α),(∀x∈l,f x=g x)→l.flatMap f=l.flatMap g
 | [],_=>rfl
 |x::l,h=>by{rw[List.flatMap_cons,List.flatMap_cons,h x (by simp),flat_congr l (fun y hy=>h y (by simp[hy]))]}
theorem cut_dump {A:Ar}(hI:A.Inv){h:Int}(hh:A.has h):∀x,A.has x→A.depth h≤A.depth x→∀d,(A.cut h).dump x d=A.dump x d:=by
 have hJ:(A.cut h).Inv:=hI.cut hh
 refine Jc hI (fun x hx hc hk hle d=>?_)
 rw[dump_eq hJ ((Ar.X5 A h x).2 hx),dump_eq hI hx]
 have hne:x≠(A.get h).Xd:=by intro e;have hz:(A.get h).Xd≠0:=by{rw[←e];have:=hx.1;omega};have hu:A.up h=x:=by{rw[e];unfold Ar.up;rw[if_pos hz]};have:=Jq hI hh hx hu;omega
 have hg:=Ar.Zc hI hh hx
 rw[if_neg hne]at hg
 have e1:lineD ((A.cut h).get x) d=lineD (A.get x) d:=by rw[hg];rfl
 have e2:((A.cut h).get x).Xg=(A.get x).Xg:=by rw[hg]
 have e3:((A.cut h).get x).Xc=(A.get x).Xc:=by rw[hg]
 rw[e1,e2,e3]
 congr 1
 congr 1
 ·split;·{rename_i q;obtain⟨z1,z2,_⟩:=ZL hI hx q;exact hc q (by rw[Jq hI z1 hx z2];omega) _};·rfl
 ·refine flat_congr _ (fun k hkk=>?_);obtain⟨z1,z2,_⟩:=XF hI hx hkk;exact hk k hkk (by rw[Jq hI z1 hx z2];omega) _
theorem cut_dump_own {A:Ar}(hI:A.Inv){h:Int}(hh:A.has h)(d:Nat):(A.cut h).dump h d=A.dump h d:=cut_dump hI hh h hh (Nat.le_refl _) d
end
section
theorem spaces_of {A:Ar}(hI:A.Inv):∀x,A.has x→(0≤(A.get x).space∧(A.get x).space<100)∧∀a∈(A.get x).Xb,0≤a.1∧a.1<100:=fun x hx=>⟨⟨(hI.loc x hx).sp.1,by have:=(hI.loc x hx).sp.2;omega⟩,fun a ha=>⟨((hI.loc x hx).at1 a ha).1,by have:=((hI.loc x hx).at1 a ha).2;omega⟩⟩
end
section
open Go.RowKit
theorem q_disable (w:World):(callFunc 190 #[]).run Tryz.prog w= .ok (.value (.tuple #[])) w:=run_call_mark0 Tryz.func190 (by kernel_rfl) (by kernel_rfl) (by kernel_rfl) .disable (by kernel_rfl) w
theorem q_enable (w:World):(callFunc 192 #[]).run Tryz.prog w= .ok (.value (.tuple #[])) w:=run_call_mark0 Tryz.func192 (by kernel_rfl) (by kernel_rfl) (by kernel_rfl) .enable (by kernel_rfl) w
theorem q_acquire (a:Addr)(w:World):(callFunc 193 #[.pointer (some a)]).run Tryz.prog w= .ok (.value (.tuple #[])) w:=run_call_marked Tryz.func193 (by kernel_rfl) (by kernel_rfl) (by kernel_rfl) .acquire (by kernel_rfl) a w
theorem q_releaseMerge (a:Addr)(w:World):(callFunc 195 #[.pointer (some a)]).run Tryz.prog w= .ok (.value (.tuple #[])) w:=run_call_marked Tryz.func195 (by kernel_rfl) (by kernel_rfl) (by kernel_rfl) .releaseMerge (by kernel_rfl) a w
theorem q_store_deferred (a:Addr)(x:Value)(u:FrameMode)(w:World)(hc:w.cell? a=some x)(hz:w.frozen? a=false):CallsD Tryz.prog 173 #[.pointer (some a),.bool true] u w fun e u' w'=>u'=u∧(e= .returned (.tuple #[])∧w'=w.drew.setCell a (.int .u32 1)):=by
 have hc':w.drew.cell? a=some x:=by go_simp
 have hz':w.drew.frozen? a=false:=by go_simp
 have hst:=run_call_store (P:=Tryz.prog) Tryz.func184 (by kernel_rfl) (by kernel_rfl) (by kernel_rfl) (by kernel_rfl) (k:= .u32) (y:=1) hc' hz'
 go_enter_d Tryz.func173,Tryz.ntmps173
 go_wp2
 go_region_calls
 all_goals(go_end0;exact⟨rfl,rfl⟩)
theorem q_unlock_deferred (a:Addr)(u:FrameMode)(w:World)(hc:w.cell? a=some (.int .i32 1))(hz:w.frozen? a=false):CallsD Tryz.prog 172 #[.pointer (some a)] u w fun e u' w'=>u'=u∧(e= .returned (.tuple #[])∧w'=w.setCell a (.int .i32 0)):=by
 have hd:=q_disable
 have he:=q_enable
 have hr:=q_releaseMerge
 have hadd:=run_call_add (P:=Tryz.prog) Tryz.func196 (by kernel_rfl) (by kernel_rfl) (by kernel_rfl) .i32 (by kernel_rfl) (y:= -1) (s:=0) hc hz (by simp[go_sem];rfl)
 have hcv:=run_convert_to_unsafe (P:=Tryz.prog) (src:=240) (dst:=163) Tryz.underlying240 Tryz.underlying163 (by kernel_rfl) hc
 go_enter_d Tryz.func172,Tryz.ntmps172
 go_wp2
 go_end0
 go_wp2
 go_end0
 exact⟨rfl,rfl⟩
theorem q_lock_free (a:Addr)(w:World)(hc:w.cell? a=some (.int .i32 0))(hz:w.frozen? a=false):Calls Tryz.prog 171 #[.pointer (some a)] w fun e w'=>e= .returned (.tuple #[])∧w'=w.setCell a (.int .i32 1):=by
 have hd:=q_disable
 have he:=q_enable
 have ha:=q_acquire
 have hcas:=run_call_cas_hit (P:=Tryz.prog) Tryz.func191 (by kernel_rfl) (by kernel_rfl) (by kernel_rfl) .i32 (by kernel_rfl) (y:=1) hc hz
 have hc':(w.setCell a (.int .i32 1)).cell? a=some (.int .i32 1):=World.cell?_setCell_same w a _ hc
 have hcv:=run_convert_to_unsafe (P:=Tryz.prog) (src:=240) (dst:=163) Tryz.underlying240 Tryz.underlying163 (by kernel_rfl) hc'
 go_enter Tryz.func171,Tryz.ntmps171
 go_wp2
 first|(go_end0)|(simp only[Exit.inBlock,Exit.then];refine bodyPost_ret (results_none rfl _ _ _) rfl ?_)|refine bodyPost_ret (results_none rfl _ _ _) rfl ?_
 go_wp2
 go_end0
 exact⟨rfl,rfl⟩
theorem q_slow (b:Nat)(w:World)(R:World→Prop)(h0:w.cell? ⟨b,0,none⟩=some (.int .u32 0))(h1:w.cell? ⟨b,1,none⟩=some (.int .i32 0))(f1:w.frozen? ⟨b,1,none⟩=false)(hf:Calls Tryz.prog 154 #[.pointer (some ⟨b,0,none⟩)] (w.setCell ⟨b,1,none⟩ (.int .i32 1)) fun e W=>e= .returned (.tuple #[])∧R W)(hR:∀W,R W→W.cell? ⟨b,0,none⟩=some (.int .u32 0)∧W.frozen? ⟨b,0,none⟩=false∧W.cell? ⟨b,1,none⟩=some (.int .i32 1)∧W.frozen? ⟨b,1,none⟩=false):Calls Tryz.prog 161 #[.pointer (some ⟨b,0,none⟩),.func (.func 154) #[.pointer (some ⟨b,0,none⟩)] #[]] w fun e w'=>e= .returned (.tuple #[])∧∃W,R W∧w'=(W.drew.setCell ⟨b,0,none⟩ (.int .u32 1)).setCell ⟨b,1,none⟩ (.int .i32 0):=by
 have hl:=run_call_load (P:=Tryz.prog) Tryz.func170 (by kernel_rfl) (by kernel_rfl) (by kernel_rfl) .u32 (by kernel_rfl) (w:=w.setCell ⟨b,1,none⟩ (.int .i32 1)) (a:=⟨b,0,none⟩) (x:=0) ((World.cell?_setCell_other _ ⟨b,1,none⟩ ⟨b,0,none⟩ _ (by simp)).trans h0)
 have hnot:∀(x:Bool)(w:World),(Op.unary .not (.bool x)).run Tryz.prog w= .ok (.bool (!x)) w:=fun _ _=>rfl
 go_enter_defers Tryz.func161,Tryz.ntmps161
 go_wp2_with(first|(go_at_call 171;refine(q_lock_free ⟨b,1,none⟩ _ (by go_simp) (by go_simp)).mono ?_;rintro e w'⟨rfl,rfl⟩)|(go_at_call 154;refine hf.mono ?_;rintro e W⟨rfl,hW⟩)|go_in)
 go_wp2
 obtain⟨r0,r1,r2,r3⟩:=hR W hW
 refine leaves_cons (f:=173) (args:= #[.pointer (some ⟨b,0,none⟩),.bool true]) (by simp) (by simp[go_sem]) ?_
 refine(q_store_deferred ⟨b,0,none⟩ (.int .u32 0) .returning _ r0 r1).mono ?_
 rintro e u' w''⟨rfl,rfl,rfl⟩
 refine leaves_cons (f:=172) (args:= #[.pointer (some ⟨b,1,none⟩)]) (by simp[settle]) (by simp[go_sem]) ?_
 refine(q_unlock_deferred ⟨b,1,none⟩ _ _ ?_ (by simp[r3])).mono ?_
 ·refine(World.cell?_setCell_other _ ⟨b,0,none⟩ ⟨b,1,none⟩ _ (by simp)).trans ?_;rw[World.cell?_drew];exact r2
 rintro e u' w''⟨rfl,rfl,rfl⟩
 have hfin:∃W',R W'∧(W.drew.setCell ⟨b,0,none⟩ (.int .u32 1)).setCell ⟨b,1,none⟩ (.int .i32 0)=(W'.drew.setCell ⟨b,0,none⟩ (.int .u32 1)).setCell ⟨b,1,none⟩ (.int .i32 0):=⟨W,hW,rfl⟩
 have HF:=Xqh hfin
 clear hR hf hl h0 h1 hfin hW
 simp[Leaves,settle,results,Tryz.f161]
 exact HF.out
theorem q_do (b:Nat)(w:World)(R:World→Prop)(h0:w.cell? ⟨b,0,none⟩=some (.int .u32 0))(h1:w.cell? ⟨b,1,none⟩=some (.int .i32 0))(f1:w.frozen? ⟨b,1,none⟩=false)(hf:Calls Tryz.prog 154 #[.pointer (some ⟨b,0,none⟩)] (w.setCell ⟨b,1,none⟩ (.int .i32 1)) fun e W=>e= .returned (.tuple #[])∧R W)(hR:∀W,R W→W.cell? ⟨b,0,none⟩=some (.int .u32 0)∧W.frozen? ⟨b,0,none⟩=false∧W.cell? ⟨b,1,none⟩=some (.int .i32 1)∧W.frozen? ⟨b,1,none⟩=false):Calls Tryz.prog 153 #[.pointer (some ⟨b,0,none⟩),.func (.func 154) #[.pointer (some ⟨b,0,none⟩)] #[]] w fun e w'=>e= .returned (.tuple #[])∧∃W,R W∧w'=(W.drew.setCell ⟨b,0,none⟩ (.int .u32 1)).setCell ⟨b,1,none⟩ (.int .i32 0):=by
 have hl:=run_call_load (P:=Tryz.prog) Tryz.func170 (by kernel_rfl) (by kernel_rfl) (by kernel_rfl) .u32 (by kernel_rfl) (w:=w) (a:=⟨b,0,none⟩) (x:=0) h0
 have hnot:∀(x:Bool)(w:World),(Op.unary .not (.bool x)).run Tryz.prog w= .ok (.bool (!x)) w:=fun _ _=>rfl
 have HS:=Xqh (q_slow b w R h0 h1 f1 hf hR)
 clear hf hR h0 h1 f1
 go_enter Tryz.func153,Tryz.ntmps153
 go_wp2_with(first|(go_at_call 161;refine HS.out.mono ?_;rintro e w'⟨rfl,hw⟩)|go_in)
 go_wp2
 go_end0
 exact⟨rfl,hw⟩
end
end Go.Proofs.YtpicinjcmjaogaaGreatDoor
