import Derived.Test.YtpicinjcmjaogaaGreatZ06
set_option maxRecDepth 100000
set_option maxHeartbeats 4000000
set_option linter.unusedVariables false
namespace Go.Proofs.YtpicinjcmjaogaaGreat
section
/-- m steps up; 0 stays. -/
def upI (A : Ar) : Nat → Int → Int
  | 0, h => h
  | m + 1, h => if upI A m h = 0 then 0 else A.up (upI A m h)
theorem upI_add (A:Ar)(i j:Nat)(h:Int):upI A (i+j) h=upI A j (upI A i h):=by
 induction j with|zero=>{rfl}|succ j ih=>show(if upI A (i+j) h=0 then 0 else A.up (upI A (i+j) h))=(if upI A j (upI A i h)=0 then 0 else A.up (upI A j (upI A i h)));rw[ih]
theorem upI_one {A:Ar}{h:Int}(hh:h≠0):upI A 1 h=A.up h:=by
 show(if h=0 then 0 else A.up h)=A.up h
 rw[if_neg hh]
theorem upI_zero (A:Ar)(m:Nat):upI A m 0=0:=by
 induction m with|zero=>{rfl}|succ m ih=>show(if upI A m 0=0 then 0 else _)=0;rw[if_pos ih]
theorem has_ne {A:Ar}{h:Int}(hh:A.has h):h≠0:=by
 have:=hh.1
 omega
/-- Every link up is a handle. -/
def Ar.UpOK (A : Ar) : Prop := ∀ h, A.has h → A.up h ≠ 0 → A.has (A.up h)
theorem upI_has {A:Ar}(hC:A.UpOK){h:Int}(hh:A.has h):∀m,upI A m h=0∨A.has (upI A m h)
 |0=>Or.inr hh
 |m+1=>by{show(if upI A m h=0 then 0 else A.up (upI A m h))=0∨A.has (if upI A m h=0 then 0 else A.up (upI A m h));rcases upI_has hC hh m with h0|h1;·{rw[if_pos h0];exact Or.inl rfl};·rw[if_neg (has_ne h1)];by_cases hu:A.up (upI A m h)=0;·{exact Or.inl hu};·exact Or.inr (hC _ h1 hu)}
theorem way_of_upI {A:Ar}(hC:A.UpOK):∀(m:Nat)(h:Int),(A.has h∨h=0)→upI A m h=0→∃path,A.Way A.up h path
 |0,h,_,h0=>⟨[],h0⟩
 |m+1,h,hh,h0=>by{rcases hh with hh|hh;·{have e:upI A (m+1) h=upI A m (A.up h):=by{rw[Nat.add_comm m 1,upI_add,upI_one (has_ne hh)]};rw[e]at h0;have hu:A.has (A.up h)∨A.up h=0:=by{by_cases hu:A.up h=0;·{exact Or.inr hu};·exact Or.inl (hC _ hh hu)};obtain⟨path,hp⟩:=way_of_upI hC m (A.up h) hu h0;exact⟨h::path,rfl,hh,hp⟩};·exact⟨[],hh⟩}
theorem upI_of_way {A:Ar}:∀{path:List Int}{h:Int},A.Way A.up h path→∀j,upI A j h=(path[j]?).getD 0
 | [],h,hw,j=>by{have h0:h=0:=hw;rw[h0,upI_zero];simp}
 |x::l,h,hw,j=>by{obtain⟨hx,hh,hl⟩:=hw;cases j with|zero=>{rw[hx];rfl}|succ j=>rw[Nat.add_comm j 1,upI_add,upI_one (has_ne hh),upI_of_way hl j];simp[Nat.add_comm 1 j]}
theorem nodup_of_inj {l:List Int}(h:∀(i j:Nat)(hi:i<l.length)(hj:j<l.length),i<j→l[i]≠l[j]):l.Nodup:=by
 unfold List.Nodup
 rw[List.pairwise_iff_getElem]
 exact fun i j hi hj hij=>h i j hi hj hij
theorem rooted_iff {A:Ar}(hC:A.UpOK):(∀h,A.has h→∀j:Nat,1≤j→j≤A.ns.length+1→upI A j h≠h)↔∀h,A.has h→∃path,A.Way A.up h path:=by
 constructor
 ·intro hno h hh;by_cases hz:∃m,upI A m h=0;·{obtain⟨m,hm⟩:=hz;exact way_of_upI hC m h (Or.inl hh) hm};·exfalso;have hall:∀m,A.has (upI A m h):=fun m=>by{rcases upI_has hC hh m with h0|h1;·{exact absurd ⟨m,h0⟩ hz};·exact h1};have hnd:((List.range (A.ns.length+1)).map (fun m=>upI A m h)).Nodup:=by{refine nodup_of_inj (fun i j hi hj hij=>?_);simp only[List.length_map,List.length_range]at hi hj;simp only[List.getElem_map,List.getElem_range];intro e;have e2:upI A (j-i) (upI A i h)=upI A i h:=by{rw[←upI_add,show i+(j-i)=j by(omega)];exact e.symm};exact hno _ (hall i) (j-i) (by omega) (by omega) e2};have hlen:=Xcr A.ns.length _ hnd (fun x hx=>by obtain⟨m,-,rfl⟩:=List.mem_map.1 hx;exact hall m);rw[List.length_map,List.length_range]at hlen;omega
 ·intro hw h hh j hj1 hj2 e;obtain⟨path,hp⟩:=hw h hh;have hnd:=Xf6 hp;have hj:=upI_of_way hp j;have h0:=upI_of_way hp 0;have e0:(path[0]?).getD 0=h:=h0.symm;rw[e]at hj;by_cases hl:j<path.length;·{rw[List.getElem?_eq_getElem hl]at hj;rw[List.getElem?_eq_getElem (by omega:0<path.length)]at e0;simp only[Option.getD_some]at hj e0;unfold List.Nodup at hnd;rw[List.pairwise_iff_getElem]at hnd;exact hnd 0 j (by omega) hl (by omega) (by rw[e0,←hj])};·rw[List.getElem?_eq_none (by omega)]at hj;simp only[Option.getD_none]at hj;exact has_ne hh hj
/-- The fields of a description are those of its Xa. -/
structure Nd.FieldsOK (n : Nd) : Prop where
  k1 : 1 ≤ n.Xa
  k6 : n.Xa ≤ 6
  Xc : n.Xc ≠ [] → n.Xa = 1 ∨ n.Xa = 2 ∨ n.Xa = 4
  sp : XS n.space
  el : n.Xa ≠ 4 → n.space = 0 ∧ n.Xb = []
  nm : n.Xa ≠ 4 → n.Xa ≠ 3 → n.name = ByteArray.empty
  ps : n.Xa ≠ 3 → n.pub = ByteArray.empty ∧ n.sys = ByteArray.empty
  da : n.data ≠ ByteArray.empty → n.Xa = 5 ∨ n.Xa = 6
  qu : n.XI = true → n.Xa = 1
  ct : n.Xg ≠ 0 → XN n
  ho : n.host ≠ 0 → n.Xa = 2
  at1 : Ys n.Xb
  at2 : (XZ n.Xb).length = n.Xb.length
/-- The Xcw of a node, but for the ways up and the places among the Xc. -/
structure Ar.LinksOK (A : Ar) (h : Int) : Prop where
  fi : (A.get h).FieldsOK
  docH : A.has (A.get h).doc
  ZV : (A.get (A.get h).doc).Xa = 1
  XbJ : (A.get h).Xa = 1 → (A.get h).doc = h
  par : (A.get h).Xd ≠ 0 → A.has (A.get h).Xd ∧ (A.get h).Xa ≠ 1 ∧ (A.get h).Xa ≠ 2
  kid : ∀ k ∈ (A.get h).Xc, A.has k ∧ (A.get k).Xd = h
  con : XN (A.get h) → A.has (A.get h).Xg ∧ (A.get (A.get h).Xg).Xa = 2 ∧ (A.get (A.get h).Xg).host = h
  hos : (A.get h).host ≠ 0 → A.has (A.get h).host ∧ XN (A.get (A.get h).host) ∧ (A.get (A.get h).host).Xg = h
/-- Each node is once among the children of its Xd. -/
structure Ar.OnceOK (A : Ar) (h : Int) : Prop where
  nd : (A.get h).Xc.Nodup
  mem : (A.get h).Xd ≠ 0 → h ∈ (A.get (A.get h).Xd).Xc
def Ar.Rooted (A : Ar) : Prop := ∀ h, A.has h → ∃ path, A.Way A.up h path
/-- Sound descriptions. -/
def Ar.SoundP (A : Ar) : Prop := (∀ h, A.has h → A.LinksOK h) ∧ (∀ h, A.has h → A.OnceOK h) ∧ A.Rooted
theorem Ar.LinksOK.up {A:Ar}(h:∀x,A.has x→A.LinksOK x):A.UpOK:=by
 intro x hx hu
 unfold Ar.up at hu⊢
 by_cases hp:(A.get x).Xd=0
 ·simp only[hp,ne_eq,not_true_eq_false,if_false]at hu⊢;exact((h x hx).hos hu).1
 ·simp only[hp,ne_eq,not_false_eq_true,if_true]at hu⊢;exact((h x hx).par hp).1
theorem Nd.Local.fields {n:Nd}(h:n.Local)(hk:n.Xc≠ []→n.Xa=1∨n.Xa=2∨n.Xa=4)(hc:n.Xg≠0→XN n)(hh:n.host≠0→n.Xa=2):n.FieldsOK where k1:=h.k1;k6:=h.k6;Xc:=hk;sp:=h.sp;el:=h.el;nm:=h.nm;ps:=h.ps;da:=fun hd=>by{by_cases h5:n.Xa=5;·{exact Or.inl h5};·by_cases h6:n.Xa=6;·{exact Or.inr h6};·exact absurd (h.da h5 h6) hd};qu:=fun hq=>by{by_cases h1:n.Xa=1;·{exact h1};·rw[h.qu h1]at hq;cases hq};ct:=hc;ho:=hh;at1:=h.at1;at2:=by{rw[h.at2]}
theorem Ar.Inv.sound {A:Ar}(hI:A.Inv):A.SoundP:=by
 refine⟨fun h hh=>?_,fun h hh=>⟨hI.wf.nodup h hh,fun hp=>(hI.wf.link h hh hp).2.1⟩,fun h hh=>hI.wf.way h hh⟩
 have h0:h≠0:=has_ne hh
 refine⟨(hI.loc h hh).fields (hI.ZB h hh) (fun hc=>?_) (fun hc=>(hI.host h hh hc).1),(hI.ZV h hh).1,(hI.ZV h hh).2,hI.XbJ h hh,fun hp=>⟨(hI.wf.link h hh hp).1,hI.par h hh hp⟩,hI.wf.Xc h hh,hI.cont h hh h0,fun hc=>(hI.host h hh hc).2⟩
 by_cases ht:XN (A.get h)
 ·exact ht
 ·exact absurd (hI.YG h hh (Or.inr ht)) hc
end
section
open Go.RowKit
end
section
open Go.RowKit
theorem Xhm (A:Ar)(b:Nat)(a:Option Addr)(c:Nat)(h:Int)(w:World)(h0:w.cell? ⟨b,0,none⟩=some (.slice a (A.ns.length+1) c))(hm:(A.ns.length:Int)+1≤9223372036854775807):Calls Tryz.prog 64 #[.pointer (some ⟨b,0,none⟩),.int .i64 h] w fun e w'=>e= .returned (.bool (decide (A.has h)))∧w=w':=by
 by_cases h1:0<h
 ·go_enter Tryz.func64,Tryz.ntmps64;go_wp2;go_ret;exact⟨XW (decide_eq_decide.2 ⟨fun q=>⟨by omega,by unfold Ar.n;omega⟩,fun q=>by have:=q.2;unfold Ar.n at this;omega⟩),rfl⟩
 ·go_enter Tryz.func64,Tryz.ntmps64;go_wp2;go_ret;exact⟨XW (decide_eq_false (fun hc=>by have:=hc.1;omega)).symm,rfl⟩
theorem Xdc (s:Int)(w:World):Calls Tryz.prog 103 #[.int .i64 s] w fun e w'=>e= .returned (.bool (decide (XS s)))∧w=w':=by
 by_cases h0:0≤s
 ·go_enter Tryz.func103,Tryz.ntmps103;go_wp2;go_ret;exact⟨XW (by rw[Bool.eq_iff_iff];simp[XS,h0]),rfl⟩
 ·go_enter Tryz.func103,Tryz.ntmps103;go_wp2;go_ret;exact⟨XW (decide_eq_false (fun h=>by have:=h.1;omega)).symm,rfl⟩
theorem Xe2 (v:Value)(l:List Xm)(w:World)(hv:XE w v l):Calls Tryz.prog 104 #[v] w fun e w'=>e= .returned (.bool (decide (Ys l)))∧w=w':=by
 have HV:=Xqh hv
 obtain⟨a,c,rfl,hc1,hc2,-⟩:=hv.form
 clear hv
 go_enter Tryz.func104,Tryz.ntmps104
 go_wp2
 go_loop [3](fun i=>∃k:Nat,k≤l.length∧i= .int .i64 k∧Hid (∀j x,j<k→l[j]?=some x→XS x.1))(fun i=>l.length-(intOf i).toNat)
 case atStart=>exact⟨0,Nat.zero_le _,rfl,fun j x hj=>by omega⟩
 case round=>obtain⟨k,hk,rfl,hT⟩:=hrel;by_cases hlt:k<l.length;·{obtain⟨b1,o1,rfl,-,hcs⟩:=HV.out.cells (by omega);obtain⟨x,hx⟩:∃x,l[k]?=some x:=⟨_,List.getElem?_eq_getElem hlt⟩;obtain⟨d0,-,-⟩:=hcs k x hx;have HX:=Xqh hx;clear hcs hx;go_wp2_with fail;refine(Xdc x.1 _).mono ?_;rintro e w'⟨rfl,rfl⟩;by_cases hs:XS x.1;·{have hd:decide (XS x.1)=true:=decide_eq_true hs;rw[hd];have HSS:=Xqh hs;clear hs hd;go_wp2;go_round;(case rel=>exact⟨k+1,hlt,by go_num,fun j y hj hy=>by by_cases hjk:j<k;·{exact hT.out j y hjk hy};·have:j=k:=by{omega};rw[this,HX.out]at hy;simp at hy;rw[←hy];exact HSS.out⟩);case measure=>simp[intOf];omega};·have hd:decide (XS x.1)=false:=decide_eq_false hs;rw[hd];have HSS:=Xqh hs;clear hs hd;go_wp2;go_ret;exact⟨XW (decide_eq_false (fun h=>HSS.out (h x (List.mem_of_getElem? HX.out)))).symm,rfl⟩};·go_wp2;go_ret;exact⟨XW (decide_eq_true (fun x hx=>by obtain⟨j,hj,rfl⟩:=List.getElem_of_mem hx;exact hT.out j _ (by omega) (List.getElem?_eq_getElem hj))).symm,rfl⟩
theorem Xll (n:Nd)(kv av:Value)(w:World):Calls Tryz.prog 106 #[.agg (n.cells kv av).toArray] w fun e w'=>e= .returned (.bool (decide (XN n)))∧Below w.heap.size w w':=by
 have F:=XaY w n kv av 46
 obtain⟨x0,x1,x2,x3,x4,x5,x6,x7,x8,x9,x10,x11,x12⟩:=n
 unfold Nd.cells at F⊢
 dsimp only at F⊢
 clear F
 go_enter Tryz.func106,Tryz.ntmps106
 go_wp2
 all_goals go_ret;refine⟨XW ?_,Xw _ _⟩
 all_goals first|(refine(decide_eq_false (fun h=>?_)).symm;obtain⟨q0,q1,q2⟩:=h;dsimp only at q0 q1 q2;simp_all;done)|(rw[Bool.eq_iff_iff];simp_all[XN,Xa8];done)
end
section
open Go.RowKit
end
section
open Go.RowKit
end
section
open Go.RowKit Classical
/-- An arena of the document's of which the nodes Xj are known. -/
def RN (w : World) (b : Nat) (A : Ar) : Prop := ∃ nb o c, w.cell? ⟨b, 0, none⟩ = some (.slice (some ⟨nb, o, none⟩) (A.ns.length + 1) c) ∧ A.ns.length + 1 ≤ c ∧ c ≤ 9223372036854775807 ∧
  ∀ x, A.has x → 1 ≤ x ∧ x ≤ A.ns.length ∧ ∃ kv av, YB w nb (o + x.toNat * 13) (A.get x) kv av ∧ Xy w kv (A.get x).Xc ∧ XE w av (A.get x).Xb
theorem RN.below {w w':World}{b:Nat}{A:Ar}(h:RN w b A)(hb:Below w.heap.size w w'):RN w' b A:=by
 obtain⟨nb,o,c,h0,h1,h2,h3⟩:=h
 refine⟨nb,o,c,Below.old hb h0,h1,h2,fun x hx=>?_⟩
 obtain⟨q1,q2,kv,av,F,hK,hA⟩:=h3 x hx
 exact⟨q1,q2,kv,av,F.below hb,hK.below hb,hA.below hb⟩
theorem Xlu (A:Ar)(b:Nat)(h:Int)(w:World)(hA:RN w b A)(hh:A.has h):Calls Tryz.prog 199 #[.pointer (some ⟨b,0,none⟩),.int .i64 h] w fun e w'=>e= .returned (.int .i64 (A.up h))∧w=w':=by
 obtain⟨nb,o,c,h0,h1,h2,h3⟩:=hA
 obtain⟨q1,q2,kv,av,F,-,-⟩:=h3 h hh
 have k1:=F.c1
 have k12:=F.c12
 by_cases hp:(A.get h).Xd=0
 ·have hu:A.up h=(A.get h).host:=by{unfold Ar.up;simp[hp]};have e:((A.get h).Xd !=0)=false:=by{simp[hp]};rw[hu];clear hu hp F h3 hh;go_enter Tryz.func199,Tryz.ntmps199;go_wp2;go_ret;exact⟨rfl,rfl⟩
 ·have hu:A.up h=(A.get h).Xd:=by{unfold Ar.up;simp[hp]};have e:((A.get h).Xd !=0)=true:=by{simp[hp]};rw[hu];clear hu hp F h3 hh;go_enter Tryz.func199,Tryz.ntmps199;go_wp2;go_ret;exact⟨rfl,rfl⟩
theorem Circular_any (A:Ar)(b:Nat)(h:Int)(w:World)(hA:RN w b A)(hh:A.has h)(hC:A.UpOK):Calls Tryz.prog 132 #[.pointer (some ⟨b,0,none⟩),.int .i64 h] w fun e w'=>e= .returned (.bool (decide (∃j:Nat,1≤j∧j≤A.ns.length+1∧upI A j h=h)))∧w=w':=by
 have HU:=Xqh (fun x hx=>Xlu A b x w hA hx)
 obtain⟨nb,o,c,h0,h1,h2,-⟩:=hA
 have HH:=Xqh hh
 have HC:=Xqh hC
 have hu1:upI A 1 h=A.up h:=upI_one (has_ne hh)
 have HU1:=Xqh hu1
 clear hh hC hu1
 go_enter Tryz.func132,Tryz.ntmps132
 go_wp2_with fail
 refine(HU.out h HH.out).mono ?_
 rintro e w'⟨rfl,rfl⟩
 rw[←HU1.out]
 go_wp2
 go_loop [5,6](fun at' s=>∃k:Nat,k≤A.ns.length+1∧s= .int .i64 k∧at'= .int .i64 (upI A (k+1) h)∧Hid (∀j:Nat,1≤j→j≤k→upI A j h≠h))(fun _ s=>A.ns.length+1-(intOf s).toNat)
 case atStart=>exact⟨0,Nat.zero_le _,rfl,rfl,fun j h1 h2=>by omega⟩
 case round=>obtain⟨k,hk,rfl,rfl,hT⟩:=hrel;by_cases hz:upI A (k+1) h=0;·{have hz':(upI A (k+1) h !=0)=false:=by{simp[hz]};have HN:Hid (¬∃j:Nat,1≤j∧j≤A.ns.length+1∧upI A j h=h):=Xqh (by rintro⟨j,j1,j2,e⟩;by_cases hjk:j≤k;·{exact hT.out j j1 hjk e};·have:upI A j h=0:=by{rw[show j=(k+1)+(j-(k+1))by(omega),upI_add,hz,upI_zero]};rw[this]at e;exact has_ne HH.out e.symm);clear hz hT;go_wp2;go_ret;exact⟨XW (decide_eq_false HN.out).symm,rfl⟩};·have hz':(upI A (k+1) h !=0)=true:=by{simp[hz]};have hhas:A.has (upI A (k+1) h):=by{rcases upI_has HC.out HH.out (k+1)with q|q;·{exact absurd q hz};·exact q};have hst:upI A (k+1+1) h=A.up (upI A (k+1) h):=by{show(if upI A (k+1) h=0 then 0 else A.up (upI A (k+1) h))=_;rw[if_neg hz]};have HST:=Xqh hst;have HHAS:=Xqh hhas;clear hz hst hhas;by_cases hlt:k<A.ns.length+1;·{by_cases he:upI A (k+1) h=h;·{have he':(upI A (k+1) h==h)=true:=by{simp[he]};have HE:=Xqh he;clear he hT;go_wp2;go_ret;exact⟨XW (decide_eq_true ⟨k+1,by omega,by omega,HE.out⟩).symm,rfl⟩};·have he':(upI A (k+1) h==h)=false:=by{simp[he]};have HE:=Xqh he;clear he;go_wp2_with fail;refine(HU.out _ HHAS.out).mono ?_;rintro e w'⟨rfl,rfl⟩;rw[←HST.out];go_wp2;go_round;(case rel=>exact⟨k+1,by omega,by go_num,rfl,fun j j1 j2=>by by_cases hjk:j≤k;·{exact hT.out j j1 hjk};·have:j=k+1:=by{omega};rw[this];exact HE.out⟩);case measure=>simp[intOf];omega};·have HN:Hid (¬∃j:Nat,1≤j∧j≤A.ns.length+1∧upI A j h=h):=Xqh (by rintro⟨j,j1,j2,e⟩;exact hT.out j j1 (by omega) e);clear hT;go_wp2;go_ret;exact⟨XW (decide_eq_false HN.out).symm,rfl⟩
end
section
open Go.RowKit
end
section
open Go.RowKit
end
section
open Go.RowKit
theorem Xls {O:List Xm}{j:Nat}{o:Xm}(p:Xm→Bool)(ho:O[j]?=some o):(O.take (j+1)).any p=((O.take j).any p||p o):=by
 have hk:=(List.getElem?_eq_some_iff.1 ho).1
 rw[List.take_succ_eq_append_getElem hk,(List.getElem?_eq_some_iff.1 ho).2]
 simp
theorem Xhp (v:Value)(l:List Xm)(w:World)(hv:XE w v l)(hsmall:l.length≤1000000):Calls Tryz.prog 105 #[v] w fun e w'=>Below w.heap.size w w'∧∃v',e= .returned v'∧w'.ownsRow w.heap.size 132 3 v' (XZ l).length ((XZ l).flatMap Xv):=by
 obtain⟨i0,hi,hz0,hz1,hz2⟩:=info_parts Xae
 have HI:=Xqh hi
 have HV:=Xqh hv
 obtain⟨av,cv,rfl,hc1,hc2,-⟩:=hv.form
 clear hi hv
 go_enter Tryz.func105,Tryz.ntmps105
 go_wp2
 go_loopw [3,4](fun out i wr=>∃k:Nat,k≤l.length∧i= .int .i64 k∧Hid (wr.ownsRow w.heap.size 132 3 out (XZ (l.take k)).length ((XZ (l.take k)).flatMap Xv))∧Below w.heap.size w wr)(fun _ i _=>l.length-(intOf i).toNat)
 case atStart=>exact⟨0,Nat.zero_le _,rfl,World.ownsRow_nil _ _ _ _,Below.refl _ _⟩
 case round=>obtain⟨k,hk,rfl,hO,hB⟩:=hrel;by_cases hlt:k<l.length;·{obtain⟨y,hy⟩:∃y,l[k]?=some y:=⟨_,List.getElem?_eq_getElem hlt⟩;have hst:=Xd4 hy;have hcl:(XZ (l.take k)).length≤1000000:=by{have:=Xd3 (l.take k) [];simp only[List.length_nil,Nat.zero_add,List.length_take]at this;change(List.foldl Y3 [] _).length≤_;omega};have HY:=Xqh hy;have HST:=Xqh hst;have HB:=Xqh hB;have HO:=Xqh hO.out;have hform:=X6 hO.out;generalize hOO:XZ (l.take k)=O at*;obtain⟨oa,oc,rfl⟩:=hform;clear hOO hst hy hO hB;go_wp2;go_loopw [5,6](fun sn j wr2=>∃(jj:Nat)(bb:Bool),jj≤O.length∧j= .int .i64 jj∧sn= .bool bb∧Hid (bb=(O.take jj).any (Zl y)∧Below wr.heap.size wr wr2))(fun _ j _=>O.length-(intOf j).toNat);(case atStart=>exact⟨0,false,Nat.zero_le _,rfl,rfl,by simp,Below.refl _ _⟩);case round=>obtain⟨jj,bb,hj,rfl,rfl,hT⟩:=hrel;by_cases hlt2:jj<O.length;·{obtain⟨o,ho⟩:∃o,O[jj]?=some o:=⟨_,List.getElem?_eq_getElem hlt2⟩;have hat:=Xls (Zl y) ho;obtain⟨b1,o1,rfl,-,hcs1⟩:=(Xd5 (Z0 HO.out hT.out.2)).cells (by omega);obtain⟨b2,o2,rfl,-,hcs2⟩:=((HV.out.below HB.out).below hT.out.2).cells (by omega);obtain⟨d0,d1,-⟩:=hcs1 jj o ho;obtain⟨e0,e1,-⟩:=hcs2 k y HY.out;have HAT:=Xqh hat;have HT:=hT;clear hcs1 hcs2 ho hat hT;obtain⟨os,on,ov⟩:=o;obtain⟨ys,yn,yv⟩:=y;dsimp only at d0 d1 e0 e1;by_cases t1:os=ys;·{have u1:(os==ys)=true:=by{simp[t1]};by_cases t2:on=yn;·{have u2:(on.toList==yn.toList)=true:=by{simp[t2]};have HX:Hid (true=(O.take (jj+1)).any (Zl (ys,yn,yv))):=Xqh (by rw[HAT.out];simp[Zl,t1,t2]);clear t1 t2;go_wp2_with(go_quiet(fail));go_wp2;go_roundw;(case rel=>exact⟨jj+1,true,hlt2,by go_num,rfl,HX.out,Below.drewN HT.out.2 _⟩);case measure=>simp[intOf];omega};·have u2:(on.toList==yn.toList)=false:=by{rw[Xa7];simp[t2]};have HX:Hid (bb=(O.take (jj+1)).any (Zl (ys,yn,yv))):=Xqh (by rw[HAT.out,HT.out.1];simp[Zl];intro _ e;exact absurd e.symm t2);clear t1 t2;go_wp2_with(go_quiet(fail));go_wp2;go_roundw;(case rel=>exact⟨jj+1,bb,hlt2,by go_num,rfl,HX.out,Below.drewN HT.out.2 _⟩);case measure=>simp[intOf];omega};·have u1:(os==ys)=false:=by{simp[t1]};have HX:Hid (bb=(O.take (jj+1)).any (Zl (ys,yn,yv))):=Xqh (by rw[HAT.out,HT.out.1];simp[Zl];intro e;exact absurd e.symm t1);clear t1;go_wp2_with(go_quiet(fail));go_wp2;go_roundw;(case rel=>exact⟨jj+1,bb,hlt2,by go_num,rfl,HX.out,Below.drewN HT.out.2 _⟩);case measure=>simp[intOf];omega};·have hjl:O.take jj=O:=List.take_of_length_le (by omega);have hbb:=hT.out.1;rw[hjl]at hbb;have hBw:Below w.heap.size w wr:=HB.out.trans (hT.out.2.mono HB.out.size);have HO2:=Xqh (Z0 HO.out hT.out.2);have hwi:w.heap.size≤wr.heap.size:=hBw.size;have HBW:=Xqh hBw;have hBa:=hT.out.2;clear hjl hT;cases bb with|true=>{have HX:Hid (XZ (l.take (k+1))=O):=Xqh (by rw[HST.out];unfold Y3;rw[if_pos hbb.symm]);clear hbb hBw;go_wp2;go_roundw;(case rel=>exact⟨k+1,hlt,by go_num,by rw[HX.out];exact HO2,HBW.out⟩);case measure=>simp[intOf];omega}|false=>have HX:Hid (XZ (l.take (k+1))=O++ [y]):=Xqh (by rw[HST.out];unfold Y3;rw[if_neg (by rw[←hbb];simp)]);obtain⟨b2,o2,rfl,-,hcs2⟩:=((HV.out.below HB.out).below hBa).cells (by omega);obtain⟨e0,e1,e2⟩:=hcs2 k y HY.out;clear hbb hBw hcs2 hBa;obtain⟨ys,yn,yv⟩:=y;dsimp only at e0 e1 e2;go_wp2_with(at_builtin;refine wpList_append_own _ rfl _ _ 44 rfl w.heap.size 132 i0 _ 3 40 Tryz.underlying44 HI.out hz0 hz1 hz2 rfl (by decide) _ _ _ rfl (HO2.out.alloc _) ⟨wr.heap.size,0,none⟩ 1 1 (Xv (ys,yn,yv)) rfl rfl ?_ ?_ ?_ ?_ ?_ ?_);·{intro j u hj;rw[Addr.add_mid,Nat.zero_add];exact Yi rfl (by simpa[Xv]using hj)};·{intro u hu;simp[Xv]at hu;rcases hu with rfl|rfl|rfl<;>rfl};·{unfold maxLen;omega};·{omega};·{simp;omega};intro v' w3 hown hgrow _;have hB3:Below w.heap.size w w3:=(HBW.out.alloc hwi _).grown hgrow (by simp;omega) (fun k hk=>(Yx HO2.out k hk).1);have hown':w3.ownsRow w.heap.size 132 3 v' (XZ (l.take (k+1))).length ((XZ (l.take (k+1))).flatMap Xv):=by{rw[HX.out,Xgf,List.length_append];exact hown};have HO3:=Xqh hown';clear hown hown' hgrow;go_wp2;go_roundw;(case rel=>exact⟨k+1,hlt,by go_num,HO3,hB3⟩);case measure=>simp[intOf];omega};·have hkl:l.take k=l:=List.take_of_length_le (by omega);have HO2:=Xqh (by have:=hO.out;rwa[hkl]at this);go_wp2;go_ret;exact⟨hB,_,rfl,HO2.out⟩
end
end Go.Proofs.YtpicinjcmjaogaaGreat
