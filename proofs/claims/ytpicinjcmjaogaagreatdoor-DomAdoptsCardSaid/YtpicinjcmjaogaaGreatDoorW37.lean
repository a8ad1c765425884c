import Derived.Shelf.SlMaps.Clone
import Derived.Shelf.SlMaps.Equal
import Derived.Test.YtpicinjcmjaogaaGreatDoorW09
set_option maxRecDepth 100000
set_option maxHeartbeats 4000000
set_option linter.unusedVariables false
namespace Go.Proofs.YtpicinjcmjaogaaGreatDoor
section
open Go.RowKit Go.Shelf Go.Maps
def laysMC_ren : Go.Shelf.Ren := ⟨fun | 5 => 35 | 7 => 78 | n => n, fun | 23 => 68 | 25 => 3 | 3 => 3 | 4 => 4 | 20 => 20 | n => n, fun | n => n⟩
theorem laysMC :Go.Proofs.SlLaysW.n5 Tryz.prog laysMC_ren:={mixed:=by{kernel_rfl},f5:=⟨"maps.Clone[map[int]int,int,int]",by kernel_rfl,Eq.trans (b:=some Tryz.f35) Tryz.func35 (congrArg some (show Tryz.f35={SlBodyW.n5 laysMC_ren with name:= "maps.Clone[map[int]int,int,int]"}from by kernel_rfl))⟩,f7:=by{kernel_rfl},t4:=Tryz.underlying4,a4:=Tryz.isAgg4,z4:=Tryz.sizeOf4,v4:=Tryz.zeroValue4,t20:=Tryz.underlying20,a20:=Tryz.isAgg20,z20:=Tryz.sizeOf20,v20:=Tryz.zeroValue20,t23:=Tryz.underlying68,a23:=Tryz.isAgg68,z23:=Tryz.sizeOf68,v23:=Tryz.zeroValue68}
theorem MClone_any (mv:Value)(I:List Int)(ρ:Nat→Nat)(w:World)(hm:Jb w ρ mv I):Calls Tryz.prog 35 #[mv] w fun e w'=>Below w.heap.size w w'∧∃mv',e= .returned mv'∧((mv'= .map none∧w'=w)∨(mv'= .map (some w.heap.size)∧w'.heap.size=w.heap.size+1))∧∀σ:Nat→Nat,(∀mb,mv'= .map (some mb)→σ mb=3)→Jb w' σ mv' I:=by
 obtain⟨L,h1,h2,h3⟩:=hm
 rcases h3 with⟨rfl,rfl⟩|⟨mb,rfl,hr,hb⟩
 ·refine(AnyW.maps_Clone_nil laysMC w).mono ?_;rintro e w'⟨rfl,rfl⟩;exact⟨Below.refl _ _,_,rfl,.inl ⟨rfl,rfl⟩,fun σ _=>⟨[],h1,h2,.inl ⟨rfl,rfl⟩⟩⟩
 ·refine(AnyW.maps_Clone laysMC mb _ _ w hb).mono ?_;rintro e w'⟨rfl,rfl⟩;exact⟨Xw _ _,_,rfl,.inr ⟨rfl,by simp⟩,fun σ hσ=>⟨L,h1,h2,.inr ⟨_,rfl,hσ _ rfl,(MapKept.heap_alloc w _).1⟩⟩⟩
def laysME_ren : Go.Shelf.Ren := ⟨fun | 6 => 42 | n => n, fun | 0 => 0 | 3 => 3 | 4 => 4 | 23 => 68 | 24 => 68 | 26 => 3 | 27 => 3 | 36 => 124 | n => n, fun | n => n⟩
theorem laysME :Go.Proofs.SlLaysEq.n6 Tryz.prog laysME_ren:={mixed:=by{kernel_rfl},f6:=⟨"maps.Equal[map[int]int,map[int]int,int,int]",by kernel_rfl,Eq.trans (b:=some Tryz.f42) Tryz.func42 (congrArg some (show Tryz.f42={SlBodyEq.n6 laysME_ren with name:= "maps.Equal[map[int]int,map[int]int,int,int]"}from by kernel_rfl))⟩,t0:=Tryz.underlying0,a0:=Tryz.isAgg0,z0:=Tryz.sizeOf0,v0:=Tryz.zeroValue0,t3:=Tryz.underlying3,a3:=Tryz.isAgg3,z3:=Tryz.sizeOf3,v3:=Tryz.zeroValue3,t4:=Tryz.underlying4,a4:=Tryz.isAgg4,z4:=Tryz.sizeOf4,v4:=Tryz.zeroValue4,t23:=Tryz.underlying68,a23:=Tryz.isAgg68,z23:=Tryz.sizeOf68,v23:=Tryz.zeroValue68,t24:=Tryz.underlying68,a24:=Tryz.isAgg68,z24:=Tryz.sizeOf68,v24:=Tryz.zeroValue68,a26:=Tryz.isAgg3,z26:=Tryz.sizeOf3,a27:=Tryz.isAgg3,z27:=Tryz.sizeOf3,t36:=Tryz.underlying124,a36:=Tryz.isAgg124,z36:=Tryz.sizeOf124}
/-- One entry as data. -/
def litD (p : Int × Int) : Lit × DataW Unit := (.int .i64 p.1, .lit (.int .i64 p.2))
def mapD (L : List (Int × Int)) : DataW Unit := .map ((L.map litD).foldr DataW.insert [])
def okPair (p : Int × Int) : Prop := 0 ≤ p.1 ∧ p.1 ≤ 1000000 ∧ 0 ≤ p.2 ∧ p.2 ≤ 1000000
theorem wf_small {a:Int}(h0:0≤a)(h1:a≤1000000):(Lit.int .i64 a).wf=true:=WalkArith.wf_i64 (by omega)
theorem rd_pair {p:Int×Int}(h:okPair p)(i:Nat):WideElems.rd Tryz.prog 3 (plainElem (H:=Unit) Tryz.prog 3) {key:=Xp p.1,val:=Xp p.2,born:=i}=some (litD p):=WideElems.rd_mk (yv:=(.lit (.int .i64 p.2),[])) (Maps.keyOf_int_mk Tryz.underlying3 (wf_small h.1 h.2.1)) (plainElem_int Tryz.underlying3 (wf_small h.2.2.1 h.2.2.2))
theorem map_mapIdx' {α β γ:Type}(l:List α)(f:Nat→α→β)(g:β→γ):(l.mapIdx f).map g=l.mapIdx (fun i x=>g (f i x)):=by
 apply List.ext_getElem (by simp)
 intro i h1 h2
 simp
theorem mapEs_list (L:List (Int×Int)):(Yj L).toList=L.mapIdx (fun i p=>{key:=Xp p.1,val:=Xp p.2,born:=i}):=by
 simp[Yj]
theorem owns_mapEs {w:World}{mb:Nat}{L:List (Int×Int)}(hb:w.heap[mb]?=some (.map (Yj L) L.length))(hn:(L.map Prod.fst).Nodup)(hok:∀p∈L,okPair p)(hl:L.length≤1000000):w.ownsMap Tryz.prog 3 (plainElem (H:=Unit) Tryz.prog 3) mb L.length (mapD L):=by
 have hrd:∀x∈(Yj L).toList,∃i p,p∈L∧L[i]?=some p∧x={key:=Xp p.1,val:=Xp p.2,born:=i}:=by intro x hx;rw[mapEs_list,List.mem_mapIdx]at hx;obtain⟨i,hi,rfl⟩:=hx;exact⟨i,L[i],List.getElem_mem hi,List.getElem?_eq_getElem hi,rfl⟩
 refine⟨Yj L,L.length,hb,⟨by rw[XjL];unfold maxLen;omega,⟨fun x hx=>?_,?_,?_⟩,fun x hx=>?_⟩,by rw[XjL];exact Nat.le_refl _,?_⟩
 ·obtain⟨i,p,_,h2,rfl⟩:=hrd x hx;exact(List.getElem?_eq_some_iff.1 h2).1
 ·rw[mapEs_list,map_mapIdx'];show(L.mapIdx (fun i _=>i)).Nodup;unfold List.Nodup;rw[List.pairwise_iff_getElem];intro i j hi hj hij;simp only[List.getElem_mapIdx];omega
 ·rw[mapEs_list,map_mapIdx'];unfold List.Nodup at hn⊢;rw[List.pairwise_iff_getElem]at hn⊢;intro i j hi hj hij;simp only[List.length_mapIdx]at hi hj;have:=hn i j (by simpa using hi) (by simpa using hj) hij;simp only[List.getElem_map]at this;simp only[List.getElem_mapIdx,Xp];intro e;injection e with _ e;exact this e
 ·obtain⟨i,p,h1,_,rfl⟩:=hrd x hx;exact⟨_,rd_pair (hok p h1) i⟩
 ·unfold mapD;congr 2;rw[mapEs_list,map_mapIdx'];apply List.ext_getElem (by simp);intro i h1 h2;simp only[List.length_mapIdx,List.length_map]at h1 h2;simp only[List.getElem_map,List.getElem_mapIdx];exact(WideElems.rg_of (rd_pair (hok _ (List.getElem_mem h2)) i)).symm
theorem sub_len :∀(l1 l2:List Int),l1.Nodup→(∀x∈l1,x∈l2)→l1.length≤l2.length
 | [],l2,_,_=>Nat.zero_le _
 |a::l1,l2,hn,hs=>by{rw[List.nodup_cons]at hn;have ha:=hs a (by simp);have:=sub_len l1 (l2.erase a) hn.2 (fun x hx=>(List.mem_erase_of_ne (fun e=>hn.1 (by rw[←e];exact hx))).2 (hs x (by simp[hx])));rw[List.length_erase_of_mem ha]at this;have hp:=List.length_pos_of_mem ha;simp;omega}
theorem sub_rev :∀(l1 l2:List Int),l1.Nodup→(∀x∈l1,x∈l2)→l2.length≤l1.length→∀x∈l2,x∈l1
 | [],l2,_,_,hl=>by{have:l2= []:=List.eq_nil_of_length_eq_zero (by simpa using hl);subst this;intro x hx;exact hx}
 |a::l1,l2,hn,hs,hl=>by{rw[List.nodup_cons]at hn;have ha:=hs a (by simp);have hr:=sub_rev l1 (l2.erase a) hn.2 (fun x hx=>(List.mem_erase_of_ne (fun e=>hn.1 (by rw[←e];exact hx))).2 (hs x (by simp[hx]))) (by rw[List.length_erase_of_mem ha];simp at hl;omega);intro x hx;by_cases e:x=a;·{simp[e]};·simp[hr x ((List.mem_erase_of_ne e).2 hx)]}
theorem lookup_mem {L:List (Int×Int)}(hn:(L.map Prod.fst).Nodup):∀(k v:Int),L.lookup k=some v↔(k,v)∈L:=by
 induction L with|nil=>{intro k v;simp}|cons p L ih=>obtain⟨a,b⟩:=p;simp only[List.map_cons,List.nodup_cons]at hn;intro k v;rw[List.lookup_cons];by_cases e:k=a;·{subst e;simp only[beq_self_eq_true,Option.some.injEq,List.mem_cons,Prod.mk.injEq,true_and];constructor;·{intro h;exact .inl h.symm};·rintro(h|h);·{exact h.symm};·exact absurd (List.mem_map_of_mem (f:=Prod.fst) h) hn.1};·have:(k==a)=false:=by{simp[e]};rw[this];simp only[List.mem_cons,Prod.mk.injEq,e,false_and,false_or];exact ih hn.2 k v
def Reads (L : List (Int × Int)) (I : List Int) : Prop := ∀ k : Int, L.lookup k = if 1 ≤ k ∧ I[k.toNat]?.getD 0 ≠ 0 then some (I[k.toNat]?.getD 0) else none
theorem maps_iff {L1 L2:List (Int×Int)}{I J:List Int}(n1:(L1.map Prod.fst).Nodup)(n2:(L2.map Prod.fst).Nodup)(r1:Reads L1 I)(r2:Reads L2 J)(hl:I.length=J.length)(h1:I[0]?=some 0)(h2:J[0]?=some 0):(L1.length=L2.length∧∀p∈L1,L2.lookup p.1=some p.2)↔I=J:=by
 constructor
 ·rintro⟨hlen,hall⟩;have hsub:∀x∈L1.map Prod.fst,x∈L2.map Prod.fst:=by{intro x hx;obtain⟨p,hp,rfl⟩:=List.mem_map.1 hx;exact List.mem_map_of_mem (f:=Prod.fst) ((lookup_mem n2 _ _).1 (hall p hp))};have hrev:=sub_rev _ _ n1 hsub (by simp;omega);apply List.ext_getElem?;intro i;by_cases hi:i=0;·{subst hi;rw[h1,h2]};·by_cases hil:i<I.length;·{have hjl:i<J.length:=by{omega};rw[List.getElem?_eq_getElem hil,List.getElem?_eq_getElem hjl];congr 1;have a1:=r1 i;have a2:=r2 i;simp only[Int.toNat_natCast,List.getElem?_eq_getElem hil,List.getElem?_eq_getElem hjl,Option.getD_some]at a1 a2;have hge:(1:Int)≤i:=by{omega};by_cases hz:I[i]=0;·{rw[if_neg (by simp[hz])]at a1;by_cases hw:J[i]=0;·{rw[hz,hw]};·rw[if_pos ⟨hge,hw⟩]at a2;obtain⟨p,hp,e⟩:=List.mem_map.1 (hrev i (List.mem_map_of_mem (f:=Prod.fst) ((lookup_mem n2 _ _).1 a2)));have:=(lookup_mem n1 p.1 p.2).2 hp;rw[e,a1]at this;cases this};·rw[if_pos ⟨hge,hz⟩]at a1;have:=hall _ ((lookup_mem n1 _ _).1 a1);dsimp only at this;rw[a2]at this;split at this;·{injection this with this;exact this.symm};·cases this};·rw[List.getElem?_eq_none (by omega),List.getElem?_eq_none (by omega)]
 ·rintro rfl;have hlk:∀k,L1.lookup k=L2.lookup k:=fun k=>(r1 k).trans (r2 k).symm;have hall:∀p∈L1,L2.lookup p.1=some p.2:=fun p hp=>by{rw[←hlk];exact(lookup_mem n1 _ _).2 hp};refine⟨?_,hall⟩;have q1:=sub_len (L1.map Prod.fst) (L2.map Prod.fst) n1 (fun x hx=>by obtain⟨p,hp,rfl⟩:=List.mem_map.1 hx;exact List.mem_map_of_mem (f:=Prod.fst) ((lookup_mem n2 _ _).1 (hall p hp)));have q2:=sub_len (L2.map Prod.fst) (L1.map Prod.fst) n2 (fun x hx=>by obtain⟨p,hp,rfl⟩:=List.mem_map.1 hx;have:=(lookup_mem n2 p.1 p.2).2 hp;rw[←hlk]at this;exact List.mem_map_of_mem (f:=Prod.fst) ((lookup_mem n1 _ _).1 this));simp at q1 q2;omega
def eqI (a b : DataW Unit) : Bool := match a, b with
  | .lit (.int _ x), .lit (.int _ y) => decide (x = y)
  | _, _ => false
theorem sorted_any (L:List (Int×Int))(k:Int):((L.map litD).foldr DataW.insert []).any (fun p=>p.1.sameKey (.int .i64 k))=decide (k∈L.map Prod.fst):=by
 rw[Bool.eq_iff_iff]
 simp only[List.any_eq_true,decide_eq_true_eq]
 constructor
 ·rintro⟨p,hp,hk⟩;obtain⟨q,hq,rfl⟩:=List.mem_map.1 (mem_sorted.1 hp);simp only[litD,Lit.sameKey,true_and,decide_eq_true_eq]at hk;rw[←hk];exact List.mem_map_of_mem (f:=Prod.fst) hq
 ·intro hk;obtain⟨q,hq,rfl⟩:=List.mem_map.1 hk;exact⟨litD q,mem_sorted.2 (List.mem_map_of_mem hq),by simp[litD,Lit.sameKey]⟩
theorem good_iff {L2:List (Int×Int)}(n2:(L2.map Prod.fst).Nodup)(p:Int×Int):Lib.goodD eqI (mapD L2) (litD p)=true↔L2.lookup p.1=some p.2:=by
 unfold Lib.goodD
 rw[Bool.and_eq_true]
 have hh:Maps.has (mapD L2) (litD p).1=decide (p.1∈L2.map Prod.fst):=sorted_any L2 p.1
 rw[hh,decide_eq_true_eq]
 cases hf:((L2.map litD).foldr DataW.insert []).find? (fun q=>q.1.sameKey (litD p).1)with|none=>{have hat:(mapD L2).atKey (litD p).1 .nil= .nil:=by{unfold mapD DataW.atKey;simp only[hf]};rw[hat];constructor;·{rintro⟨h1,h2⟩;simp[litD,eqI]at h2};·intro h;have:=List.find?_eq_none.1 hf (litD (p.1,p.2)) (mem_sorted.2 (List.mem_map_of_mem ((lookup_mem n2 _ _).1 h)));simp[litD,Lit.sameKey]at this}|some q=>have hm:=mem_sorted.1 (List.mem_of_find?_eq_some hf);have hk:=List.find?_some hf;obtain⟨r,hr,rfl⟩:=List.mem_map.1 hm;simp only[litD,Lit.sameKey,true_and,decide_eq_true_eq]at hk;have hl:=(lookup_mem n2 r.1 r.2).2 hr;rw[hk]at hl;have hat:(mapD L2).atKey (litD p).1 .nil=(litD r).2:=by{unfold mapD DataW.atKey;simp only[hf]};rw[hat];constructor;·{rintro⟨h1,h2⟩;simp only[litD,eqI,decide_eq_true_eq]at h2;rw[hl,h2]};·intro h;rw[hl]at h;injection h with h;exact⟨by rw[←hk];exact List.mem_map_of_mem (f:=Prod.fst) hr,by simp[litD,eqI,h]⟩
/-- A map as data: nil, or its entries. -/
def SrcD (D : DataW Unit) (L : List (Int × Int)) : Prop := D = mapD L ∨ (D = .nil ∧ L = [])
theorem equal_iff {D1 D2:DataW Unit}{L1 L2:List (Int×Int)}(s1:SrcD D1 L1)(s2:SrcD D2 L2)(n2:(L2.map Prod.fst).Nodup):Lib.equalFuncD eqI D1 D2=true↔(L1.length=L2.length∧∀p∈L1,L2.lookup p.1=some p.2):=by
 have z1:Maps.size D1=L1.length:=by rcases s1 with rfl|⟨rfl,rfl⟩;·{show((L1.map litD).foldr DataW.insert []).length=_;rw[length_sorted];simp};·rfl
 have z2:Maps.size D2=L2.length:=by rcases s2 with rfl|⟨rfl,rfl⟩;·{show((L2.map litD).foldr DataW.insert []).length=_;rw[length_sorted];simp};·rfl
 unfold Lib.equalFuncD
 rw[Bool.and_eq_true,z1,z2,decide_eq_true_eq]
 constructor
 ·rintro⟨h1,h2⟩;refine⟨h1,fun p hp=>?_⟩;have hp0:=List.length_pos_of_mem hp;rcases s1 with rfl|⟨rfl,rfl⟩;·{rcases s2 with rfl|⟨rfl,rfl⟩;·{exact(good_iff n2 p).1 (List.all_eq_true.1 h2 _ (mem_sorted.2 (List.mem_map_of_mem hp)))};·rw[List.length_nil]at h1;omega};·cases hp
 ·rintro⟨h1,h2⟩;refine⟨h1,?_⟩;rcases s1 with rfl|⟨rfl,rfl⟩;·{rcases s2 with rfl|⟨rfl,rfl⟩;·{rw[List.all_eq_true];intro x hx;obtain⟨p,hp,rfl⟩:=List.mem_map.1 (mem_sorted.1 hx);exact(good_iff n2 p).2 (h2 p hp)};·have:L1= []:=List.eq_nil_of_length_eq_zero (by simpa using h1);subst this;rfl};·rfl
theorem src_of {w:World}{ρ:Nat→Nat}{mv:Value}{I:List Int}(hm:Jb w ρ mv I)(hb:∀i:Nat,0≤I[i]?.getD 0∧I[i]?.getD 0≤1000000)(hl:I.length≤1000000):∃p L D,mv= .map p∧(L.map Prod.fst).Nodup∧Reads L I∧SrcD D L∧SrcOf Tryz.prog 3 (plainElem (H:=Unit) Tryz.prog 3) w p D:=by
 obtain⟨L,h1,h2,h3⟩:=hm
 rcases h3 with⟨rfl,rfl⟩|⟨mb,rfl,hr,hbk⟩
 ·exact⟨none,[],.nil,rfl,h2,h1,.inr ⟨rfl,rfl⟩,.inl ⟨rfl,rfl⟩⟩
 ·have hok:∀p∈L,okPair p∧0≤p.1∧p.1.toNat<I.length:=by{intro p hp;have hlk:=(lookup_mem h2 p.1 p.2).2 hp;rw[h1 p.1]at hlk;split at hlk;·{rename_i hc;injection hlk with hlk;have hi:p.1.toNat<I.length:=by{by_cases hi:p.1.toNat<I.length;·{exact hi};·rw[List.getElem?_eq_none (by omega)]at hc;simp at hc};have:=hb p.1.toNat;rw[hlk]at this;exact⟨⟨by omega,by omega,this.1,this.2⟩,by omega,hi⟩};·cases hlk};have hll:L.length≤1000000:=by{have:=Xcr (I.length) (L.map Prod.fst) h2 (fun x hx=>by obtain⟨p,hp,rfl⟩:=List.mem_map.1 hx;have hlk:=(lookup_mem h2 p.1 p.2).2 hp;rw[h1 p.1]at hlk;split at hlk;·{rename_i hc;have:=(hok p hp).2.2;omega};·cases hlk);simp at this;omega};exact⟨some mb,L,mapD L,rfl,h2,h1,.inl rfl,.inr ⟨mb,L.length,rfl,owns_mapEs hbk h2 (fun p hp=>(hok p hp).1) hll⟩⟩
theorem MEqual_any (m1 m2:Value)(I J:List Int)(ρ σ:Nat→Nat)(w:World)(h1:Jb w ρ m1 I)(h2:Jb w σ m2 J)(b1:∀i:Nat,0≤I[i]?.getD 0∧I[i]?.getD 0≤1000000)(b2:∀i:Nat,0≤J[i]?.getD 0∧J[i]?.getD 0≤1000000)(hl:I.length=J.length)(hs:I.length≤1000000)(z1:I[0]?=some 0)(z2:J[0]?=some 0):Calls Tryz.prog 42 #[m1,m2] w fun e w'=>e= .returned (.bool (decide (I=J)))∧Below w.heap.size w w':=by
 obtain⟨p1,L1,D1,rfl,n1,r1,s1,q1⟩:=src_of h1 b1 hs
 obtain⟨p2,L2,D2,rfl,n2,r2,s2,q2⟩:=src_of h2 b2 (by omega)
 refine(AnyEq.maps_Equal_opt laysME (int_keyed Tryz.underlying3) _ _ eqI p1 p2 D1 D2 w q1 q2 (.int .i64 0) Tryz.zeroValue3 (.lit (.int .i64 0)) [] (plainElem_int Tryz.underlying3 (wf_small (by omega) (by omega))) ?_).mono ?_
 ·intro W x y xd yd xp yp hx hy;obtain⟨a,rfl,e1,-⟩:=plainElem_int_inv Tryz.underlying3 hx;obtain⟨b,rfl,e2,-⟩:=plainElem_int_inv Tryz.underlying3 hy;injection e1 with e1 _;injection e2 with e2 _;subst e1;subst e2;refine⟨?_,fun _ _=>by rw[eqGuard_at_int];rfl⟩;have e:(!eqI (.lit (.int .i64 a)) (.lit (.int .i64 b)))=(a !=b):=by{simp[eqI,bne,Bool.beq_eq_decide_eq]};rw[e];simp[go_sem,binOp];try rfl
 ·rintro e w'⟨rfl,hg⟩;refine⟨?_,(Below.refl _ _).grown hg (Nat.le_refl _) (fun k hk=>by cases hk)⟩;congr 2;rw[Bool.eq_iff_iff,decide_eq_true_eq,equal_iff s1 s2 n2];exact maps_iff n1 n2 r1 r2 hl z1 z2
end
section
open Go.RowKit Classical
/-- The copy at k nodes. -/
def CopyI (A : Ar) (w : World) (bo : Nat) (mv : Value) (k : Nat) (nv : Value) (σ : Nat → Nat) (wr : World) : Prop :=
  Below w.heap.size w wr ∧ (∀ j, σ j ≠ 0 → j < wr.heap.size) ∧ (∀ j, σ j ≠ 0 → w.heap.size ≤ j) ∧ σ bo = 1 ∧ wr.heap[bo]? = some (.cells #[nv, mv] 72 (0, 0)) ∧
    YX wr σ 74 120 nv (A.ns.take k) ∧ Jb wr σ mv A.Xh
theorem CopyI.step {A:Ar}{w wr W w2 w3:World}{bo k gg cap:Nat}{mv nv kv av:Value}{σ:Nat→Nat}{rows:List (List Value)}{n:Nd}(hI:CopyI A w bo mv k nv σ wr)(hn:A.ns[k]?=some n)(hrl:rows.length=(A.ns.take k).length)(hrows:∀i n,(A.ns.take k)[i]?=some n→∃r,rows[i]?=some r∧ZP wr σ 120 i n r)(hrole:∀g,nv.ownBlock=some g→σ g=2)(hW:Below wr.heap.size wr W)(hB:Below W.heap.size W w2)(hk:w2.ownsRow W.heap.size 3 1 kv n.Xc.length (n.Xc.map Xp))(ha:w2.ownsRow W.heap.size 120 3 av n.Xb.length (n.Xb.flatMap Xv))(o:Obj)(hg:(w2.alloc o).grownBy w3 nv.ownBlock)(hown:w3.ownsRow 0 74 13 (.slice (some ⟨gg,0,none⟩) (k+1) cap) (k+1) (rows.flatten++n.cells kv av))(hat:nv.ownBlock=some gg∨gg=w2.heap.size+1):∃σ',CopyI A w bo mv (k+1) (.slice (some ⟨gg,0,none⟩) (k+1) cap) σ' (w3.setCell ⟨bo,0,none⟩ (.slice (some ⟨gg,0,none⟩) (k+1) cap)):=by
 obtain⟨c1,c2,c3,c4,c5,c6,c7⟩:=hI
 have hklt:k<A.ns.length:=(List.getElem?_eq_some_iff.1 hn).1
 have hkl:(A.ns.take k).length=k:=by simp;omega
 have hst:A.ns.take (k+1)=A.ns.take k++ [n]:=by rw[List.take_succ_eq_append_getElem hklt,(List.getElem?_eq_some_iff.1 hn).2]
 have hWs:=hW.size
 have h2s:=hB.size
 have hB2:Below wr.heap.size wr w2:=hW.trans (hB.mono hWs)
 have hB2a:Below wr.heap.size wr (w2.alloc o):=hB2.alloc hB2.size _
 obtain⟨σ1,e1,e2,e3,e4,e5⟩:=roles_two (e:=0) (ρ:=σ) (base:=W.heap.size) (i:=k) (fun j hj=>Nat.lt_of_lt_of_le (c2 j hj) hWs) h2s hk ha
 have hbl:=lt_of_block c5
 have hbox:(w2.alloc o).heap[bo]?=some (.cells #[nv,mv] 72 (0,0)):=(hB2a.block bo hbl).trans c5
 have hupd:Upd (fun _=>False) wr (w2.alloc o):=Upd.below hB2a
 obtain⟨σ2,f1,f2,f3,f4,f5,f6,f7⟩:=box_addK (w:=w2.alloc o) (w1:=w3) (ρ:=σ1) (b:=bo) (T:=72) (e:=74) (nv:=nv) (x:=mv) (kv:=kv) (av:=av) (v':= .slice (some ⟨gg,0,none⟩) (k+1) cap) (ns:=A.ns.take k) (n:=n) (rows:=rows) (fun j hj=>by have:=e3 j hj;simp;omega) (by rw[e1 bo (by omega)];exact c4) hbox (fun g hg=>by have:=hrole g hg;rw[e1 g (by omega)];exact this) hrl (fun i m hm=>by obtain⟨r,q1,q2⟩:=hrows i m hm;exact⟨r,q1,(q2.upd hupd (fun _ _ h=>h)).ext e1⟩) (by rw[hkl];exact e4.upd (Upd.below (F:=fun _=>False) (Xw w2 o)) (fun _ _ h=>h)) (by rw[hkl];exact e5.upd (Upd.below (F:=fun _=>False) (Xw w2 o)) (fun _ _ h=>h)) (Upd.grown hg (fun j hj=>hj)) (by rw[hkl];exact hown) (by rcases hat with h|h;·{exact .inl (by rw[h];rfl)};·exact .inr ⟨gg,rfl,by simp[h]⟩)
 have hnvge:∀j,nv.ownBlock=some j→w.heap.size≤j:=fun j hj=>c3 j (by rw[hrole j hj];omega)
 have hall:Upd (fun j=>j=bo∨nv.ownBlock=some j) w (w3.setCell ⟨bo,0,none⟩ (.slice (some ⟨gg,0,none⟩) (k+1) cap)):=(Upd.below (c1.trans (hB2a.mono c1.size))).trans f7
 have hσ2:∀j,σ2 j≠0→w.heap.size≤j:=fun j hj=>by by_cases h1:j<(w2.alloc o).heap.size;·{rw[f5 j h1]at hj;by_cases h2:j<W.heap.size;·{rw[e2 j h2]at hj;exact c3 j hj};·have:=c1.size;omega};·have:=c1.size;simp at h1;omega
 refine⟨σ2,hall.toBelow (fun j hj h=>?_),f1,hσ2,f2,f3,by rw[hst];exact f4,?_⟩
 ·rcases h with rfl|h;·{have:=c3 j (by rw[c4];omega);omega};·have:=hnvge j h;omega
 ·have m1:=((c7.upd hupd (fun _ _ h=>h)).ext e1).role f5;refine m1.upd f7 (fun j hj h=>?_);rcases h with rfl|h;·{rw[f2]at hj;omega};·have h3:=hrole j h;have hjl:j<(w2.alloc o).heap.size:=by{have:=c2 j (by omega);simp;omega};rw[f5 j hjl,e1 j (by omega),h3]at hj;omega
theorem infoNodeT :(Tryz.prog.info? 74).map (fun i=>(i.zero,i.size,i.bytes))=some (some (.agg #[.int .i64 0,.int .i64 0,.slice none 0 0,.int .i64 0,.int .i64 0,.string ByteArray.empty,.slice none 0 0,.string ByteArray.empty,.string ByteArray.empty,.string ByteArray.empty,.bool false,.int .i64 0,.int .i64 0]),13,168):=by
 kernel_rfl
theorem Copy_any (A:Ar)(ρ:Nat→Nat)(b:Nat)(w:World)(hA:Xz w ρ b A)(hS:A.YC):Calls Tryz.prog 9 #[.pointer (some ⟨b,0,none⟩)] w fun e w'=>Below w.heap.size w w'∧∃bo σ,e= .returned (.pointer (some ⟨bo,0,none⟩))∧Xz w' σ bo A∧∀j,σ j≠0→w.heap.size≤j:=by
 obtain⟨i0,hi,hz0,hz1,hz2⟩:=info_parts infoNodeT
 obtain⟨a,c,mv,h0,h1,hf,hlt,hm,hN⟩:=hA.head
 obtain⟨q1,q2,q3,nv0,mv0,q4,q5,q6⟩:=id hA
 have hmv:mv=mv0:=by have:w.cell? ⟨b,1,none⟩=some mv0:=by{rw[cell_of_row w b _ _ _ _ q4];rfl};rw[h1]at this;injection this
 subst hmv
 have HI:=Xqh hi
 have HS:=Xqh hS
 have HN:=Xqh hN
 have hsm:=hS.1
 have HIL:=Xqh q3
 have HCL:=Xqh (MClone_any mv A.Xh ρ w q6)
 clear hi hS hN q1 q2 q3 q4 q5 q6 hA hf
 go_enter Tryz.func9,Tryz.ntmps9
 go_wp2_with fail
 refine HCL.out.mono ?_
 rintro e w1⟨hB1,mv',rfl,hcase,hIM⟩
 have hw1:w.heap.size≤w1.heap.size:=hB1.size
 have hnew:∀mb,mv'= .map (some mb)→mb<w1.heap.size∧w.heap.size≤mb:=by intro mb hmb;rcases hcase with⟨rfl,-⟩|⟨rfl,hs⟩;·{cases hmb};·simp at hmb;subst hmb;omega
 have hst0:CopyI A w w1.heap.size mv' 0 (.slice none 0 0) (fun j=>if j=w1.heap.size then 1 else if mv'= .map (some j)then 3 else 0) (w1.alloc (.cells #[.slice none 0 0,mv'] 72)):=by refine⟨hB1.trans ((Xw _ _).mono hw1),fun j hj=>?_,fun j hj=>?_,by simp,(MapKept.heap_alloc w1 _).1,⟨[],⟨World.ownsRow_nil _ _ _ _,fun g hg=>by simp[Value.ownBlock]at hg⟩,rfl,fun i n hn=>by simp at hn⟩,?_⟩;·{dsimp only at hj;split at hj;·{rename_i e;simp[e]};·split at hj;·{rename_i e;have:=hnew j e;simp;omega};·exact absurd rfl hj};·{dsimp only at hj;split at hj;·{rename_i e;omega};·split at hj;·{rename_i e;exact(hnew j e).2};·exact absurd rfl hj};·refine(hIM _ (fun mb hmb=>?_)).upd (Upd.below (F:=fun _=>False) (Xw _ _)) (fun _ _ h=>h);have:=hnew mb hmb;rw[if_neg (by omega),if_pos hmb]
 obtain⟨mp,hmp⟩:∃mp,mv'= .map mp:=by rcases hcase with⟨rfl,-⟩|⟨rfl,-⟩<;>exact⟨_,rfl⟩
 subst hmp
 have HST:=Xqh hst0
 have hB1':=hB1
 have g0:(w1.alloc (.cells #[.slice none 0 0,.map mp] 72)).cell? ⟨b,0,none⟩=some (.slice a A.ns.length c):=Below.old (Xw _ _) (Below.old hB1 h0)
 clear hst0 hnew hIM hcase hB1 hB1'
 generalize hbo:w1.heap.size=bo at*
 go_wp2
 go_loopw [19](fun i wr=>∃k:Nat,k≤A.ns.length∧i= .int .i64 k∧Hid (∃nv σ,CopyI A w bo (.map mp) k nv σ wr))(fun i _=>A.ns.length-(intOf i).toNat)
 case atStart=>exact⟨0,Nat.zero_le _,rfl,_,_,HST.out⟩
 case round=>obtain⟨k,hk,rfl,hT⟩:=hrel;by_cases hlt:k<A.ns.length;·{obtain⟨nb,rfl,hr,hnb,hfn,hNx⟩:=HN.out (by omega);have hx:A.has ((k:Int)+1):=⟨by omega,by unfold Ar.n;omega⟩;have hkk:((k:Int)+1).toNat-1=k:=by{omega};obtain⟨kv,av,F,hK,hAt⟩:=hNx _ hx;rw[hkk]at F;have hgn:=Ar.get_some hx;rw[hkk]at hgn;have hsh:=HS.out.get hx;generalize A.get ((k:Int)+1)=n at*;obtain⟨nv,σ,hCI⟩:=hT.out;obtain⟨c1,c2,c3,c4,c5,c6,c7⟩:=id hCI;have hkl:(A.ns.take k).length=k:=by{simp;omega};obtain⟨rows,⟨r1,r4⟩,r2,r3⟩:=c6;rw[hkl]at r1;obtain⟨na,nc,rfl⟩:=X6 r1;have HD:=Xqh (fun W(hW:Below wr.heap.size wr W)=>Xgu nb (k*13) n kv av W ((F.below c1).below hW) ((Xy.below hK.reads c1).below hW) ((XE.below hAt.reads c1).below hW) hsh.1 hsh.2);have HSTEP:=Xqh (fun W w2 w3 kv' av' gg cap o(hW:Below wr.heap.size wr W)(hB:Below W.heap.size W w2)hk' ha' hg' hown' hat'=>CopyI.step (w2:=w2) (w3:=w3) (W:=W) (kv:=kv') (av:=av') (gg:=gg) (cap:=cap) hCI hgn r2 r3 r4 hW hB hk' ha' o hg' hown' hat');have d0:=Below.old c1 h0;have hbl:=lt_of_block c5;have e0:wr.cell? ⟨bo,0,none⟩=some (.slice na k nc):=by{rw[cell_of_row wr bo _ _ _ _ c5];rfl};have ef:wr.frozen? ⟨bo,0,none⟩=false:=frozen_of_row wr bo _ _ _ c5;have hne:some bo≠(Value.slice na k nc).ownBlock:=fun h=>by{have:=r4 bo h.symm;omega};have HROW:=Xqh r1;have HC5:=Xqh c5;have HFROM:=Xqh (fun(W:World)ka aa kc ac=>show∀(j:Nat)(u:Value),(n.cells (.slice ka n.Xc.length kc) (.slice aa n.Xb.length ac))[j]?=some u→(W.alloc (.cells (n.cells (.slice ka n.Xc.length kc) (.slice aa n.Xb.length ac)).toArray 74)).cell? ((⟨W.heap.size,0,none⟩:Addr).add j)=some u from by intro j u hj;rw[Addr.add_mid,Nat.zero_add];exact Yi rfl (by simpa[Nd.cells]using hj));have HGB:=Xqh (fun(w2 w3:World)(o:Obj)(hB:Below wr.drew.heap.size wr.drew w2)(hg:(w2.alloc o).grownBy w3 (Value.slice na k nc).ownBlock)=>show w3.heap[bo]?=some (.cells #[.slice na k nc,.map mp] 72 (0,0))from by have hb2:bo<w2.heap.size:=Nat.lt_of_lt_of_le hbl hB.size;exact(hg.block bo (by simp;omega) hne).trans ((Below.heap_alloc _ _ bo hb2).trans ((hB.block bo hbl).trans c5)));clear c1 c2 c3 c4 c5 c7 F hNx hfn hK hAt hgn hkk hx hsh hCI r1 r2 r3 r4 hT;go_wp2;go_region_law(first|(go_simp;go_at_call 36;refine(HD.out _ (Below.drew (Below.refl _ _))).mono ?_;rintro e w2⟨hB2,kv',av',rfl,ho1,ho2⟩;obtain⟨ka,kc,rfl⟩:=X6 ho1;obtain⟨aa,ac,rfl⟩:=X6 ho2;have HB2:=Xqh hB2;have HO:=Xqh (And.intro ho1 ho2);have g2:w2.cell? ⟨b,0,none⟩=some (.slice (some ⟨nb,0,none⟩) A.ns.length c):=Below.old hB2 (Below.old (Below.drew (Below.refl _ _)) d0);have x2:w2.cell? ⟨bo,0,none⟩=some (.slice na k nc):=Below.old hB2 (Below.old (Below.drew (Below.refl _ _)) e0);have hbo2:bo<w2.heap.size:=World.block_lt_of_cell? w2 _ x2;clear hB2 ho1 ho2;unfold Nd.cells)|(refine step_append_lies _ (by rfl) _ _ 70 (by rfl) 0 74 i0 _ 13 168 Tryz.underlying70 HI.out hz0 hz1 hz2 rfl (by omega) (.slice na k nc) k rows.flatten (by rfl) ?_ ⟨w2.heap.size,0,none⟩ 1 1 (n.cells (.slice ka n.Xc.length kc) (.slice aa n.Xb.length ac)) (by rfl) (by rfl) (HFROM.out w2 ka aa kc ac) (JU n (.slice ka n.Xc.length kc) (.slice aa n.Xb.length ac) rfl rfl) (by omega) (by unfold maxLen;omega) (by omega) (by omega) (w2.heap.size+1) (by simp) ?_;·{exact(YP (Z0 (Z0 HROW.out (Below.drew (Below.refl _ _))) HB2.out) (Nat.zero_le _)).alloc _};intro gg cap w3 hown3 hgrow hat hlt3;have gb:w3.heap[bo]?=some (.cells #[.slice na k nc,.map mp] 72 (0,0)):=HGB.out w2 w3 _ HB2.out hgrow;have x3:w3.cell? ⟨bo,0,none⟩=some (.slice na k nc):=by{rw[cell_of_row w3 bo _ _ _ _ gb];rfl};have xf:w3.frozen? ⟨bo,0,none⟩=false:=frozen_of_row w3 bo _ _ _ gb));all_goals have hstep:=HSTEP.out wr.drew w2 w3 _ _ gg cap _ (Below.drew (Below.refl _ _)) HB2.out HO.out.1 HO.out.2 hgrow hown3 hat;have HF:=Xqh hstep;have hs3:=hgrow.size;clear hstep HO hown3 hgrow hat gb x3 xf g2 x2 e0 ef d0;go_wp2;go_roundw;(case rel=>exact⟨k+1,hlt,by go_num,_,HF.out⟩);case measure=>simp[intOf];omega};·have hkl:A.ns.take k=A.ns:=List.take_of_length_le (by omega);obtain⟨nv,σ,c1,c2,c3,c4,c5,c6,c7⟩:=hT.out;rw[hkl]at c6;have HF:=Xqh (And.intro c1 (show∃σ,Xz wr σ bo A∧∀j,σ j≠0→w.heap.size≤j from⟨σ,⟨c2,c4,HIL.out,nv,_,c5,c6,c7⟩,c3⟩));clear c1 c2 c3 c4 c5 c6 c7 hT hkl;go_wp2;go_ret;obtain⟨σ',h1,h2⟩:=HF.out.2;exact⟨HF.out.1,bo,σ',rfl,h1,h2⟩
end
end Go.Proofs.YtpicinjcmjaogaaGreatDoor
