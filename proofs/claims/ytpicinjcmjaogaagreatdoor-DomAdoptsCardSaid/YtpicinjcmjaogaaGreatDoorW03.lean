import Derived.Shelf.Abstract
import Derived.OwnWalkIn
import Derived.TacticsInMore
import Derived.LoopNIn
import Derived.LoopIn
import Derived.Test.YtpicinjcmjaogaaGreatDoorW02
set_option maxRecDepth 100000
set_option maxHeartbeats 4000000
set_option linter.unusedVariables false
namespace Go.Proofs.YtpicinjcmjaogaaGreatDoor
section
open Go.RowKit Go.Shelf
attribute [local go_sem] Oper.semAt_some
theorem XD {w:World}{b:Nat}{v:Value}{t:TypeId}(h:w.heap[b]?=some (.cells #[v] t (0,0))):w.cell? ⟨b,0,none⟩=some v:=cell_of_one h
theorem Xbf {w:World}{b:Nat}{v:Value}{t:TypeId}(h:w.heap[b]?=some (.cells #[v] t (0,0))):w.frozen? ⟨b,0,none⟩=false:=free_of_one h
theorem Xjz (A:Ar)(ρ:Nat→Nat)(b hb ab sb:Nat)(h0:Int)(hosts:Bool)(path:List Int)(n:Nat)(hn:1≤n)(w:World)(Cs:Nat→Prop)(hA:Xz w ρ b A)(h1:w.heap[hb]?=some (.cells #[.int .i64 h0] 3 (0,0)))(h2:w.heap[ab]?=some (.cells #[.pointer (some ⟨b,0,none⟩)] 26 (0,0)))(h3:w.heap[sb]?=some (.cells #[.bool hosts] 4 (0,0)))(hne1:hb≠ab)(hne2:hb≠sb)(hr:ρ hb=0)(hW:A.Way (Ye A hosts) h0 path)(hCs:∀k,Cs k→k≠hb∧k≠ab∧k≠sb∧ρ k=0):Xf3 Fence.wide n Tryz.prog 86 #[.pointer (some ⟨hb,0,none⟩),.pointer (some ⟨ab,0,none⟩),.pointer (some ⟨sb,0,none⟩)] (fun x:Int=> #[Value.int .i64 x]) (fun k=>k=hb) Cs (fun ys=>ys=path) (fun pre=>∃rest,path=pre++rest) w:=by
 intro l J Jx W hB hJ hJx hY hj
 obtain⟨dist,hdist⟩:∃dist:Int→Nat,∀x r,A.Way (Ye A hosts) x r→dist x=r.length:=by have hsk:∀x:Int,∃d:Nat,∀r,A.Way (Ye A hosts) x r→d=r.length:=fun x=>by{by_cases hex:∃r,A.Way (Ye A hosts) x r;·{obtain⟨r,hr⟩:=hex;exact⟨r.length,fun r' hr'=>by rw[XaH hr hr']⟩};·exact⟨0,fun r hr=>absurd ⟨r,hr⟩ hex⟩};obtain⟨dist,hd⟩:=Classical.skolem.1 hsk;exact⟨dist,hd⟩
 have hbl:=lt_of_block h1
 have abl:=lt_of_block h2
 have sbl:=lt_of_block h3
 refine callsIn_of_wp Tryz.func86 rfl trivial ?_ rfl
 simp only[Tryz.ntmps86,List.size_toArray,List.length_cons,List.length_nil,Nat.reduceAdd,Nat.reduceSub,Array.replicate_succ,Array.replicate_zero,List.push_toArray,List.append_toArray,List.nil_append,List.cons_append]
 gi_wp2
 gi_loopw [](fun wr=>∃(pre rest:List Int)(x:Int),path=pre++rest∧A.Way (Ye A hosts) x rest∧J pre wr∧W.heap.size≤wr.heap.size∧Xz wr ρ b A∧wr.heap[hb]?=some (.cells #[.int .i64 x] 3 (0,0))∧wr.heap[ab]?=some (.cells #[.pointer (some ⟨b,0,none⟩)] 26 (0,0))∧wr.heap[sb]?=some (.cells #[.bool hosts] 4 (0,0)))(fun wr=>dist (intOf ((wr.cell? ⟨hb,0,none⟩).getD undef)))
 case atStart=>exact⟨[],path,h0,rfl,hW,hj,Nat.le_refl _,hA.below hB,(hB.block _ hbl).trans h1,(hB.block _ abl).trans h2,(hB.block _ sbl).trans h3⟩
 case round=>obtain⟨pre,rest,x,hx,hway,hJs,hsz,hAr,b1,b2,b3⟩:=hrel;have k1:=XD b1;have f1:=Xbf b1;have k2:=XD b2;have k3:=XD b3;have hm0:dist (intOf ((wr.cell? ⟨hb,0,none⟩).getD undef))=rest.length:=by{rw[k1];exact hdist x rest hway};cases rest with|nil=>{have hx0:x=0:=hway;subst hx0;have hxe:((0:Int)!=0)=false:=rfl;gi_wp2;refine⟨fun _ h=>(by cases h),?_⟩;gi_wp2;go_end0;exact⟨⟨_,rfl⟩,.inl ⟨pre,by simp[hx],hJs⟩⟩}|cons y rest=>obtain⟨rfl,hhas,hway'⟩:=hway;obtain⟨fn,tmps,assign,body,hy,hR⟩:=hY pre y wr hJs;have hxe:(y !=0)=true:=by{have:=hhas.1;simp;omega};gi_wp2;refine hR.mono ?_;rintro e W3(⟨rfl,hJ3,hU3⟩|⟨rfl,hJx3⟩);·{have hF:∀k,k<w.heap.size→¬Cs k→¬(Cs k∨(w.heap.size≤k∧k<W.heap.size)):=fun k h1 h2 h3=>h3.elim h2 (fun h=>by omega);have b1:=(hU3.block hb (lt_of_block b1) (hF hb hbl (fun h=>(hCs hb h).1 rfl))).trans b1;have b2:=(hU3.block ab (lt_of_block b2) (hF ab abl (fun h=>(hCs ab h).2.1 rfl))).trans b2;have b3:=(hU3.block sb (lt_of_block b3) (hF sb sbl (fun h=>(hCs sb h).2.2.1 rfl))).trans b3;have hA3:Xz W3 ρ b A:=hAr.upd hU3 (fun k hk h=>hF k (hA.1 k hk) (fun h=>hk (hCs k h).2.2.2) h);have k1:=XD b1;have f1:=Xbf b1;have k2:=XD b2;have k3:=XD b3;obtain⟨a1,c1,mv1,g0,-,-,-,hm1,hN1⟩:=hA3.head;have hp:=hhas.1;have hq:=hhas.2;unfold Ar.n at hq;obtain⟨nb,rfl,hr1,hnb,hfn,hNx⟩:=hN1 (by omega);obtain⟨kv,av,F,-,-⟩:=hNx y hhas;have d1:=F.c1;have d12:=F.c12;have hnbh:nb≠hb:=fun e=>by{rw[e]at hr1;omega};have hway2:=hway';have hends:∀v t,((W3.setCell ⟨hb,0,none⟩ v).heap[hb]?=some (.cells #[v] 3 (0,0)))∧(hb≠t→(W3.setCell ⟨hb,0,none⟩ v).heap[t]?=W3.heap[t]?):=fun v t=>⟨one_setCell b1,fun hne=>Z1 W3 ⟨hb,0,none⟩ v t (Ne.symm hne)⟩;have hrel:∀(W4:World)(z:Int),Upd (fun k=>k=hb) W3 W4→W4.heap[hb]?=some (.cells #[.int .i64 z] 3 (0,0))→z=Ye A hosts y→(path=(pre++ [y])++rest∧A.Way (Ye A hosts) z rest∧J (pre++ [y]) W4∧W.heap.size≤W4.heap.size∧Xz W4 ρ b A∧W4.heap[hb]?=some (.cells #[.int .i64 z] 3 (0,0))∧W4.heap[ab]?=some (.cells #[.pointer (some ⟨b,0,none⟩)] 26 (0,0))∧W4.heap[sb]?=some (.cells #[.bool hosts] 4 (0,0)))∧dist (intOf ((W4.cell? ⟨hb,0,none⟩).getD undef))<dist (intOf ((wr.cell? ⟨hb,0,none⟩).getD undef)):=by{intro W4 z hU4 hb4 hz;subst hz;have hc4:=XD hb4;refine⟨⟨by simp[hx],hway2,hJ _ _ _ hJ3 (hU4.mono (fun k _ hk=> .inl hk)),Nat.le_trans hsz (Nat.le_trans hU3.size hU4.size),hA3.upd hU4 (fun k hk e=>hk (by rw[e];exact hr)),hb4,(hU4.block ab (lt_of_block b2) (Ne.symm hne1)).trans b2,(hU4.block sb (lt_of_block b3) (Ne.symm hne2)).trans b3⟩,?_⟩;rw[hm0,hc4];show dist (Ye A hosts y)<_;rw[hdist _ _ hway2];simp};have HREL:=Xqh hrel;have HW2:=Xqh hway2;have HM0:=Xqh hm0;have HX:=Xqh hx;have HENDS:=Xqh hends;clear hrel hway2 hway' hm0 hx hends F hNx hN1 hY hJ hJx hdist hF;generalize ho:(y.toNat-1)*13=o at*;have HO:=Xqh ho;clear ho;have hu:Ye A hosts y=if(A.get y).Xd≠0 then(A.get y).Xd else if hosts then(A.get y).host else 0:=by{cases hosts;·{simp[Ye]};·simp[Ye,Ar.up]};by_cases hpar:(A.get y).Xd=0;·{rw[if_neg (by simp[hpar])]at hu;cases hosts with|false=>{have hpe:((A.get y).Xd==0)=true:=by{simp[hpar]};have HU:=Xqh hu;have HP:=Xqh hpar;clear hu hpar;gi_wp2_with fail;refine⟨trivial,?_⟩;refine(callsIn_wide.2 (XY b nb _ c1 y _ g0 hp hq hm1)).mono ?_;rintro e w2⟨rfl,rfl⟩;rw[HO.out];gi_wp2;have hR:=HREL.out _ _ ((Upd.refl (fun k=>k=hb) W3).setCell (p:=⟨hb,0,none⟩) (.inr rfl) (.int .i64 (A.get y).Xd)) (HENDS.out _ 0).1 (by rw[HP.out];exact HU.out.symm);exact⟨⟨_,_,_,hR.1⟩,hR.2⟩}|true=>have hpe:((A.get y).Xd==0)=true:=by{simp[hpar]};have HU:=Xqh hu;have HP:=Xqh hpar;have d12':(W3.setCell ⟨hb,0,none⟩ (.int .i64 (A.get y).Xd)).cell? ⟨nb,o+12,none⟩=some (.int .i64 (A.get y).host):=by{rw[World.cell?_setCell_other W3 ⟨hb,0,none⟩ ⟨nb,o+12,none⟩ _ (fun e=>hnbh (congrArg Addr.block e).symm)];exact d12};clear hu hpar;gi_wp2_with fail;refine⟨trivial,?_⟩;refine(callsIn_wide.2 (XY b nb _ c1 y _ g0 hp hq hm1)).mono ?_;rintro e w2⟨rfl,rfl⟩;rw[HO.out];gi_wp2;have hR:=HREL.out _ _ (((Upd.refl (fun k=>k=hb) W3).setCell (p:=⟨hb,0,none⟩) (.inr rfl) (.int .i64 (A.get y).Xd)).setCell (p:=⟨hb,0,none⟩) (.inr rfl) (.int .i64 (A.get y).host)) (one_setCell (HENDS.out _ 0).1) HU.out.symm;exact⟨⟨_,_,_,hR.1⟩,hR.2⟩};·rw[if_pos hpar]at hu;have hpe:((A.get y).Xd==0)=false:=by{simp[hpar]};have HU:=Xqh hu;clear hu hpar;gi_wp2_with fail;refine⟨trivial,?_⟩;refine(callsIn_wide.2 (XY b nb _ c1 y _ g0 hp hq hm1)).mono ?_;rintro e w2⟨rfl,rfl⟩;rw[HO.out];gi_wp2;have hR:=HREL.out _ _ ((Upd.refl (fun k=>k=hb) W3).setCell (p:=⟨hb,0,none⟩) (.inr rfl) (.int .i64 (A.get y).Xd)) (HENDS.out _ 0).1 HU.out.symm;exact⟨⟨_,_,_,hR.1⟩,hR.2⟩};·gi_wp2;go_end0;exact⟨⟨_,rfl⟩,.inr ⟨pre++ [y],⟨rest,by simp[hx]⟩,hJx3⟩⟩
theorem XjA (b:Nat)(h:Int)(hosts:Bool)(w:World):Calls Tryz.prog 45 #[.pointer (some ⟨b,0,none⟩),.int .i64 h,.bool hosts] w fun e w'=>e= .returned (.func (.func 86) #[] #[.pointer (some ⟨w.heap.size+1,0,none⟩),.pointer (some ⟨w.heap.size,0,none⟩),.pointer (some ⟨w.heap.size+2,0,none⟩)])∧w'=((w.alloc (.cells #[.pointer (some ⟨b,0,none⟩)] 26)).alloc (.cells #[.int .i64 h] 3)).alloc (.cells #[.bool hosts] 4):=by
 go_enter Tryz.func45,Tryz.ntmps45
 go_wp2
 go_ret
 exact⟨rfl,rfl⟩
theorem Upd.JL {F:Nat→Prop}{B:Nat}{w w':World}(h:Upd F w w')(hF:∀k,k<B→¬F k)(hB:B≤w.heap.size):Below B w w':=⟨h.os,h.tape,h.output,h.size,fun k hk=>h.block k (Nat.lt_of_lt_of_le hk hB) (hF k hk)⟩
theorem XjB (w:World)(o1 o2 o3 o4 o5:Obj):∀W,W=((((w.alloc o1).alloc o2).alloc o3).alloc o4).alloc o5→W.heap[w.heap.size]?=some o1∧W.heap[w.heap.size+1]?=some o2∧W.heap[w.heap.size+2]?=some o3∧W.heap[w.heap.size+3]?=some o4∧W.heap[w.heap.size+4]?=some o5∧W.heap.size=w.heap.size+5∧Below w.heap.size w W:=by
 rintro W rfl
 have hnew:∀(v:World)(o:Obj)(k:Nat),k=v.heap.size→(v.alloc o).heap[k]?=some o:=fun v o k hk=>by rw[hk];exact heap_alloc_new v o
 refine⟨?_,?_,?_,?_,?_,by simp,?_⟩
 ·rw[Ja _ _ _ (by simp;omega),Ja _ _ _ (by simp;omega),Ja _ _ _ (by simp;omega),Ja _ _ _ (by simp)];exact hnew _ _ _ rfl
 ·rw[Ja _ _ _ (by simp;try omega),Ja _ _ _ (by simp;try omega),Ja _ _ _ (by simp;try omega)];exact hnew _ _ _ (by simp)
 ·rw[Ja _ _ _ (by simp;try omega),Ja _ _ _ (by simp;try omega)];exact hnew _ _ _ (by simp)
 ·rw[Ja _ _ _ (by simp)];exact hnew _ _ _ (by simp)
 ·exact hnew _ _ _ (by simp)
 ·exact(((((Below.refl _ w).alloc (by simp) _).alloc (by simp) _).alloc (by simp;omega) _).alloc (by simp;omega) _).alloc (by simp;omega) _
theorem XaJ (A:Ar)(ρ:Nat→Nat)(b:Nat)(u h:Int)(path:List Int)(w:World)(hA:Xz w ρ b A)(hu:A.has u)(hh:A.has h)(hW:A.Way (Ye A true) h path):Calls Tryz.prog 93 #[.pointer (some ⟨b,0,none⟩),.int .i64 u,.int .i64 h] w fun e w'=>e= .returned (.bool (decide (u∈path)))∧Below w.heap.size w w':=by
 obtain⟨a,c,mv,h0,-,-,hlt,hm,-⟩:=hA.head
 have hu1:decide (A.has u)=true:=by simp[hu]
 have hh1:decide (A.has h)=true:=by simp[hh]
 refine(callsIn_wide (n:=8)).1 ?_
 refine callsIn_of_wp_marks Tryz.func93 rfl trivial ?_ rfl
 simp only[Tryz.ntmps93,List.size_toArray,List.length_cons,List.length_nil,Nat.reduceAdd,Nat.reduceSub,Array.replicate_succ,Array.replicate_zero,List.push_toArray,List.append_toArray,List.nil_append,List.cons_append]
 gi_wp2_with fail
 refine⟨trivial,?_⟩
 refine(callsIn_wide.2 (ZH A b a c u _ (JJ _ (JJ _ h0)))).mono ?_
 rintro e w2⟨rfl,rfl⟩
 rw[hu1]
 gi_wp2_with fail
 refine⟨trivial,?_⟩
 refine(callsIn_wide.2 (ZH A b a c h _ (JJ _ (JJ _ h0)))).mono ?_
 rintro e w2⟨rfl,rfl⟩
 rw[hh1]
 gi_wp2_with fail
 refine⟨trivial,?_⟩
 refine(callsIn_wide.2 (XjA b h true _)).mono ?_
 rintro e w2⟨rfl,rfl⟩
 simp only[World.size_alloc]
 obtain⟨W5,hW5⟩:∃W5,W5=((((w.alloc (.cells #[.int .i64 u] 3)).alloc (.cells #[.bool false] 4)).alloc (.cells #[.pointer (some ⟨b,0,none⟩)] 26)).alloc (.cells #[.int .i64 h] 3)).alloc (.cells #[.bool true] 4):=⟨_,rfl⟩
 obtain⟨q1,q2,q3,q4,q5,hs5,hB5⟩:=XjB w _ _ _ _ _ W5 hW5
 rw[←hW5]
 clear hW5
 gi_wp2_with fail
 have hA5:=hA.below hB5
 have hlt5:∀k,ρ k≠0→k<w.heap.size:=hA.1
 have hseq:=Xjz A ρ b (w.heap.size+3) (w.heap.size+2) (w.heap.size+4) h true path 7 (by omega) W5 (fun k=>k=w.heap.size+1) hA5 q4 q3 q5 (by omega) (by omega) (by by_cases h0:ρ (w.heap.size+3)=0;·{exact h0};·have:=hlt5 _ h0;omega) hW (by rintro k rfl;refine⟨by omega,by omega,by omega,?_⟩;by_cases h0:ρ (w.heap.size+1)=0;·{exact h0};·have:=hlt5 _ h0;omega)
 have ha1:W5.heap.size=w.heap.size+5:=hs5
 refine Xji rfl (by omega) (gf:=86) (lb:= #[.pointer (some ⟨w.heap.size+3,0,none⟩),.pointer (some ⟨w.heap.size+2,0,none⟩),.pointer (some ⟨w.heap.size+4,0,none⟩)]) rfl trivial (enters_of Tryz.func86 (by kernel_rfl) rfl) hseq (by rintro k rfl;omega) (by rintro k rfl;omega) (fun _=>rfl) (fun pre W=>u∉pre∧Below w.heap.size w W∧W.heap[w.heap.size]?=some (.cells #[.int .i64 u] 3 (0,0))∧W.heap[w.heap.size+1]?=some (.cells #[.bool false] 4 (0,0))) (fun pre W=>u∈pre∧Below w.heap.size w W∧W.heap[w.heap.size+1]?=some (.cells #[.bool true] 4 (0,0))) (fun s A' B hs hu'=>⟨hs.1,hs.2.1.trans (hu'.JL (fun k hk=>by omega) hs.2.1.size),(hu'.block _ (lt_of_block hs.2.2.1) (by omega)).trans hs.2.2.1,(hu'.block _ (lt_of_block hs.2.2.2) (by omega)).trans hs.2.2.2⟩) (fun s A' B hs hu'=>⟨hs.1,hs.2.1.trans (hu'.JL (fun k hk=>by omega) hs.2.1.size),(hu'.block _ (lt_of_block hs.2.2) (by omega)).trans hs.2.2⟩) ⟨by simp,hB5,q1,q2⟩ (fun x=>{tmps:= #[.pointer (some ⟨b,0,none⟩),.int .i64 u,.int .i64 h,undef,.pointer (some ⟨w.heap.size,0,none⟩),undef,.pointer (some ⟨w.heap.size+1,0,none⟩),.int .i64 x,.pointer (some ⟨b,0,none⟩),.int .i64 u,.bool true,.bool false,.bool false,.pointer (some ⟨b,0,none⟩),.int .i64 h,.bool true,.bool false,.bool false,.pointer (some ⟨b,0,none⟩),.int .i64 h,.func (.func 86) #[] #[.pointer (some ⟨w.heap.size+1+1+1,0,none⟩),.pointer (some ⟨w.heap.size+1+1,0,none⟩),.pointer (some ⟨w.heap.size+1+1+2,0,none⟩)],.int .i64 x,undef,undef,undef],defers:= []}) ?assign ?body ?done ?stop
 case assign=>intro l x W K hK;gi_wp2;exact hK
 case body=>rintro l pre x W⟨hx,hBW,r1,r2⟩;have k1:=XD r1;have k2:=XD r2;have f2:=Xbf r2;by_cases hxu:x=u;·{have he:(x==u)=true:=by{simp[hxu]};have HXU:=Xqh hxu;clear hxu;gi_wp2;exact⟨(Upd.refl (fun k=>k=w.heap.size+1) W).setCell (p:=⟨w.heap.size+1,0,none⟩) (.inr rfl) _,by rw[HXU.out];simp,hBW.trans ((Below.refl _ W).setCell (p:=⟨w.heap.size+1,0,none⟩) (Nat.le_succ _) _),one_setCell r2⟩};·have he:(x==u)=false:=by{simp[hxu]};have HXU:=Xqh hxu;clear hxu;gi_wp2;exact⟨Upd.refl _ W,by simp[hx];exact fun e=>HXU.out e.symm,hBW,r1,r2⟩
 case done=>rintro D ys W rfl⟨hne,hBW,r1,r2⟩hD hK;have k2:=XD r2;have f2:=Xbf r2;gi_wp2;have hD1:D≠w.heap.size+1:=by{omega};have hK':(W.setCell ⟨w.heap.size+1,0,none⟩ (.bool false)).heap[D]?=some (.deferred (some [])):=(Z1 W _ _ D hD1).trans hK;refine⟨by simp,.inl ⟨_,_,rfl,run_takeDeferred hK',?_⟩⟩;have hc5:((W.setCell ⟨w.heap.size+1,0,none⟩ (.bool false)).putObj D (.deferred none)).cell? ⟨w.heap.size+1,0,none⟩=some (.bool false):=XD ((World.putObj_heap_other (Ne.symm hD1)).trans (one_setCell r2));refine⟨.bool false,?_,by rw[decide_eq_false hne],?_⟩;·{simp[results,Tryz.f93,go_sem,hc5]};·exact(hBW.trans ((Below.refl _ W).setCell (p:=⟨w.heap.size+1,0,none⟩) (Nat.le_succ _) _)).trans (Upd.JL (F:=fun k=>k=D) (ZT _ rfl) (fun k hk=>by omega) (by simpa using hBW.size))
 case stop=>rintro D pre W⟨rest,hpre⟩⟨hin,hBW,r2⟩hD hK;have k2:=XD r2;gi_wp2;have hD1:D≠w.heap.size+1:=by{omega};refine⟨by simp,.inl ⟨_,_,rfl,run_takeDeferred hK,?_⟩⟩;have hc5:(W.putObj D (.deferred none)).cell? ⟨w.heap.size+1,0,none⟩=some (.bool true):=XD ((World.putObj_heap_other (Ne.symm hD1)).trans r2);refine⟨.bool true,?_,by rw[decide_eq_true (by rw[hpre];exact List.mem_append.2 (.inl hin))],?_⟩;·{simp[results,Tryz.f93,go_sem,hc5]};·exact hBW.trans (Upd.JL (F:=fun k=>k=D) (ZT _ rfl) (fun k hk=>by omega) hBW.size)
end
section
open Go.RowKit
theorem XjC {A:Ar}{Xd node before:Int}(c:Bool)(h:¬(A.has Xd∧A.has node∧(before≠0→A.has before))):A.allowed Xd node before c=3:=by
 unfold Ar.allowed
 rw[if_pos]
 by_cases h1:A.has Xd
 ·by_cases h2:A.has node;·{by_cases h3:before=0;·{exact absurd ⟨h1,h2,fun h=>absurd h3 h⟩ h};·exact .inr (.inr ⟨h3,fun h4=>h ⟨h1,h2,fun _=>h4⟩⟩)};·exact .inr (.inl h2)
 ·exact .inl h1
theorem XjD {A:Ar}{Xd node before:Int}(c:Bool)(h:A.has Xd∧A.has node∧(before≠0→A.has before)):A.allowed Xd node before c=if¬((A.get Xd).Xa=1∨(A.get Xd).Xa=2∨(A.get Xd).Xa=4)then 4 else if(A.get node).Xa=1∨(A.get node).Xa=2∨c=true then 4 else if before≠0∧(before=node∨(A.get before).Xd≠Xd)then 5 else 0:=by
 unfold Ar.allowed
 rw[if_neg]
 rintro(h1|h1|⟨h1,h2⟩)
 ·exact h1 h.1
 ·exact h1 h.2.1
 ·exact h2 (h.2.2 h1)
theorem XjE (A:Ar)(ρ:Nat→Nat)(b:Nat)(Xd node before:Int)(w:World)(hA:Xz w ρ b A)(h:¬(A.has Xd∧A.has node∧(before≠0→A.has before))):Calls Tryz.prog 59 #[.pointer (some ⟨b,0,none⟩),.int .i64 Xd,.int .i64 node,.int .i64 before] w (Yk A ρ b w (.int .i64 3)):=by
 obtain⟨a,c,mv,h0,h1,hf,hlt,hm,hN⟩:=hA.head
 have hB0:=Xw w (.cells #[.int .i64 Xd,.int .i64 node] 3)
 have hA0:=hA.below hB0
 have h0':=Below.old hB0 h0
 by_cases hpn:A.has Xd∧A.has node
 ·have hck:Yc A [Xd,node]=0:=by{simp[Yc,hpn.1,hpn.2]};have hb0:before≠0:=fun e=>h ⟨hpn.1,hpn.2,fun h=>absurd e h⟩;have hbn:¬A.has before:=fun e=>h ⟨hpn.1,hpn.2,fun _=>e⟩;have e1:(before !=0)=true:=by{simp[hb0]};have e2:decide (A.has before)=false:=by{simp[hbn]};clear hpn h hN hb0 hbn;go_enter Tryz.func59,Tryz.ntmps59;go_wp2_with fail;refine(YH A b _ c _ [Xd,node] _ h0' (ZR _ _ _ _)).mono ?_;rintro e w'⟨rfl,rfl⟩;rw[hck];go_wp2_with fail;refine(ZH A b _ c before _ h0').mono ?_;rintro e w'⟨rfl,rfl⟩;rw[e2];go_wp2;go_ret;exact⟨rfl,ρ,hA0,Xr.below hB0⟩
 ·have hck:Yc A [Xd,node]=3:=by{simp[Yc];exact fun q r=>hpn ⟨q,r⟩};clear hpn h hN;go_enter Tryz.func59,Tryz.ntmps59;go_wp2_with fail;refine(YH A b _ c _ [Xd,node] _ h0' (ZR _ _ _ _)).mono ?_;rintro e w'⟨rfl,rfl⟩;rw[hck];go_wp2;go_ret;exact⟨rfl,ρ,hA0,Xr.below hB0⟩
theorem XjF (A:Ar)(ρ:Nat→Nat)(b:Nat)(Xd node before:Int)(w:World)(hA:Xz w ρ b A)(h:A.has Xd∧A.has node∧(before≠0→A.has before))(hk:¬((A.get Xd).Xa=1∨(A.get Xd).Xa=2∨(A.get Xd).Xa=4)):Calls Tryz.prog 59 #[.pointer (some ⟨b,0,none⟩),.int .i64 Xd,.int .i64 node,.int .i64 before] w (Yk A ρ b w (.int .i64 4)):=by
 obtain⟨a,c,mv,h0,h1,hf,hlt,hm,hN⟩:=hA.head
 obtain⟨hp,hn,hb⟩:=h
 have hp1:=hp.1
 have hp2:=hp.2
 have hn1:=hn.1
 have hn2:=hn.2
 unfold Ar.n at hp2 hn2
 obtain⟨nb,rfl,hr,hnb,hfn,hNx⟩:=hN (by omega)
 obtain⟨kvp,avp,Fp,hKp,-⟩:=hNx Xd hp
 obtain⟨kvn,avn,Fn,-,-⟩:=hNx node hn
 have hB0:=Xw w (.cells #[.int .i64 Xd,.int .i64 node] 3)
 have hA0:=hA.below hB0
 have h0':=Below.old hB0 h0
 have cp0:=Below.old hB0 Fp.c0
 have cn0:=Below.old hB0 Fn.c0
 have hck:Yc A [Xd,node]=0:=by simp[Yc,hp,hn]
 have hs0:(w.alloc (.cells #[.int .i64 Xd,.int .i64 node] 3)).heap.size=w.heap.size+1:=by simp
 generalize hw0:w.alloc _=w0 at*
 generalize hop:(Xd.toNat-1)*13=op at*
 generalize hon:(node.toNat-1)*13=on at*
 have HW0:=Xqh hw0
 have HOP:=Xqh hop
 have HON:=Xqh hon
 have HS0:=Xqh hs0
 clear hw0 hop hon hs0
 have k1:((A.get Xd).Xa !=1)=true:=by simp;exact fun e=>hk (.inl e)
 have k2:((A.get Xd).Xa !=2)=true:=by simp;exact fun e=>hk (.inr (.inl e))
 have k4:((A.get Xd).Xa !=4)=true:=by simp;exact fun e=>hk (.inr (.inr e))
 clear hk Fp Fn hNx hN hfn
 by_cases hb0:before=0
 ·have e1:(before !=0)=false:=by{simp[hb0]};clear hb0 hb;go_enter Tryz.func59,Tryz.ntmps59;go_wp2_with fail;rw[HW0.out];refine(YH A b _ c _ [Xd,node] _ h0' (by rw[←HW0.out];exact ZR _ _ _ _)).mono ?_;rintro e w'⟨rfl,rfl⟩;rw[hck];go_wp2_with fail;refine(XY b nb _ c Xd _ h0' hp1 hp2 hm).mono ?_;rintro e w2⟨rfl,rfl⟩;go_wp2_with fail;refine(XY b nb _ c node _ h0' hn1 hn2 hm).mono ?_;rintro e w2⟨rfl,rfl⟩;rw[HOP.out,HON.out];go_wp2;go_ret;exact⟨rfl,ρ,hA0,Xr.below hB0⟩
 ·have e1:(before !=0)=true:=by{simp[hb0]};have hbh:decide (A.has before)=true:=by{simp[hb hb0]};clear hb0 hb;go_enter Tryz.func59,Tryz.ntmps59;go_wp2_with fail;rw[HW0.out];refine(YH A b _ c _ [Xd,node] _ h0' (by rw[←HW0.out];exact ZR _ _ _ _)).mono ?_;rintro e w'⟨rfl,rfl⟩;rw[hck];go_wp2_with fail;refine(ZH A b _ c before _ h0').mono ?_;rintro e w'⟨rfl,rfl⟩;rw[hbh];go_wp2_with fail;refine(XY b nb _ c Xd _ h0' hp1 hp2 hm).mono ?_;rintro e w2⟨rfl,rfl⟩;go_wp2_with fail;refine(XY b nb _ c node _ h0' hn1 hn2 hm).mono ?_;rintro e w2⟨rfl,rfl⟩;rw[HOP.out,HON.out];go_wp2;go_ret;exact⟨rfl,ρ,hA0,Xr.below hB0⟩
end
section
open Go.RowKit
theorem XjG (A:Ar)(ρ:Nat→Nat)(b:Nat)(Xd node before:Int)(w:World)(hA:Xz w ρ b A)(h:A.has Xd∧A.has node∧(before≠0→A.has before))(hk:(A.get Xd).Xa=1∨(A.get Xd).Xa=2∨(A.get Xd).Xa=4)(hkn:(A.get node).Xa=1∨(A.get node).Xa=2):Calls Tryz.prog 59 #[.pointer (some ⟨b,0,none⟩),.int .i64 Xd,.int .i64 node,.int .i64 before] w (Yk A ρ b w (.int .i64 4)):=by
 obtain⟨a,c,mv,h0,h1,hf,hlt,hm,hN⟩:=hA.head
 obtain⟨hp,hn,hb⟩:=h
 have hp1:=hp.1
 have hp2:=hp.2
 have hn1:=hn.1
 have hn2:=hn.2
 unfold Ar.n at hp2 hn2
 obtain⟨nb,rfl,hr,hnb,hfn,hNx⟩:=hN (by omega)
 obtain⟨kvp,avp,Fp,hKp,-⟩:=hNx Xd hp
 obtain⟨kvn,avn,Fn,-,-⟩:=hNx node hn
 have hB0:=Xw w (.cells #[.int .i64 Xd,.int .i64 node] 3)
 have hA0:=hA.below hB0
 have h0':=Below.old hB0 h0
 have cp0:=Below.old hB0 Fp.c0
 have cn0:=Below.old hB0 Fn.c0
 have hck:Yc A [Xd,node]=0:=by simp[Yc,hp,hn]
 have hs0:(w.alloc (.cells #[.int .i64 Xd,.int .i64 node] 3)).heap.size=w.heap.size+1:=by simp
 generalize hw0:w.alloc _=w0 at*
 generalize hop:(Xd.toNat-1)*13=op at*
 generalize hon:(node.toNat-1)*13=on at*
 have HW0:=Xqh hw0
 have HOP:=Xqh hop
 have HON:=Xqh hon
 have HS0:=Xqh hs0
 clear hw0 hop hon hs0
 clear Fp Fn hNx hN hfn
 rcases hk with hk|hk|hk<;>rcases hkn with hkn|hkn
 all_goals rw[hk]at cp0;rw[hkn]at cn0;clear hk hkn;by_cases hb0:before=0;·{have e1:(before !=0)=false:=by{simp[hb0]};have HB0:=Xqh hb0;clear hb0 hb;go_enter Tryz.func59,Tryz.ntmps59;go_wp2_with fail;rw[HW0.out];refine(YH A b _ c _ [Xd,node] _ h0' (by rw[←HW0.out];exact ZR _ _ _ _)).mono ?_;rintro e w'⟨rfl,rfl⟩;rw[hck];go_wp2_with fail;refine(XY b nb _ c Xd _ h0' hp1 hp2 hm).mono ?_;rintro e w2⟨rfl,rfl⟩;go_wp2_with fail;refine(XY b nb _ c node _ h0' hn1 hn2 hm).mono ?_;rintro e w2⟨rfl,rfl⟩;rw[HOP.out,HON.out];go_wp2;go_ret;exact⟨rfl,ρ,hA0,Xr.below hB0⟩};·have e1:(before !=0)=true:=by{simp[hb0]};have hbh:decide (A.has before)=true:=by{simp[hb hb0]};have HB0:=Xqh hb0;clear hb0;go_enter Tryz.func59,Tryz.ntmps59;go_wp2_with fail;rw[HW0.out];refine(YH A b _ c _ [Xd,node] _ h0' (by rw[←HW0.out];exact ZR _ _ _ _)).mono ?_;rintro e w'⟨rfl,rfl⟩;rw[hck];go_wp2_with fail;refine(ZH A b _ c before _ h0').mono ?_;rintro e w'⟨rfl,rfl⟩;rw[hbh];go_wp2_with fail;refine(XY b nb _ c Xd _ h0' hp1 hp2 hm).mono ?_;rintro e w2⟨rfl,rfl⟩;go_wp2_with fail;refine(XY b nb _ c node _ h0' hn1 hn2 hm).mono ?_;rintro e w2⟨rfl,rfl⟩;rw[HOP.out,HON.out];go_wp2;go_ret;exact⟨rfl,ρ,hA0,Xr.below hB0⟩
theorem XjH (A:Ar)(ρ:Nat→Nat)(b:Nat)(Xd node before:Int)(w:World)(hA:Xz w ρ b A)(h:A.has Xd∧A.has node∧(before≠0→A.has before))(hk:(A.get Xd).Xa=1∨(A.get Xd).Xa=2∨(A.get Xd).Xa=4)(hkn:¬((A.get node).Xa=1∨(A.get node).Xa=2))(path:List Int)(hpath:A.Way (Ye A true) Xd path)(hc0:node∈path):Calls Tryz.prog 59 #[.pointer (some ⟨b,0,none⟩),.int .i64 Xd,.int .i64 node,.int .i64 before] w (Yk A ρ b w (.int .i64 4)):=by
 have hc:decide (node∈path)=true:=by simp[hc0]
 obtain⟨a,c,mv,h0,h1,hf,hlt,hm,hN⟩:=hA.head
 obtain⟨hp,hn,hb⟩:=h
 have hp1:=hp.1
 have hp2:=hp.2
 have hn1:=hn.1
 have hn2:=hn.2
 unfold Ar.n at hp2 hn2
 obtain⟨nb,rfl,hr,hnb,hfn,hNx⟩:=hN (by omega)
 obtain⟨kvp,avp,Fp,hKp,-⟩:=hNx Xd hp
 obtain⟨kvn,avn,Fn,-,-⟩:=hNx node hn
 have hB0:=Xw w (.cells #[.int .i64 Xd,.int .i64 node] 3)
 have hA0:=hA.below hB0
 have h0':=Below.old hB0 h0
 have cp0:=Below.old hB0 Fp.c0
 have cn0:=Below.old hB0 Fn.c0
 have hck:Yc A [Xd,node]=0:=by simp[Yc,hp,hn]
 have hs0:(w.alloc (.cells #[.int .i64 Xd,.int .i64 node] 3)).heap.size=w.heap.size+1:=by simp
 generalize hw0:w.alloc _=w0 at*
 generalize hop:(Xd.toNat-1)*13=op at*
 generalize hon:(node.toNat-1)*13=on at*
 have HW0:=Xqh hw0
 have HOP:=Xqh hop
 have HON:=Xqh hon
 have HS0:=Xqh hs0
 clear hw0 hop hon hs0
 have n1:((A.get node).Xa==1)=false:=by simp;exact fun e=>hkn (.inl e)
 have n2:((A.get node).Xa==2)=false:=by simp;exact fun e=>hkn (.inr e)
 clear Fp Fn hNx hN hfn hkn hc0
 rcases hk with hk|hk|hk
 all_goals rw[hk]at cp0;clear hk;by_cases hb0:before=0;·{have e1:(before !=0)=false:=by{simp[hb0]};have HB0:=Xqh hb0;clear hb0 hb;go_enter Tryz.func59,Tryz.ntmps59;go_wp2_with fail;rw[HW0.out];refine(YH A b _ c _ [Xd,node] _ h0' (by rw[←HW0.out];exact ZR _ _ _ _)).mono ?_;rintro e w'⟨rfl,rfl⟩;rw[hck];go_wp2_with fail;refine(XY b nb _ c Xd _ h0' hp1 hp2 hm).mono ?_;rintro e w2⟨rfl,rfl⟩;go_wp2_with fail;refine(XY b nb _ c node _ h0' hn1 hn2 hm).mono ?_;rintro e w2⟨rfl,rfl⟩;rw[HOP.out,HON.out];go_wp2_with fail;refine(XaJ A ρ b node Xd path _ hA0 hn hp hpath).mono ?_;rintro e w1⟨rfl,hB1⟩;rw[hc];go_wp2;go_ret;exact⟨rfl,ρ,hA0.below hB1,Xr.below (Below.Yb hB0 hB1)⟩};·have e1:(before !=0)=true:=by{simp[hb0]};have hbh:decide (A.has before)=true:=by{simp[hb hb0]};have HB0:=Xqh hb0;clear hb0;go_enter Tryz.func59,Tryz.ntmps59;go_wp2_with fail;rw[HW0.out];refine(YH A b _ c _ [Xd,node] _ h0' (by rw[←HW0.out];exact ZR _ _ _ _)).mono ?_;rintro e w'⟨rfl,rfl⟩;rw[hck];go_wp2_with fail;refine(ZH A b _ c before _ h0').mono ?_;rintro e w'⟨rfl,rfl⟩;rw[hbh];go_wp2_with fail;refine(XY b nb _ c Xd _ h0' hp1 hp2 hm).mono ?_;rintro e w2⟨rfl,rfl⟩;go_wp2_with fail;refine(XY b nb _ c node _ h0' hn1 hn2 hm).mono ?_;rintro e w2⟨rfl,rfl⟩;rw[HOP.out,HON.out];go_wp2_with fail;refine(XaJ A ρ b node Xd path _ hA0 hn hp hpath).mono ?_;rintro e w1⟨rfl,hB1⟩;rw[hc];go_wp2;go_ret;exact⟨rfl,ρ,hA0.below hB1,Xr.below (Below.Yb hB0 hB1)⟩
theorem XjI (A:Ar)(ρ:Nat→Nat)(b:Nat)(Xd node before:Int)(w:World)(hA:Xz w ρ b A)(h:A.has Xd∧A.has node∧(before≠0→A.has before))(hk:(A.get Xd).Xa=1∨(A.get Xd).Xa=2∨(A.get Xd).Xa=4)(hkn:¬((A.get node).Xa=1∨(A.get node).Xa=2))(path:List Int)(hpath:A.Way (Ye A true) Xd path)(hc0:node∉path)(hb0:before≠0)(hnf:before=node∨(A.get before).Xd≠Xd):Calls Tryz.prog 59 #[.pointer (some ⟨b,0,none⟩),.int .i64 Xd,.int .i64 node,.int .i64 before] w (Yk A ρ b w (.int .i64 5)):=by
 have hc:decide (node∈path)=false:=by simp[hc0]
 obtain⟨a,c,mv,h0,h1,hf,hlt,hm,hN⟩:=hA.head
 obtain⟨hp,hn,hb⟩:=h
 have hp1:=hp.1
 have hp2:=hp.2
 have hn1:=hn.1
 have hn2:=hn.2
 unfold Ar.n at hp2 hn2
 obtain⟨nb,rfl,hr,hnb,hfn,hNx⟩:=hN (by omega)
 obtain⟨kvp,avp,Fp,hKp,-⟩:=hNx Xd hp
 obtain⟨kvn,avn,Fn,-,-⟩:=hNx node hn
 have hB0:=Xw w (.cells #[.int .i64 Xd,.int .i64 node] 3)
 have hA0:=hA.below hB0
 have h0':=Below.old hB0 h0
 have cp0:=Below.old hB0 Fp.c0
 have cn0:=Below.old hB0 Fn.c0
 have hck:Yc A [Xd,node]=0:=by simp[Yc,hp,hn]
 have hs0:(w.alloc (.cells #[.int .i64 Xd,.int .i64 node] 3)).heap.size=w.heap.size+1:=by simp
 generalize hw0:w.alloc _=w0 at*
 generalize hop:(Xd.toNat-1)*13=op at*
 generalize hon:(node.toNat-1)*13=on at*
 have HW0:=Xqh hw0
 have HOP:=Xqh hop
 have HON:=Xqh hon
 have HS0:=Xqh hs0
 clear hw0 hop hon hs0
 have n1:((A.get node).Xa==1)=false:=by simp;exact fun e=>hkn (.inl e)
 have n2:((A.get node).Xa==2)=false:=by simp;exact fun e=>hkn (.inr e)
 have hbh':=hb hb0
 have hq1:=hbh'.1
 have hq2:=hbh'.2
 unfold Ar.n at hq2
 obtain⟨kvb,avb,Fb,-,-⟩:=hNx before hbh'
 have cb1:=Below.old hB0 Fb.c1
 have e1:(before !=0)=true:=by simp[hb0]
 have hbh:decide (A.has before)=true:=by simp[hbh']
 clear Fp Fn Fb hNx hN hfn hkn hc0 hb0 hb hbh'
 by_cases hbn:before=node
 ·have e2:(before==node)=true:=by{simp[hbn]};have HBN:=Xqh hbn;clear hbn hnf;rcases hk with hk|hk|hk;all_goals rw[hk]at cp0;clear hk;go_enter Tryz.func59,Tryz.ntmps59;go_wp2_with fail;rw[HW0.out];refine(YH A b _ c _ [Xd,node] _ h0' (by rw[←HW0.out];exact ZR _ _ _ _)).mono ?_;rintro e w'⟨rfl,rfl⟩;rw[hck];go_wp2_with fail;refine(ZH A b _ c before _ h0').mono ?_;rintro e w'⟨rfl,rfl⟩;rw[hbh];go_wp2_with fail;refine(XY b nb _ c Xd _ h0' hp1 hp2 hm).mono ?_;rintro e w2⟨rfl,rfl⟩;go_wp2_with fail;refine(XY b nb _ c node _ h0' hn1 hn2 hm).mono ?_;rintro e w2⟨rfl,rfl⟩;rw[HOP.out,HON.out];go_wp2_with fail;refine(XaJ A ρ b node Xd path _ hA0 hn hp hpath).mono ?_;rintro e w1⟨rfl,hB1⟩;rw[hc];go_wp2;go_ret;exact⟨rfl,ρ,hA0.below hB1,Xr.below (Below.Yb hB0 hB1)⟩
 ·have e2:(before==node)=false:=by{simp[hbn]};have e3:((A.get before).Xd !=Xd)=true:=by{simp;exact hnf.resolve_left hbn};clear hbn hnf;rcases hk with hk|hk|hk;all_goals rw[hk]at cp0;clear hk;go_enter Tryz.func59,Tryz.ntmps59;go_wp2_with fail;rw[HW0.out];refine(YH A b _ c _ [Xd,node] _ h0' (by rw[←HW0.out];exact ZR _ _ _ _)).mono ?_;rintro e w'⟨rfl,rfl⟩;rw[hck];go_wp2_with fail;refine(ZH A b _ c before _ h0').mono ?_;rintro e w'⟨rfl,rfl⟩;rw[hbh];go_wp2_with fail;refine(XY b nb _ c Xd _ h0' hp1 hp2 hm).mono ?_;rintro e w2⟨rfl,rfl⟩;go_wp2_with fail;refine(XY b nb _ c node _ h0' hn1 hn2 hm).mono ?_;rintro e w2⟨rfl,rfl⟩;rw[HOP.out,HON.out];go_wp2_with fail;refine(XaJ A ρ b node Xd path _ hA0 hn hp hpath).mono ?_;rintro e w1⟨rfl,hB1⟩;rw[hc];have g0:=Below.old hB1 h0';have gb1:=Below.old hB1 cb1;go_wp2_with fail;refine(XY b nb _ c before _ g0 hq1 hq2 hm).mono ?_;rintro e w2⟨rfl,rfl⟩;go_wp2;go_ret;exact⟨rfl,ρ,hA0.below hB1,Xr.below (Below.Yb hB0 hB1)⟩
end
end Go.Proofs.YtpicinjcmjaogaaGreatDoor
