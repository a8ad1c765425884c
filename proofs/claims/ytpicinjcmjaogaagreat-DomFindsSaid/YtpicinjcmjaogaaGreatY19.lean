import Derived.Test.YtpicinjcmjaogaaGreatY18
set_option maxRecDepth 100000
set_option maxHeartbeats 4000000
set_option linter.unusedVariables false
namespace Go.Proofs.YtpicinjcmjaogaaGreat
variable{w:World}{ρ:Nat->Nat}{b k:Nat}{A:Ar}{l:List Int}{x:Int}
section
open Go.RowKit
theorem Xx.Xhs {h:Int}(p:Int)(hR:Xx w ρ b A)(hh:A.has h):∃nb c,w.cell? ⟨b,0,none⟩=some (.slice (some ⟨nb,0,none⟩) (A.ns.length+1) c)/\A.ns.length+1<=c/\(∃x,w.cell? ⟨nb,h.toNat*13+1,none⟩=some x)/\w.frozen? ⟨nb,h.toNat*13+1,none⟩=false/\Xx (w.setCell ⟨nb,h.toNat*13+1,none⟩ (.int .i64 p)) ρ b (A.mod h (λx=>{x with Xd:=p}))/\Xr ρ ρ w (w.setCell ⟨nb,h.toNat*13+1,none⟩ (.int .i64 p)):=by
 obtain⟨nb,c,g0,-,gc,gfn,-,-,gN⟩:=hR.look
 obtain⟨-,-,kv,av,F,-,-⟩:=gN h hh
 have hst:=hR.field (x:=h) (f:=λx=>{x with Xd:=p}) (j:=1) (v:= .int .i64 p) hh g0 (by omega) (λ_ _=>rfl) rfl rfl
 exact⟨nb,c,g0,gc,⟨_,F.c1⟩,gfn _,hst.1,hst.2⟩
theorem Xly {o n c:Nat}(h:Xy w (.slice (some ⟨b,o,none⟩) n c) l){j:Nat}(hx:l[j]?=some x):w.cell? ⟨b,o+j,none⟩=some (.int .i64 x):=by
 have hp:0<l.length:=by have:=(List.getElem?_eq_some_iff.1 hx).1;omega
 obtain⟨b',o',e,-,hcs⟩:=h.cells hp
 simp at e
 obtain⟨rfl,rfl⟩:=e
 exact hcs j x hx
/-- The part of Put's list that the first k children make. -/
def ZN (l : List Int) (node before : Int) (k : Nat) : List Int := (l.take k).flatMap λx => if x = before then [node, x] else [x]
theorem Xht {node before:Int}(hx:l[k]?=some x):ZN l node before (k+1)=ZN l node before k++(if x=before then [node,x]else [x]):=XeR _ hx
theorem Xhu (l:List Int)(node before:Int):∀k,(ZN l node before k).length<=2*k
 |0=>by{simp[ZN]}
 |k+1=>by{have:=Xhu l node before k;by_cases hk:k<l.length;{rw[Xht (List.getElem?_eq_getElem hk),List.length_append];split<;>simp<;>omega};·have h1:ZN l node before (k+1)=ZN l node before k:=by{unfold ZN;rw[List.take_of_length_le (by omega),List.take_of_length_le (by omega)]};rw[h1];omega}
theorem Xlz (l:List Int)(node before:Int)(hk:l.length<=k):YK l node before=ZN l node before k++(if before=0 then [node]else []):=by
 unfold YK ZN
 rw[List.take_of_length_le hk]
theorem XlA (f:Nd->Nd)(hx:A.has x)(g:Nd->Nd)(h:g (A.get x)=f (A.get x)):A.mod x f=A.mod x g:=by
 unfold Ar.mod
 congr 1
 have hg:=Ar.get_some hx
 apply List.ext_getElem?
 intro j
 rw[List.getElem?_modify,List.getElem?_modify]
 by_cases hj:x.toNat-1=j
 ·subst hj;rw[hg];simp[h]
 ·simp[hj]
theorem Xca (A:Ar)(ρ:Nat->Nat)(b:Nat)(Xd node before:Int)(w:World)(hA:Xx w ρ b A)(hW:A.WF)(hsm:A.ns.length<=1000000):Calls Tryz.prog 204 #[.pointer (some ⟨b,0,none⟩),.int .i64 Xd,.int .i64 node,.int .i64 before] w (Yu (A.put Xd node before).2 ρ b w (.int .i64 (A.put Xd node before).1)):=by
 have HAL:=Xqh (Xlx A ρ b Xd node before w hA hW)
 by_cases he:A.allowed Xd node before (A.contains node Xd)=0
 case neg=>have e:A.put Xd node before=(A.allowed Xd node before (A.contains node Xd),A):=by{unfold Ar.put;rw[if_pos he]};rw[e];have he1:(A.allowed Xd node before (A.contains node Xd)!=0)=true:=by{simpa using he};have HA:=Xqh hA;clear e he hA;generalize A.allowed Xd node before (A.contains node Xd)=ee at*;go_enter Tryz.func204,Tryz.ntmps204;go_wp2_with fail;refine HAL.out.mono ?_;rintro e w2⟨rfl,hB⟩;have HB:=Xqh hB;clear hB;go_wp2;go_ret;exact(Z6 (HA.out.below HB.out)).from HB.out
 case pos=>have e:A.put Xd node before=(0,A.place Xd node before):=by{unfold Ar.put;rw[if_neg (by simp[he])]};rw[e];obtain⟨hp,hn,hbb,hk,hkn,hcc⟩:=Xem he;have HCU:=Xqh (λW(hB:Below w.heap.size w W)=>Xde A ρ b node W (hA.below hB) hW hsm);have hcutc:A.XR node=(0,A.cut node):=by{unfold Ar.XR;rw[if_pos hn]};rw[hcutc]at HCU;have hp2:(A.cut node).has Xd:=(Ar.X5 _ _ _).2 hp;have hn2:(A.cut node).has node:=(Ar.X5 _ _ _).2 hn;have hl2:(A.cut node).ns.length=A.ns.length:=Ar.YY A node;have hkl:((A.cut node).get Xd).Xc.length<=A.ns.length:=(Ar.XdU hW hp hn hbb).1;have hpl:A.place Xd node before=((A.cut node).mod Xd (λx=>{x with Xc:=YK ((A.cut node).get Xd).Xc node before})).mod node (λx=>{x with Xd:=Xd}):=by{unfold Ar.place;rw[XlA _ hp2 (λx=>{x with Xc:=YK ((A.cut node).get Xd).Xc node before}) rfl]};rw[hpl];have HE:=Xqh he;generalize A.cut node=A2 at*;obtain⟨ks,hks⟩:∃ks,(A2.get Xd).Xc=ks:=⟨_,rfl⟩;rw[hks]at hkl⊢;have HKS:=Xqh hks;clear hks;have HP:=Xqh (And.intro hp2 hn2);have HL2:=Xqh hl2;clear hpl e he hcutc hp hn hbb hk hkn hcc hA;go_enter Tryz.func204,Tryz.ntmps204;go_wp2_with fail;refine HAL.out.mono ?_;rintro e w1⟨rfl,hB1⟩;rw[HE.out];have HB1:=Xqh hB1;go_wp2_with fail;refine(HCU.out w1 hB1).mono ?_;rintro e w2⟨rfl,ρ2,hA2,hT2⟩;obtain⟨nb,c,h0,hm,hc,hfn,hnb,-,hN⟩:=hA2.look;rw[hl2]at h0 hm hc;obtain⟨hpp,hpq,kv,av,F,hK,-⟩:=hN Xd hp2;rw[hl2]at hpq;rw[HKS.out]at hK;have k2:=F.c2;have f2:=hfn (Xd.toNat*13+2);have hnbl:nb<w2.heap.size:=hA2.1 nb (by omega);have HK:=Xqh (λW(hB:Below w2.heap.size w2 W)=>Xy.below hK.reads hB);obtain⟨pka,pkc,hpk,-⟩:=(show Xy w2 kv ks from hK.reads).form;subst hpk;have HST:=Xqh (fun(W:World)(v:Value)(hB:Below w2.heap.size w2 W)ho=>hA2.Xhq (l:=YK ks node before) (w2:=W) (v:=v) hp2 (by rw[hl2];exact h0) hB ho);have HT2:=Xqh ((Xr.below HB1.out).trans hT2);clear hA2 hT2 hN hfn F hK hB1 hl2 hp2 hn2 HCU HAL;obtain⟨i0,hi,hz0,hz1,hz2⟩:=info_parts Xaf;have HI:=Xqh hi;clear hi;go_wp2;have hsz2:=hkl;go_loopw [10,11](λout i wr=>∃k:Nat,k<=ks.length/\i= .int .i64 k/\Hid (Below w2.heap.size w2 wr/\wr.ownsRow w2.heap.size 3 1 out (ZN ks node before k).length ((ZN ks node before k).map Xp)))(λ_ i _=>ks.length-(intOf i).toNat);(case atStart=>exact⟨0,Nat.zero_le _,rfl,Below.refl _ _,World.ownsRow_nil _ _ _ _⟩);case round=>obtain⟨k,hk,rfl,hT⟩:=hrel;have g0:=Below.old hT.out.1 h0;have g2:=Below.old hT.out.1 k2;have hpl:=Xhu ks node before k;have hszr:w2.heap.size<=wr.heap.size:=hT.out.1.size;by_cases hlt:k<ks.length;{obtain⟨b1,o1,rfl,-,hcs⟩:=(HK.out wr hT.out.1).cells (by omega);obtain⟨x,hx⟩:∃x,ks[k]?=some x:=⟨_,List.getElem?_eq_getElem hlt⟩;have d1:=hcs k x hx;have hst:=Xht (node:=node) (before:=before) hx;have HT:=Xqh hT.out.1;have HO:=Xqh hT.out.2;generalize hL:ZN ks node before k=L at*;have HX:=Xqh hx;clear hcs hx hT hL;by_cases hxb:x=before;{have hxe:(x==before)=true:=by{simp[hxb]};rw[if_pos hxb]at hst;have HSTT:=Xqh hst;have HXB:=Xqh hxb;clear hst hxb;go_wp2_with(at_builtin;refine wpList_append_own _ rfl _ _ 41 rfl w2.heap.size 3 i0 _ 1 8 Tryz.underlying41 HI.out hz0 hz1 hz2 rfl (by decide) _ _ _ rfl (HO.out.alloc _) ⟨wr.heap.size,0,none⟩ 1 1 [Xp node] rfl rfl ?_ ?_ ?_ ?_ ?_ ?_);{intro j u hj;rw[Addr.add_mid,Nat.zero_add];exact Yi rfl (by simpa[Xp]using hj)};{intro u hu;simp at hu;subst hu;rfl};{unfold maxLen;omega};{omega};{simp;omega};intro v3 w3 hown hgrow _;have hB3:Below w2.heap.size w2 w3:=(HT.out.alloc hszr _).grown hgrow (by simp;omega) (λk hk=>(Yx HO.out k hk).1);have hO3:w3.ownsRow w2.heap.size 3 1 v3 (L++ [node]).length ((L++ [node]).map Xp):=by{rw[List.map_append,List.length_append];exact hown};have HO3:=Xqh hO3;have HB3:=Xqh hB3;have m0:=Below.old hB3 h0;have m2:=Below.old hB3 k2;have e1:w3.cell? ⟨b1,o1+k,none⟩=some (.int .i64 x):=Xly (HK.out w3 hB3) HX.out;have hsz3:w2.heap.size<=w3.heap.size:=hB3.size;have hl3:(L++ [node]).length<=2*k+1:=by{simp;omega};clear hown hgrow hO3 g0 g2 d1 hB3;go_wp2_with(at_builtin;refine wpList_append_own _ rfl _ _ 41 rfl w2.heap.size 3 i0 _ 1 8 Tryz.underlying41 HI.out hz0 hz1 hz2 rfl (by decide) _ _ _ rfl (HO3.out.alloc _) ⟨w3.heap.size,0,none⟩ 1 1 [Xp x] rfl rfl ?_ ?_ ?_ ?_ ?_ ?_);{intro j u hj;rw[Addr.add_mid,Nat.zero_add];exact Yi rfl (by simpa[Xp]using hj)};{intro u hu;simp at hu;subst hu;rfl};{unfold maxLen;omega};{omega};{simp;omega};intro v4 w4 hown hgrow _;have hB4:Below w2.heap.size w2 w4:=(HB3.out.alloc hsz3 _).grown hgrow (by simp;omega) (λk hk=>(Yx HO3.out k hk).1);have HF:Hid (Below w2.heap.size w2 w4/\w4.ownsRow w2.heap.size 3 1 v4 (ZN ks node before (k+1)).length ((ZN ks node before (k+1)).map Xp)):=Xqh ⟨hB4,by rw[HSTT.out,List.map_append,List.length_append];simpa using hown⟩;clear hown hgrow hB4;go_wp2;go_roundw;(case rel=>exact⟨k+1,hlt,by go_num,HF⟩);case measure=>simp[intOf];omega};·have hxe:(x==before)=false:=by{simpa using hxb};rw[if_neg hxb]at hst;have HSTT:=Xqh hst;clear hst hxb;go_wp2_with(at_builtin;refine wpList_append_own _ rfl _ _ 41 rfl w2.heap.size 3 i0 _ 1 8 Tryz.underlying41 HI.out hz0 hz1 hz2 rfl (by decide) _ _ _ rfl (HO.out.alloc _) ⟨wr.heap.size,0,none⟩ 1 1 [Xp x] rfl rfl ?_ ?_ ?_ ?_ ?_ ?_);{intro j u hj;rw[Addr.add_mid,Nat.zero_add];exact Yi rfl (by simpa[Xp]using hj)};{intro u hu;simp at hu;subst hu;rfl};{unfold maxLen;omega};{omega};{simp;omega};intro v3 w3 hown hgrow _;have hB3:Below w2.heap.size w2 w3:=(HT.out.alloc hszr _).grown hgrow (by simp;omega) (λk hk=>(Yx HO.out k hk).1);have HF:Hid (Below w2.heap.size w2 w3/\w3.ownsRow w2.heap.size 3 1 v3 (ZN ks node before (k+1)).length ((ZN ks node before (k+1)).map Xp)):=Xqh ⟨hB3,by rw[HSTT.out,List.map_append,List.length_append];exact hown⟩;clear hown hgrow hB3;go_wp2;go_roundw;(case rel=>exact⟨k+1,hlt,by go_num,HF⟩);case measure=>simp[intOf];omega};·have hall:=Xlz ks node before (k:=k) (by omega);have HT:=Xqh hT.out.1;have HO:=Xqh hT.out.2;clear hT;by_cases hb0:before=0;{rw[if_pos hb0]at hall;have hb1:(before==0)=true:=by{simp[hb0]};have HALL:=Xqh hall;have HB0:=Xqh hb0;generalize hL:ZN ks node before k=L at*;clear hall hb0 hL;go_wp2_with(at_builtin;refine wpList_append_own _ rfl _ _ 41 rfl w2.heap.size 3 i0 _ 1 8 Tryz.underlying41 HI.out hz0 hz1 hz2 rfl (by decide) _ _ _ rfl (HO.out.alloc _) ⟨wr.heap.size,0,none⟩ 1 1 [Xp node] rfl rfl ?_ ?_ ?_ ?_ ?_ ?_);{intro j u hj;rw[Addr.add_mid,Nat.zero_add];exact Yi rfl (by simpa[Xp]using hj)};{intro u hu;simp at hu;subst hu;rfl};{unfold maxLen;omega};{omega};{simp;omega};intro v5 w5 hown hgrow _;have hB5:Below w2.heap.size w2 w5:=(HT.out.alloc hszr _).grown hgrow (by simp;omega) (λk hk=>(Yx HO.out k hk).1);have HO5:Hid (w5.ownsRow w2.heap.size 3 1 v5 (YK ks node before).length ((YK ks node before).map Xp)):=Xqh (by rw[HALL.out,List.map_append,List.length_append];exact hown);have HB5:=Xqh hB5;clear hown hgrow hB5 g0 g2;have hsz5:w2.heap.size<=w5.heap.size:=HB5.out.size;obtain⟨fa,fc,rfl⟩:=X6 HO5.out;obtain⟨ρ6,hR6,hT6⟩:=HST.out w5 _ HB5.out HO5.out;have g05:=Below.old HB5.out h0;have g25:=Below.old HB5.out k2;have gf5:=(Below.frozen HB5.out (p:=⟨nb,Xd.toNat*13+2,none⟩) hnbl).trans f2;have HS6:Hid (∀w6,w5.setCell ⟨nb,Xd.toNat*13+2,none⟩ (.slice fa (YK ks node before).length fc)=w6->∃nb' c',w6.cell? ⟨b,0,none⟩=some (.slice (some ⟨nb',0,none⟩) (A.ns.length+1) c')/\A.ns.length+1<=c'/\(∃x,w6.cell? ⟨nb',node.toNat*13+1,none⟩=some x)/\w6.frozen? ⟨nb',node.toNat*13+1,none⟩=false/\Yu ((A2.mod Xd (λx=>{x with Xc:=YK ks node before})).mod node (λx=>{x with Xd:=Xd})) ρ b w (.int .i64 0) (.returned (.int .i64 0)) (w6.setCell ⟨nb',node.toNat*13+1,none⟩ (.int .i64 Xd))):=Xqh (by rintro w6 rfl;obtain⟨nb',c',q0,q1,q2,q3,q4,q5⟩:=hR6.Xhs (h:=node) Xd ((Ar.ZU _ _ _ _).2 HP.out.2);have hlen:(A2.mod Xd (λx=>{x with Xc:=YK ks node before})).ns.length=A.ns.length:=by{simp[Ar.mod,HL2.out]};rw[hlen]at q0 q1;exact⟨nb',c',q0,q1,q2,q3,rfl,_,q4,(HT2.out.trans hT6).trans q5⟩);have hnq:1<=node/\node<=A.ns.length:=⟨HP.out.2.1,by have:=HP.out.2.2;have:=HL2.out;unfold Ar.n at*;omega⟩;have hn1:=hnq.1;have hn2:=hnq.2;clear hR6 hT6 hnq h0 k2 f2;obtain⟨nb',c',q0,q1,⟨mx,q2⟩,q3,q4⟩:=HS6.out _ rfl;have HQ4:=Xqh q4;clear q4;go_wp2;go_ret;exact HQ4.out};·rw[if_neg hb0,List.append_nil]at hall;have hb1:(before==0)=false:=by{simpa using hb0};have HB5:=HT;have HO5:=HO;rw[<-hall]at HO5;obtain⟨fa,fc,hfa⟩:=X6 HO5.out;subst hfa;clear hall hb0 HO;generalize hw5:wr=w5 at*;clear hw5;obtain⟨v5,hv5⟩:∃v5,v5=Value.slice fa (YK ks node before).length fc:=⟨_,rfl⟩;rw[<-hv5]at HO5;subst hv5;have hsz5:w2.heap.size<=w5.heap.size:=HB5.out.size;obtain⟨ρ6,hR6,hT6⟩:=HST.out w5 _ HB5.out HO5.out;have g05:=Below.old HB5.out h0;have g25:=Below.old HB5.out k2;have gf5:=(Below.frozen HB5.out (p:=⟨nb,Xd.toNat*13+2,none⟩) hnbl).trans f2;have HS6:Hid (∀w6,w5.setCell ⟨nb,Xd.toNat*13+2,none⟩ (.slice fa (YK ks node before).length fc)=w6->∃nb' c',w6.cell? ⟨b,0,none⟩=some (.slice (some ⟨nb',0,none⟩) (A.ns.length+1) c')/\A.ns.length+1<=c'/\(∃x,w6.cell? ⟨nb',node.toNat*13+1,none⟩=some x)/\w6.frozen? ⟨nb',node.toNat*13+1,none⟩=false/\Yu ((A2.mod Xd (λx=>{x with Xc:=YK ks node before})).mod node (λx=>{x with Xd:=Xd})) ρ b w (.int .i64 0) (.returned (.int .i64 0)) (w6.setCell ⟨nb',node.toNat*13+1,none⟩ (.int .i64 Xd))):=Xqh (by rintro w6 rfl;obtain⟨nb',c',q0,q1,q2,q3,q4,q5⟩:=hR6.Xhs (h:=node) Xd ((Ar.ZU _ _ _ _).2 HP.out.2);have hlen:(A2.mod Xd (λx=>{x with Xc:=YK ks node before})).ns.length=A.ns.length:=by{simp[Ar.mod,HL2.out]};rw[hlen]at q0 q1;exact⟨nb',c',q0,q1,q2,q3,rfl,_,q4,(HT2.out.trans hT6).trans q5⟩);have hnq:1<=node/\node<=A.ns.length:=⟨HP.out.2.1,by have:=HP.out.2.2;have:=HL2.out;unfold Ar.n at*;omega⟩;have hn1:=hnq.1;have hn2:=hnq.2;clear hR6 hT6 hnq h0 k2 f2;obtain⟨nb',c',q0,q1,⟨mx,q2⟩,q3,q4⟩:=HS6.out _ rfl;have HQ4:=Xqh q4;clear q4;go_wp2;go_ret;exact HQ4.out
end
section
open Go.RowKit
theorem Ar.XlB (A:Ar)(d:Int):A.Ext (A.Xq d).2:=⟨(Ar.XaK A d).1,λx hx=>by rw[(Ar.JS hx).1]⟩
theorem Xx.XlC {w2:World}{v:Value}{l:List Xm}(r:Nat)(hA:Xx w ρ b A)(hB:Below w.heap.size w w2)(ho:w2.ownsRow w.heap.size 132 3 v l.length (l.flatMap Xv)):∃ρ',Xx w2 ρ' b A/\XT w2 ρ' r 132 3 v l.length (l.flatMap Xv)/\Xr ρ ρ' w w2:=by
 cases hv:v.ownBlock with|none=>{exact⟨ρ,hA.below hB,⟨YP ho (Nat.zero_le _),λg hg=>by rw[hv]at hg;simp at hg⟩,Xr.below hB⟩}|some g=>obtain⟨h1,h2⟩:=Yx ho g hv;have h0:ρ g=0:=Classical.not_not.1 (λh=>by have:=hA.1 g h;omega);refine⟨_,(hA.below hB).XdS g r h0 h2,⟨YP ho (Nat.zero_le _),λg' hg'=>?_⟩,⟨Upd.below hB,λk hk=>?_⟩⟩;{rw[hv]at hg';simp at hg';simp[hg']};·rw[if_neg (by omega)]
theorem XlD (A:Ar)(ρ:Nat->Nat)(b:Nat)(d s:Int)(name:ByteArray)(v:Value)(l:List Xm)(w:World)(hA:Xx w ρ b A)(hv:XE w v l)(he:¬(A.XA d=0/\XS s/\Ys l)):Calls Tryz.prog 28 #[.pointer (some ⟨b,0,none⟩),.int .i64 d,.int .i64 s,.string name,v] w (Yu (A.element d s name l).2 ρ b w (Xl (A.element d s name l).1)):=by
 have HO:=Xqh (Xb9 A ρ b d w hA)
 have HI:=Xqh (Xdc s w)
 have HS:=Xqh (Xe2 v l w hv)
 have HA:=Xqh hA
 obtain⟨va,vc,rfl,-⟩:=hv.form
 clear hv hA
 by_cases hd:A.XA d=0
 ·have hsp:¬(XS s/\Ys l):=λh=>he ⟨hd,h⟩;rw[XaL hd hsp];have HD:=Xqh hd;by_cases hi:XS s;{have hi1:decide (XS s)=true:=decide_eq_true hi;have hs1:decide (Ys l)=false:=decide_eq_false (λh=>hsp ⟨hi,h⟩);clear hd hi hsp he;go_enter Tryz.func28,Tryz.ntmps28;go_wp2_with fail;refine HO.out.mono ?_;rintro e w1⟨rfl,rfl⟩;rw[HD.out];go_wp2_with fail;refine HI.out.mono ?_;rintro e w1⟨rfl,rfl⟩;rw[hi1];go_wp2_with fail;refine HS.out.mono ?_;rintro e w1⟨rfl,rfl⟩;rw[hs1];go_wp2;go_ret2;exact⟨rfl,ρ,HA.out,Xr.refl _ _⟩};·have hi1:decide (XS s)=false:=decide_eq_false hi;clear hd hi hsp he;go_enter Tryz.func28,Tryz.ntmps28;go_wp2_with fail;refine HO.out.mono ?_;rintro e w1⟨rfl,rfl⟩;rw[HD.out];go_wp2_with fail;refine HI.out.mono ?_;rintro e w1⟨rfl,rfl⟩;rw[hi1];go_wp2;go_ret2;exact⟨rfl,ρ,HA.out,Xr.refl _ _⟩
 ·have e:A.element d s name l=((0,A.XA d),A):=by{unfold Ar.element;rw[if_pos hd]};rw[e];have hd1:(A.XA d !=0)=true:=by{simpa using hd};clear e hd he;generalize A.XA d=ee at*;go_enter Tryz.func28,Tryz.ntmps28;go_wp2_with fail;refine HO.out.mono ?_;rintro e w1⟨rfl,rfl⟩;go_wp2;go_ret2;exact⟨rfl,ρ,HA.out,Xr.refl _ _⟩
theorem XlE (A:Ar)(ρ:Nat->Nat)(b:Nat)(d s:Int)(name:ByteArray)(v:Value)(l:List Xm)(w:World)(hA:Xx w ρ b A)(hv:XE w v l)(hsm:A.ns.length+3<=1000000)(hl:l.length<=1000000)(he:A.XA d=0)(hs:XS s/\Ys l):Calls Tryz.prog 28 #[.pointer (some ⟨b,0,none⟩),.int .i64 d,.int .i64 s,.string name,v] w (Yu (A.element d s name l).2 ρ b w (Xl (A.element d s name l).1)):=by
 have HO:=Xqh (Xb9 A ρ b d w hA)
 have HI:=Xqh (Xdc s w)
 have HS:=Xqh (Xe2 v l w hv)
 have HON:=Xqh (Xhp v l w hv hl)
 have HA:=Xqh hA
 have HE:=Xqh he
 have hi1:decide (XS s)=true:=decide_eq_true hs.1
 have hs1:decide (Ys l)=true:=decide_eq_true hs.2
 have hdh:A.has d:=JV he
 have HDH:=Xqh hdh
 obtain⟨va,vc,rfl,-⟩:=hv.form
 have hfin:∃nd,nd=XJ d s name l/\(¬XN nd->A.element d s name l=((A.n+1,0),A.add nd))/\(XN nd->A.element d s name l=((A.n+1,0),((((A.add nd).Xq d).2.add (Y7 (A.n+1) ((A.add nd).Xq d).1)).mod (A.n+1) (λx=>{x with Xg:=((A.add nd).Xq d).2.n+1})))):=⟨_,rfl,λht=>XaM he hs ht,λht=>XaN he hs ht⟩
 obtain⟨nd,hnd,hf1,hf2⟩:=hfin
 have hfst:(A.element d s name l).1=(A.n+1,0):=by by_cases ht:XN nd;{rw[hf2 ht]};·rw[hf1 ht]
 rw[hfst]
 have HF:=Xqh (And.intro hf1 hf2)
 clear hv hA he hs hdh hf1 hf2 hfst
 generalize(A.element d s name l)=R at*
 have HND:=Xqh hnd
 clear hnd
 go_enter Tryz.func28,Tryz.ntmps28
 go_wp2_with fail
 refine HO.out.mono ?_
 rintro e w1⟨rfl,rfl⟩
 rw[HE.out]
 go_wp2_with fail
 refine HI.out.mono ?_
 rintro e w1⟨rfl,rfl⟩
 rw[hi1]
 go_wp2_with fail
 refine HS.out.mono ?_
 rintro e w1⟨rfl,rfl⟩
 rw[hs1]
 go_wp2_with fail
 refine HON.out.mono ?_
 rintro e w1⟨hB1,v1,rfl,ho1⟩
 obtain⟨ρ1,hA1,hro,hT1⟩:=HA.out.XlC (2*(A.ns.length+1)+5) hB1 ho1
 obtain⟨oa,oc,rfl⟩:=X6 ho1
 have HAD:=Xqh (Xdd A ρ1 b (XJ d s name l) oa oc w1 hA1 (by omega) rfl hro)
 have HT1:=Xqh hT1
 clear hA1 hro hT1 ho1 hB1 HO HI HS HON HA
 go_wp2_with fail
 refine HAD.out.mono ?_
 rintro e w2⟨rfl,ρ2,hA2,hT2⟩
 rw[<-HND.out]at hA2
 obtain⟨nb,c,h0,hm,hc,hfn,hnb,-,hN⟩:=hA2.look
 have hlen:(A.add nd).ns.length=A.ns.length+1:=by simp[Ar.add]
 rw[hlen]at h0 hm hc
 obtain⟨hp,hq,kv,av,F,-,-⟩:=hN _ (Xbd nd)
 rw[hlen]at hq
 rw[add_get]at F
 have c0:=F.c0
 have c1:=F.c1
 have c2:=F.c2
 have c3:=F.c3
 have c4:=F.c4
 have c5:=F.c5
 have c6:=F.c6
 have c7:=F.c7
 have c8:=F.c8
 have c9:=F.c9
 have c10:=F.c10
 have c11:=F.c11
 have c12:=F.c12
 have HIT:=Xqh (Xll nd kv av w2)
 have HT2:=Xqh (HT1.out.trans hT2)
 have HA2:=Xqh hA2
 clear hA2 hT2 hN F hfn HAD
 unfold Nd.cells at HIT
 go_wp2_with fail
 refine HIT.out.mono ?_
 rintro e w3⟨rfl,hB3⟩
 clear HIT c0 c1 c2 c3 c4 c5 c6 c7 c8 c9 c10 c11 c12 h0 hm hc
 have hA3:=HA2.out.below hB3
 have HT3:=Xqh (HT2.out.trans (Xr.below hB3))
 by_cases ht:XN nd
 ·have ht1:decide (XN nd)=true:=decide_eq_true ht;rw[ht1];have HR:=Xqh (HF.out.2 ht);have HIN:=Xqh (Xe5 (A.add nd) ρ2 b d w3 hA3 (by rw[hlen];omega) ((Ar.XO _ _ _).2 (.inl HDH.out)));have hil:=Ar.XaK (A.add nd) d;have hext:=Ar.XlB (A.add nd) d;rw[hlen]at hil;have hxh:=hext.has (Xbd nd);generalize(A.add nd).Xq d=I at*;obtain⟨i,A4⟩:=I;dsimp only at hil hext hxh HIN HR;have HX:=Xqh hxh;clear hxh hext hA3 ht ht1 hB3;go_wp2_with fail;refine HIN.out.mono ?_;rintro e w4⟨rfl,ρ4,hA4,hT4⟩;have HAD2:=Xqh (Xdd A4 ρ4 b (Y7 (A.n+1) i) none 0 w4 hA4 (by omega) rfl (Xe3 _ _ _));have HT4:=Xqh (HT3.out.trans hT4);clear hA4 hT4 HIN;go_wp2_with fail;refine HAD2.out.mono ?_;rintro e w5⟨rfl,ρ5,hA5,hT5⟩;obtain⟨nb5,c5,g0,gm,gc,gfn,-,-,gN⟩:=hA5.look;have hl5:(A4.add (Y7 (A.n+1) i)).ns.length=A4.ns.length+1:=by{simp[Ar.add]};have hx5:(A4.add (Y7 (A.n+1) i)).has (A.n+1):=(Ar.XO _ _ _).2 (.inl HX.out);obtain⟨xp,xq,kv5,av5,F5,-,-⟩:=gN _ hx5;have e11:=F5.c11;have f11:=gfn ((A.n+1).toNat*13+11);have hst:=hA5.field (x:=A.n+1) (f:=λx=>{x with Xg:=A4.n+1}) (j:=11) (v:= .int .i64 (A4.n+1)) hx5 g0 (by omega) (λ_ _=>rfl) rfl rfl;rw[hl5]at g0 gm gc xq;have HST:=Xqh (And.intro hst.1 ((HT4.out.trans hT5).trans hst.2));clear hst hA5 hT5 gN gfn F5 hx5 hl5 HAD2;have HL:=Xqh hlen;clear hlen;go_wp2;go_ret2;rw[HR.out];exact⟨rfl,ρ5,HST.out.1,HST.out.2⟩
 ·have ht1:decide (XN nd)=false:=decide_eq_false ht;rw[ht1];have HR:=Xqh (HF.out.1 ht);have HA3:=Xqh hA3;have HL:=Xqh hlen;clear hA3 ht hB3 hlen;go_wp2;go_ret2;rw[HR.out];exact⟨rfl,ρ2,HA3.out,HT3.out⟩
theorem Xe8 (A:Ar)(ρ:Nat->Nat)(b:Nat)(d s:Int)(name:ByteArray)(v:Value)(l:List Xm)(w:World)(hA:Xx w ρ b A)(hv:XE w v l)(hsm:A.ns.length+3<=1000000)(hl:l.length<=1000000):Calls Tryz.prog 28 #[.pointer (some ⟨b,0,none⟩),.int .i64 d,.int .i64 s,.string name,v] w (Yu (A.element d s name l).2 ρ b w (Xl (A.element d s name l).1)):=by
 by_cases he:A.XA d=0/\XS s/\Ys l
 ·exact XlE A ρ b d s name v l w hA hv hsm hl he.1 he.2
 ·exact XlD A ρ b d s name v l w hA hv he
end
end Go.Proofs.YtpicinjcmjaogaaGreat
