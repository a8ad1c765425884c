import Derived.MapFrom
import Derived.Test.YtpicinjcmjaogaaGreatDoorW03
set_option maxRecDepth 100000
set_option maxHeartbeats 4000000
set_option linter.unusedVariables false
namespace Go.Proofs.YtpicinjcmjaogaaGreatDoor
section
open Go.RowKit
theorem Xz.at {w:World}{ρ:Nat→Nat}{b nb m c:Nat}{A:Ar}(hA:Xz w ρ b A)(hc:w.cell? ⟨b,0,none⟩=some (.slice (some ⟨nb,0,none⟩) m c)){x:Int}(hx:A.has x):m=A.ns.length∧ρ nb=2∧nb<w.heap.size∧(∀j,w.frozen? ⟨nb,j,none⟩=false)∧∃kv av,YB w nb ((x.toNat-1)*13) (A.get x) kv av∧XT w ρ (2*(x.toNat-1)+4) 3 1 kv (A.get x).Xc.length ((A.get x).Xc.map Xp)∧XT w ρ (2*(x.toNat-1)+5) 120 3 av (A.get x).Xb.length ((A.get x).Xb.flatMap Xv):=by
 obtain⟨a,c',mv,h0,-,-,-,-,hN⟩:=hA.head
 have h1:=hx.1
 have h2:=hx.2
 unfold Ar.n at h2
 obtain⟨nb',rfl,hr,hnb,hfn,hNx⟩:=hN (by omega)
 rw[hc]at h0
 simp at h0
 obtain⟨rfl,rfl,rfl⟩:=h0
 exact⟨rfl,hr,hnb,hfn,hNx x hx⟩
theorem Xgk {w2 w3:World}{ρ2 ρ3:Nat→Nat}{b nb c:Nat}{A2:Ar}{Xd node:Int}{l':List Int}{g cc:Nat}(hA2:Xz w2 ρ2 b A2)(hp:A2.has Xd)(hn:A2.has node)(hc:w2.cell? ⟨b,0,none⟩=some (.slice (some ⟨nb,0,none⟩) A2.ns.length c))(hU:Upd (fun k=>ρ2 k=2*(Xd.toNat-1)+4) w2 w3)(hr:∀k,k<w2.heap.size→ρ3 k=ρ2 k)(hb:∀k,ρ3 k≠0→k<w3.heap.size)(hown:XT w3 ρ3 (2*(Xd.toNat-1)+4) 3 1 (.slice (some ⟨g,0,none⟩) l'.length cc) l'.length (l'.map Xp)):Xz ((w3.setCell ⟨nb,(Xd.toNat-1)*13+2,none⟩ (.slice (some ⟨g,0,none⟩) l'.length cc)).setCell ⟨nb,(node.toNat-1)*13+1,none⟩ (.int .i64 Xd)) ρ3 b ((A2.mod Xd (fun x=>{x with Xc:=l'})).mod node (fun x=>{x with Xd:=Xd}))∧Xr ρ2 ρ3 w2 ((w3.setCell ⟨nb,(Xd.toNat-1)*13+2,none⟩ (.slice (some ⟨g,0,none⟩) l'.length cc)).setCell ⟨nb,(node.toNat-1)*13+1,none⟩ (.int .i64 Xd)):=by
 obtain⟨-,hrnb,hnbl,-,-⟩:=hA2.at hc hp
 have hbn:b≠nb:=by intro e;subst e;have:=hA2.2.1;omega
 have hr3:ρ3 nb=2:=(hr nb hnbl).trans hrnb
 have HE1:Xz (w3.setCell ⟨nb,(Xd.toNat-1)*13+2,none⟩ (.slice (some ⟨g,0,none⟩) l'.length cc)) ρ3 b (A2.mod Xd (fun x=>{x with Xc:=l'})):=by refine hA2.store hp hc (hU.mono (fun k _ hk=> .inl hk)) hr hb (j:=2) (by omega) (fun kv av hk ha _ _=>⟨_,av,rfl,hown,(ha.role hr).upd hU (fun k hk hf=>?_)⟩);have:k<w2.heap.size:=hA2.1 k (by omega);rw[hr k this]at hk;omega
 have hT1:Xr ρ2 ρ3 w2 w3:=⟨hU.mono (fun k _ hk=>by omega),hr⟩
 have hc3:(w3.setCell ⟨nb,(Xd.toNat-1)*13+2,none⟩ (.slice (some ⟨g,0,none⟩) l'.length cc)).cell? ⟨b,0,none⟩=some (.slice (some ⟨nb,0,none⟩) A2.ns.length c):=by rw[World.cell?_setCell_other w3 ⟨nb,(Xd.toNat-1)*13+2,none⟩ ⟨b,0,none⟩ _ (fun e=>hbn (congrArg Addr.block e).symm)];exact hU.cell hc (by have:=hA2.2.1;dsimp only;omega)
 exact⟨HE1.field (nb:=nb) (c:=c) ((Ar.ZU _ _ _ _).2 hn) (by rw[hc3];simp[Ar.mod]) rfl (j:=1) (by omega) (fun _ _=>rfl) rfl rfl,(hT1.trans (Xr.set (by dsimp only;omega) _)).trans (Xr.set (by dsimp only;omega) _)⟩
theorem Xgl {A:Ar}{Xd node before:Int}{K ins:List Int}(hp':(A.cut node).has Xd)(hK:((A.cut node).get Xd).Xc=K)(hput:YK K node before=ins):((A.cut node).mod Xd (fun x=>{x with Xc:=ins})).mod node (fun x=>{x with Xd:=Xd})=A.place Xd node before:=by
 subst hput
 unfold Ar.place
 congr 1
 unfold Ar.mod
 congr 1
 have hget:=Ar.get_some hp'
 apply List.ext_getElem?
 intro k
 rw[List.getElem?_modify,List.getElem?_modify]
 by_cases hk:Xd.toNat-1=k
 ·subst hk;rw[hget];simp[hK]
 ·simp[hk]
theorem XjJ (A:Ar)(ρ:Nat→Nat)(b:Nat)(Xd node before:Int)(w:World)(hA:Xz w ρ b A)(hW:A.WF)(h:A.has Xd∧A.has node∧(before≠0→A.has before))(hk:(A.get Xd).Xa=1∨(A.get Xd).Xa=2∨(A.get Xd).Xa=4)(hsmall:A.ns.length≤1000000)(hkn:¬((A.get node).Xa=1∨(A.get node).Xa=2))(path:List Int)(hpath:A.Way (Ye A true) Xd path)(hc0:node∉path)(hb0:before=0):Calls Tryz.prog 59 #[.pointer (some ⟨b,0,none⟩),.int .i64 Xd,.int .i64 node,.int .i64 before] w (Yk (A.place Xd node before) ρ b w (.int .i64 0)):=by
 have hc:decide (node∈path)=false:=by simp[hc0]
 obtain⟨pf1,-,-,pf4⟩:=Ar.XdU (before:=before) hW h.1 h.2.1 (fun e=>absurd hb0 e)
 have PF4:=Xqh (pf4 hb0)
 clear pf4
 obtain⟨a,c,mv,h0,h1,hf,hlt,hm,hN⟩:=hA.head
 obtain⟨hp,hn,hb⟩:=h
 have hp1:=hp.1
 have hp2:=hp.2
 have hn1:=hn.1
 have hn2:=hn.2
 unfold Ar.n at hp2 hn2
 obtain⟨nb,rfl,hr,hnb,hfn,hNx⟩:=hN (by omega)
 obtain⟨kvp,avp,Fp,hKp,-⟩:=hNx Xd hp
 obtain⟨kvn,avn,Fn,-,-⟩:=hNx node hn
 have hB0:=Xw w (.cells #[.int .i64 Xd,.int .i64 node] 3)
 have hA0:=hA.below hB0
 have h0':=Below.old hB0 h0
 have cp0:=Below.old hB0 Fp.c0
 have cn0:=Below.old hB0 Fn.c0
 have hck:Yc A [Xd,node]=0:=by simp[Yc,hp,hn]
 have hs0:(w.alloc (.cells #[.int .i64 Xd,.int .i64 node] 3)).heap.size=w.heap.size+1:=by simp
 generalize hw0:w.alloc _=w0 at*
 generalize hop:(Xd.toNat-1)*13=op at*
 generalize hon:(node.toNat-1)*13=on at*
 have HW0:=Xqh hw0
 have HOP:=Xqh hop
 have HON:=Xqh hon
 have HS0:=Xqh hs0
 clear hw0 hop hon hs0
 have n1:((A.get node).Xa==1)=false:=by simp;exact fun e=>hkn (.inl e)
 have n2:((A.get node).Xa==2)=false:=by simp;exact fun e=>hkn (.inr e)
 have e1:(before !=0)=false:=by simp[hb0]
 clear Fp Fn hNx hN hfn hkn hc0 hb hb0 hKp
 rcases hk with hk|hk|hk
 all_goals rw[hk]at cp0;clear hk;go_enter Tryz.func59,Tryz.ntmps59;go_wp2_with fail;rw[HW0.out];refine(YH A b _ c _ [Xd,node] _ h0' (by rw[←HW0.out];exact ZR _ _ _ _)).mono ?_;rintro e w'⟨rfl,rfl⟩;rw[hck];go_wp2_with fail;refine(XY b nb _ c Xd _ h0' hp1 hp2 hm).mono ?_;rintro e w2⟨rfl,rfl⟩;go_wp2_with fail;refine(XY b nb _ c node _ h0' hn1 hn2 hm).mono ?_;rintro e w2⟨rfl,rfl⟩;rw[HOP.out,HON.out];go_wp2_with fail;refine(XaJ A ρ b node Xd path _ hA0 hn hp hpath).mono ?_;rintro e w1⟨rfl,hB1⟩;rw[hc];have hA1:=hA0.below hB1;have g0:=Below.old hB1 h0';go_wp2_with fail;refine(Xee A ρ b node _ hA1 hn (hW.link node hn)).mono ?_;rintro e w2⟨⟨rfl,ρ2,hA2,hT2⟩,hhd⟩;rw[g0]at hhd;have hp':(A.cut node).has Xd:=(Ar.X5 _ _ _).2 hp;have hn':(A.cut node).has node:=(Ar.X5 _ _ _).2 hn;obtain⟨-,hr2,hnb2,hfn2,kv2,av2,F2,hK2,-⟩:=hA2.at hhd hp';obtain⟨-,-,-,-,kv3,av3,F3,-,-⟩:=hA2.at hhd hn';have c2:=F2.c2;have c31:=F3.c1;rw[HOP.out]at c2;rw[HON.out]at c31;have fp2:=hfn2 (op+2);have fn1:=hfn2 (on+1);have hform:=hK2.reads;obtain⟨ka,kc,rfl,hkl1,hkl2,-⟩:=Xy.form hform;have hlen0:=Ar.YY A node;rw[←hlen0]at hhd;generalize hKK:((A.cut node).get Xd).Xc=K at*;have HKK:=Xqh hKK;have HLEN0:=Xqh hlen0;clear hKK F2 F3 hfn2 hlen0;have hvb:(w2.alloc (.cells #[.int .i64 node] 3)).heap[w2.heap.size]?=some (.cells #[.int .i64 node] 3 (0,0)):=heap_alloc_new w2 _;have hBa:=Xw w2 (.cells #[.int .i64 node] 3);have hvr:ρ2 w2.heap.size≠2*(Xd.toNat-1)+4:=fun e=>by{have:=hA2.1 w2.heap.size (by omega);omega};have hins:=Xgj ρ2 (2*(Xd.toNat-1)+4) (.slice ka K.length kc) K K.length node w2.heap.size (w2.alloc (.cells #[.int .i64 node] 3)) (fun k hk=>Nat.lt_of_lt_of_le (hA2.1 k hk) hBa.size) (hK2.upd (F:=fun _=>False) (Upd.below hBa) (fun _ _=>id)) (Nat.le_refl _) hvb hvr (by omega);have HINS:=Xqh hins;clear hins;go_wp2_with fail;refine HINS.out.mono ?_;rintro e w3⟨g,cc,ρ3,rfl,hU3,hro3,hbd3,hown3⟩;have d2:w3.cell? ⟨nb,op+2,none⟩=some (.slice ka K.length kc):=hU3.cell (Below.old hBa c2) (by dsimp only;omega);have df2:w3.frozen? ⟨nb,op+2,none⟩=false:=hU3.free (Nat.lt_of_lt_of_le hnb2 hBa.size) ((Below.frozen hBa hnb2).trans fp2) (by dsimp only;omega);obtain⟨pv,d31⟩:∃pv,w3.cell? ⟨nb,on+1,none⟩=some pv:=⟨_,hU3.cell (Below.old hBa c31) (by dsimp only;omega)⟩;have df31:w3.frozen? ⟨nb,on+1,none⟩=false:=hU3.free (Nat.lt_of_lt_of_le hnb2 hBa.size) ((Below.frozen hBa hnb2).trans fn1) (by dsimp only;omega);have hend:=Xgk (hA2.below hBa) hp' hn' (Below.old hBa hhd) hU3 hro3 hbd3 hown3;rw[HOP.out,HON.out]at hend;have hpl:=Xgl (before:=before) hp' HKK.out (ins:=K.take K.length++node::K.drop K.length) (by rw[PF4.out];simp);rw[hpl]at hend;have hT3:=(((Xr.below (Below.Yb hB0 hB1)).trans hT2).trans (Xr.below hBa)).trans hend.2;have HEND:=Xqh (And.intro hend.1 hT3);have hne:op+2≠on+1:=by{have:=HOP.out;have:=HON.out;omega};have q1:(w3.setCell ⟨nb,op+2,none⟩ (.slice (some ⟨g,0,none⟩) (K.take K.length++node::K.drop K.length).length cc)).cell? ⟨nb,on+1,none⟩=some pv:=by{rw[World.cell?_setCell_other w3 ⟨nb,op+2,none⟩ ⟨nb,on+1,none⟩ _ (fun e=>hne (congrArg Addr.off e))];exact d31};clear hend hT3 hne hown3 hpl HKK;generalize(K.take K.length++node::K.drop K.length).length=ll at*;go_wp2;go_ret;exact⟨rfl,ρ3,HEND.out.1,HEND.out.2⟩
end
section
open Go.RowKit
theorem XjK (A:Ar)(ρ:Nat→Nat)(b:Nat)(Xd node before:Int)(w:World)(hA:Xz w ρ b A)(hW:A.WF)(h:A.has Xd∧A.has node∧(before≠0→A.has before))(hk:(A.get Xd).Xa=1∨(A.get Xd).Xa=2∨(A.get Xd).Xa=4)(hsmall:A.ns.length≤1000000)(hkn:¬((A.get node).Xa=1∨(A.get node).Xa=2))(path:List Int)(hpath:A.Way (Ye A true) Xd path)(hc0:node∉path)(hb0:before≠0)(hbn:before≠node)(hbp:(A.get before).Xd=Xd):Calls Tryz.prog 59 #[.pointer (some ⟨b,0,none⟩),.int .i64 Xd,.int .i64 node,.int .i64 before] w (Yk (A.place Xd node before) ρ b w (.int .i64 0)):=by
 have hc:decide (node∈path)=false:=by simp[hc0]
 obtain⟨pf1,pf2,pf3,-⟩:=Ar.XdU (before:=before) hW h.1 h.2.1 (fun e=>⟨h.2.2 e,hbn,hbp⟩)
 obtain⟨i,hi1,hi2,hi3,-⟩:=XcI (pf2 hb0)
 have PF4:=Xqh (pf3 i hb0 hi3)
 clear pf2 pf3 hi3
 obtain⟨a,c,mv,h0,h1,hf,hlt,hm,hN⟩:=hA.head
 obtain⟨hp,hn,hb⟩:=h
 have hp1:=hp.1
 have hp2:=hp.2
 have hn1:=hn.1
 have hn2:=hn.2
 unfold Ar.n at hp2 hn2
 obtain⟨nb,rfl,hr,hnb,hfn,hNx⟩:=hN (by omega)
 obtain⟨kvp,avp,Fp,hKp,-⟩:=hNx Xd hp
 obtain⟨kvn,avn,Fn,-,-⟩:=hNx node hn
 have hB0:=Xw w (.cells #[.int .i64 Xd,.int .i64 node] 3)
 have hA0:=hA.below hB0
 have h0':=Below.old hB0 h0
 have cp0:=Below.old hB0 Fp.c0
 have cn0:=Below.old hB0 Fn.c0
 have hck:Yc A [Xd,node]=0:=by simp[Yc,hp,hn]
 have hs0:(w.alloc (.cells #[.int .i64 Xd,.int .i64 node] 3)).heap.size=w.heap.size+1:=by simp
 generalize hw0:w.alloc _=w0 at*
 generalize hop:(Xd.toNat-1)*13=op at*
 generalize hon:(node.toNat-1)*13=on at*
 have HW0:=Xqh hw0
 have HOP:=Xqh hop
 have HON:=Xqh hon
 have HS0:=Xqh hs0
 clear hw0 hop hon hs0
 have n1:((A.get node).Xa==1)=false:=by simp;exact fun e=>hkn (.inl e)
 have n2:((A.get node).Xa==2)=false:=by simp;exact fun e=>hkn (.inr e)
 have hbh':=hb hb0
 have hq1:=hbh'.1
 have hq2:=hbh'.2
 unfold Ar.n at hq2
 obtain⟨kvb,avb,Fb,-,-⟩:=hNx before hbh'
 have cb1:=Below.old hB0 Fb.c1
 rw[hbp]at cb1
 have e1:(before !=0)=true:=by simp[hb0]
 have e2:(before==node)=false:=by simp[hbn]
 have hbh:decide (A.has before)=true:=by simp[hbh']
 have HI1:=Xqh hi1
 clear Fp Fn Fb hNx hN hfn hkn hc0 hb hb0 hKp hbn hbp hbh' hi1
 rcases hk with hk|hk|hk
 all_goals rw[hk]at cp0;clear hk;go_enter Tryz.func59,Tryz.ntmps59;go_wp2_with fail;rw[HW0.out];refine(YH A b _ c _ [Xd,node] _ h0' (by rw[←HW0.out];exact ZR _ _ _ _)).mono ?_;rintro e w'⟨rfl,rfl⟩;rw[hck];go_wp2_with fail;refine(ZH A b _ c before _ h0').mono ?_;rintro e w'⟨rfl,rfl⟩;rw[hbh];go_wp2_with fail;refine(XY b nb _ c Xd _ h0' hp1 hp2 hm).mono ?_;rintro e w2⟨rfl,rfl⟩;go_wp2_with fail;refine(XY b nb _ c node _ h0' hn1 hn2 hm).mono ?_;rintro e w2⟨rfl,rfl⟩;rw[HOP.out,HON.out];go_wp2_with fail;refine(XaJ A ρ b node Xd path _ hA0 hn hp hpath).mono ?_;rintro e w1⟨rfl,hB1⟩;rw[hc];have hA1:=hA0.below hB1;have g0:=Below.old hB1 h0';go_wp2_with fail;have gb1:=Below.old hB1 cb1;refine(XY b nb _ c before _ g0 hq1 hq2 hm).mono ?_;rintro e w2⟨rfl,rfl⟩;go_wp2_with fail;refine(Xee A ρ b node _ hA1 hn (hW.link node hn)).mono ?_;rintro e w2⟨⟨rfl,ρ2,hA2,hT2⟩,hhd⟩;rw[g0]at hhd;have hp':(A.cut node).has Xd:=(Ar.X5 _ _ _).2 hp;have hn':(A.cut node).has node:=(Ar.X5 _ _ _).2 hn;obtain⟨-,hr2,hnb2,hfn2,kv2,av2,F2,hK2,-⟩:=hA2.at hhd hp';obtain⟨-,-,-,-,kv3,av3,F3,-,-⟩:=hA2.at hhd hn';have c2:=F2.c2;have c31:=F3.c1;rw[HOP.out]at c2;rw[HON.out]at c31;have fp2:=hfn2 (op+2);have fn1:=hfn2 (on+1);have hform:=hK2.reads;obtain⟨ka,kc,rfl,hkl1,hkl2,-⟩:=Xy.form hform;have hlen0:=Ar.YY A node;rw[←hlen0]at hhd;generalize hKK:((A.cut node).get Xd).Xc=K at*;have HKK:=Xqh hKK;have HLEN0:=Xqh hlen0;clear hKK F2 F3 hfn2 hlen0;have HIDX:=Xqh (Xeb (.slice ka K.length kc) K before w2 (XT.reads hK2));have hbK:K.length≤1000000:=by{omega};go_wp2_with fail;refine HIDX.out.mono ?_;rintro e w2'⟨rfl,rfl⟩;rw[HI1.out];have hvb:(w2.alloc (.cells #[.int .i64 node] 3)).heap[w2.heap.size]?=some (.cells #[.int .i64 node] 3 (0,0)):=heap_alloc_new w2 _;have hBa:=Xw w2 (.cells #[.int .i64 node] 3);have hvr:ρ2 w2.heap.size≠2*(Xd.toNat-1)+4:=fun e=>by{have:=hA2.1 w2.heap.size (by omega);omega};have hins:=Xgj ρ2 (2*(Xd.toNat-1)+4) (.slice ka K.length kc) K i node w2.heap.size (w2.alloc (.cells #[.int .i64 node] 3)) (fun k hk=>Nat.lt_of_lt_of_le (hA2.1 k hk) hBa.size) (hK2.upd (F:=fun _=>False) (Upd.below hBa) (fun _ _=>id)) (Nat.le_of_lt hi2) hvb hvr (by omega);have HINS:=Xqh hins;clear hins;go_wp2_with fail;refine HINS.out.mono ?_;rintro e w3⟨g,cc,ρ3,rfl,hU3,hro3,hbd3,hown3⟩;have d2:w3.cell? ⟨nb,op+2,none⟩=some (.slice ka K.length kc):=hU3.cell (Below.old hBa c2) (by dsimp only;omega);have df2:w3.frozen? ⟨nb,op+2,none⟩=false:=hU3.free (Nat.lt_of_lt_of_le hnb2 hBa.size) ((Below.frozen hBa hnb2).trans fp2) (by dsimp only;omega);obtain⟨pv,d31⟩:∃pv,w3.cell? ⟨nb,on+1,none⟩=some pv:=⟨_,hU3.cell (Below.old hBa c31) (by dsimp only;omega)⟩;have df31:w3.frozen? ⟨nb,on+1,none⟩=false:=hU3.free (Nat.lt_of_lt_of_le hnb2 hBa.size) ((Below.frozen hBa hnb2).trans fn1) (by dsimp only;omega);have hend:=Xgk (hA2.below hBa) hp' hn' (Below.old hBa hhd) hU3 hro3 hbd3 hown3;rw[HOP.out,HON.out]at hend;have hpl:=Xgl (before:=before) hp' HKK.out (ins:=K.take i++node::K.drop i) (by exact PF4.out);rw[hpl]at hend;have hT3:=(((Xr.below (Below.Yb hB0 hB1)).trans hT2).trans (Xr.below hBa)).trans hend.2;have HEND:=Xqh (And.intro hend.1 hT3);have hne:op+2≠on+1:=by{have:=HOP.out;have:=HON.out;omega};have q1:(w3.setCell ⟨nb,op+2,none⟩ (.slice (some ⟨g,0,none⟩) (K.take i++node::K.drop i).length cc)).cell? ⟨nb,on+1,none⟩=some pv:=by{rw[World.cell?_setCell_other w3 ⟨nb,op+2,none⟩ ⟨nb,on+1,none⟩ _ (fun e=>hne (congrArg Addr.off e))];exact d31};clear hend hT3 hne hown3 hpl HKK;generalize(K.take i++node::K.drop i).length=ll at*;go_wp2;go_ret;exact⟨rfl,ρ3,HEND.out.1,HEND.out.2⟩
theorem XbR (A:Ar)(ρ:Nat→Nat)(b:Nat)(Xd node before:Int)(w:World)(hA:Xz w ρ b A)(hW:A.WF)(hsmall:A.ns.length≤1000000):Calls Tryz.prog 59 #[.pointer (some ⟨b,0,none⟩),.int .i64 Xd,.int .i64 node,.int .i64 before] w (Yk (A.put Xd node before).2 ρ b w (.int .i64 (A.put Xd node before).1)):=by
 by_cases h:A.has Xd∧A.has node∧(before≠0→A.has before)
 ·have hal:=XjD (A.contains node Xd) h;have hway:=hW.Zs h.1;have hcont:A.contains node Xd=decide (node∈A.YR true Xd):=by{simp[Ar.contains,h.1,h.2.1]};by_cases hk:(A.get Xd).Xa=1∨(A.get Xd).Xa=2∨(A.get Xd).Xa=4;·{rw[if_neg (fun e=>e hk)]at hal;by_cases hkn:(A.get node).Xa=1∨(A.get node).Xa=2;·{rw[if_pos (by rcases hkn with e|e;exact .inl e;exact .inr (.inl e))]at hal;have:A.put Xd node before=(4,A):=by{unfold Ar.put;rw[hal];rfl};rw[this];exact XjG A ρ b Xd node before w hA h hk hkn};·by_cases hc:node∈A.YR true Xd;·{rw[if_pos (.inr (.inr (by rw[hcont];simpa using hc)))]at hal;have:A.put Xd node before=(4,A):=by{unfold Ar.put;rw[hal];rfl};rw[this];exact XjH A ρ b Xd node before w hA h hk hkn _ hway hc};·rw[if_neg (by rintro(e|e|e);exact hkn (.inl e);exact hkn (.inr e);rw[hcont]at e;exact hc (by simpa using e))]at hal;by_cases hb0:before=0;·{rw[if_neg (fun e=>e.1 hb0)]at hal;have:A.put Xd node before=(0,A.place Xd node before):=by{unfold Ar.put;rw[hal];rfl};rw[this];exact XjJ A ρ b Xd node before w hA hW h hk hsmall hkn _ hway hc hb0};·by_cases hnf:before=node∨(A.get before).Xd≠Xd;·{rw[if_pos ⟨hb0,hnf⟩]at hal;have:A.put Xd node before=(5,A):=by{unfold Ar.put;rw[hal];rfl};rw[this];exact XjI A ρ b Xd node before w hA h hk hkn _ hway hc hb0 hnf};·rw[if_neg (fun e=>hnf e.2)]at hal;have:A.put Xd node before=(0,A.place Xd node before):=by{unfold Ar.put;rw[hal];rfl};rw[this];exact XjK A ρ b Xd node before w hA hW h hk hsmall hkn _ hway hc hb0 (fun e=>hnf (.inl e)) (Classical.not_not.1 (fun e=>hnf (.inr e)))};·rw[if_pos hk]at hal;have:A.put Xd node before=(4,A):=by{unfold Ar.put;rw[hal];rfl};rw[this];exact XjF A ρ b Xd node before w hA h hk
 ·have hal:=XjC (A.contains node Xd) h;have:A.put Xd node before=(3,A):=by{unfold Ar.put;rw[hal];rfl};rw[this];exact XjE A ρ b Xd node before w hA h
theorem Xef (A:Ar)(ρ:Nat→Nat)(b:Nat)(h:Int)(w:World)(hA:Xz w ρ b A)(hW:A.WF):Calls Tryz.prog 80 #[.pointer (some ⟨b,0,none⟩),.int .i64 h] w (Yk (A.XR h).2 ρ b w (.int .i64 (A.XR h).1)):=by
 obtain⟨a,c,mv,h0,-,-,-,-,-⟩:=hA.head
 have hB0:=Xw w (.cells #[.int .i64 h] 3)
 have hA0:=hA.below hB0
 have h0':=Below.old hB0 h0
 by_cases hh:A.has h
 ·have hfin:A.XR h=(0,A.cut h):=by{simp[Ar.XR,hh]};have hck:Yc A [h]=0:=by{simp[Yc,hh]};rw[hfin];have HC:=Xqh (Xee A ρ b h _ hA0 hh (hW.link h hh));clear hfin;go_enter Tryz.func80,Tryz.ntmps80;go_wp2_with fail;refine(YH A b _ c _ [h] _ h0' (ZQ _ _ _)).mono ?_;rintro e w'⟨rfl,rfl⟩;rw[hck];go_wp2_with fail;refine HC.out.mono ?_;rintro e w2⟨⟨rfl,ρ2,hA2,hT2⟩,-⟩;go_wp2;go_ret;exact⟨rfl,ρ2,hA2,(Xr.below hB0).trans hT2⟩
 ·have hfin:A.XR h=(3,A):=by{simp[Ar.XR,hh]};have hck:Yc A [h]=3:=by{simp[Yc,hh]};rw[hfin];clear hfin;go_enter Tryz.func80,Tryz.ntmps80;go_wp2_with fail;refine(YH A b _ c _ [h] _ h0' (ZQ _ _ _)).mono ?_;rintro e w'⟨rfl,rfl⟩;rw[hck];go_wp2;go_ret;exact⟨rfl,ρ,hA0,Xr.below hB0⟩
end
section
open Go.RowKit
theorem XjL (L:List (Int×Int)):(Yj L).size=L.length:=by
 simp[Yj]
theorem Xag (L:List (Int×Int))(i:Nat):(Yj L)[i]?=(L[i]?).map (fun p=>{key:=Xp p.1,val:=Xp p.2,born:=i}):=by
 simp[Yj]
theorem XjM (L:List (Int×Int))(p:Int×Int):Yj (L++ [p])=(Yj L).push {key:=Xp p.1,val:=Xp p.2,born:=L.length}:=by
 simp[Yj,List.mapIdx_append]
theorem Xbg (k:Int):MapKept.IsKey (.int .i64) (Xp k):=rfl
theorem Xgm (L:List (Int×Int)):∀x∈(Yj L).toList,MapKept.IsKey (.int .i64) x.key:=by
 intro x hx
 rw[Array.mem_toList_iff,Array.mem_iff_getElem?]at hx
 obtain⟨i,hi⟩:=hx
 rw[Xag]at hi
 cases h:L[i]? with|none=>{rw[h]at hi;cases hi}|some p=>rw[h]at hi;cases hi;exact Xbg _
theorem Xah (w:World)(mb:Nat)(o:Obj):Upd (fun k=>k=mb) w {w with heap:=w.heap.setIfInBounds mb o}:=⟨rfl,rfl,rfl,by simp,fun k _ hf=>by simp[Ne.symm hf]⟩
theorem Xai {w:World}{mb:Nat}{o':Obj}(h:w.heap[mb]?=some o')(o:Obj):(({w with heap:=w.heap.setIfInBounds mb o}:World).heap)[mb]?=some o:=by
 simp[lt_of_block h]
section
variable {P : Program} {mt kt et : TypeId} {w : World} {mb : Nat} {L : List (Int × Int)} {k v : Int}
theorem XcJ (hm:P.underlying mt=some (.map kt et))(hd:P.underlying kt=some (.int .i64))(hz:(zeroValue et).run P w= .ok (.int .i64 0) w)(hb:w.heap[mb]?=some (.map (Yj L) L.length))(hno:∀p∈L,p.1≠k):(Instr.mapEntry mt (.map (some mb)) (.int .i64 k)).run P w= .ok (.tuple #[.int .i64 0,.int .i64 L.length]) {w with heap:=w.heap.setIfInBounds mb (.map (Yj (L++ [(k,0)])) (L.length+1))}:=by
 have hck:∀w:World,(Instr.checkKey false 10000 kt (.int .i64 k)).run P w= .ok () w:=fun w=>MapKept.run_checkKey hd (k:= .int .i64 k) (Xbg k) false 9999
 rcases MapKept.findNow_spec (Xbg k) (Yj L).toList 0 (Xgm L)with⟨h1,_⟩|⟨j,e,_,h2,h3⟩
 ·rw[show Xp k= .int .i64 k from rfl]at h1;simp[Instr.mapEntry,run_underlying hm,run_getObj_map _ _ _ _ hb,hck,MapKept.run_findKey hd h1,hz,MapKept.run_setObj_map _ hb,Result.andThen,goInt,XjM,Xp]
 ·exfalso;rw[Array.getElem?_toList,Xag]at h2;cases h:L[j]? with|none=>{rw[h]at h2;cases h2}|some p=>rw[h]at h2;cases h2;simp[Xp]at h3;exact hno p (List.mem_of_getElem? h) h3
theorem XcK (hb:w.heap[mb]?=some (.map (Yj (L++ [(k,0)])) (L.length+1))):(Instr.entryStore mt (.map (some mb)) (.int .i64 L.length) (.int .i64 v)).run P w= .ok () {w with heap:=w.heap.setIfInBounds mb (.map (Yj (L++ [(k,v)])) (L.length+1))}:=by
 have hf:(Yj (L++ [(k,0)])).findIdx? (fun e=>(e.born:Int)==(L.length:Int))=some L.length:=by rw[Array.findIdx?_eq_some_iff_getElem];refine⟨by simp[XjL],?_,fun j hj=>?_⟩;·{have:=Xag (L++ [(k,0)]) L.length;simp at this;obtain⟨h1,h2⟩:=Array.getElem?_eq_some_iff.1 this;rw[h2];simp};·have hjl:j<(L++ [(k,0)]).length:=by{simp;omega};have:=Xag (L++ [(k,0)]) j;rw[List.getElem?_eq_getElem hjl,Option.map_some]at this;obtain⟨h1,h2⟩:=Array.getElem?_eq_some_iff.1 this;rw[h2];simp;omega
 have hmod:(Yj (L++ [(k,0)])).modify L.length (fun e=>{e with val:= .int .i64 v})=Yj (L++ [(k,v)]):=by apply Array.ext_getElem?;intro i;rw[Array.getElem?_modify,Xag,Xag,List.getElem?_append,List.getElem?_append];by_cases hi:i<L.length;·{have:L.length≠i:=by{omega};simp[hi,this]};·by_cases hi2:i=L.length;·{subst hi2;simp[Xp]};·have h1:i-L.length≠0:=by{omega};rw[if_neg hi,if_neg hi,List.getElem?_singleton,List.getElem?_singleton];simp[h1]
 simp[Instr.entryStore,run_getObj_map _ _ _ _ hb,asInt,asIntOf,Result.andThen,hf,hmod,MapKept.run_setObj_map _ hb]
theorem Xeg :∀(L:List (Int×Int))(j:Nat)(p:Int×Int),(L.map Prod.fst).Nodup→L[j]?=some p→L.lookup p.1=some p.2
 | [],j,p,_,h=>by{simp at h}
 |q::L,j,p,hn,h=>by{simp only[List.map_cons,List.nodup_cons]at hn;cases j with|zero=>{simp at h;subst h;simp[List.lookup]}|succ j=>simp at h;have hne:p.1≠q.1:=fun e=>hn.1 (by rw[←e];exact List.mem_map.2 ⟨p,List.mem_of_getElem? h,rfl⟩);rw[List.lookup];have:(p.1==q.1)=false:=by{simpa using hne};rw[this];exact Xeg L j p hn.2 h}
theorem Xeh :∀(L:List (Int×Int))(k:Int),(∀p∈L,p.1≠k)→L.lookup k=none
 | [],k,_=>rfl
 |q::L,k,h=>by{have:(k==q.1)=false:=by{simpa using(fun e:k=q.1=>h q (by simp) e.symm)};rw[List.lookup,this];exact Xeh L k (fun p hp=>h p (by simp[hp]))}
theorem XjN (hm:P.underlying mt=some (.map kt et))(hd:P.underlying kt=some (.int .i64))(hz:(zeroValue et).run P w= .ok (.int .i64 0) w)(hb:w.heap[mb]?=some (.map (Yj L) L.length))(hn:(L.map Prod.fst).Nodup):(Instr.lookup mt (.map (some mb)) (.int .i64 k) true).run P w= .ok (.tuple #[.int .i64 ((L.lookup k).getD 0),.bool (L.lookup k).isSome]) w:=by
 have hck:∀(e:Bool)(w:World),(Instr.checkKey e 10000 kt (.int .i64 k)).run P w= .ok () w:=fun e w=>MapKept.run_checkKey hd (k:= .int .i64 k) (Xbg k) e 9999
 rcases MapKept.findNow_spec (Xbg k) (Yj L).toList 0 (Xgm L)with⟨h1,h2⟩|⟨j,e,h1,h2,h3⟩
 ·rw[show Xp k= .int .i64 k from rfl]at h1;have hl:L.lookup k=none:=Xeh L k (fun p hp=>by obtain⟨i,hi,rfl⟩:=List.getElem_of_mem hp;have:=Xag L i;rw[List.getElem?_eq_getElem hi,Option.map_some]at this;have hmem:({key:=Xp L[i].1,val:=Xp L[i].2,born:=i}:MapEntry)∈(Yj L).toList:=by{rw[Array.mem_toList_iff,Array.mem_iff_getElem?];exact⟨i,this⟩};have:=h2 _ hmem;intro e;apply this;simp[Xp,e]);simp[Instr.lookup,run_underlying hm,run_getObj_map _ _ _ _ hb,hck,MapKept.run_findKey hd h1,hz,Result.andThen,hl]
 ·rw[show Xp k= .int .i64 k from rfl]at h1;rw[Array.getElem?_toList,Xag]at h2;cases h:L[j]? with|none=>{rw[h]at h2;cases h2}|some p=>rw[h]at h2;cases h2;simp[Xp]at h3;have hl:L.lookup k=some p.2:=by{rw[←h3];exact Xeg L j p hn h};simp[Instr.lookup,run_underlying hm,run_getObj_map _ _ _ _ hb,hck,MapKept.run_findKey hd h1,Result.andThen,hl,Xp]
theorem XjO (hm:P.underlying mt=some (.map kt et))(hd:P.underlying kt=some (.int .i64))(hz:(zeroValue et).run P w= .ok (.int .i64 0) w):(Instr.lookup mt (.map none) (.int .i64 k) true).run P w= .ok (.tuple #[.int .i64 0,.bool false]) w:=by
 have hck:∀(e:Bool)(w:World),(Instr.checkKey e 10000 kt (.int .i64 k)).run P w= .ok () w:=fun e w=>MapKept.run_checkKey hd (k:= .int .i64 k) (Xbg k) e 9999
 have h1:Instr.findNow (.int .i64) (.int .i64 k) [] 0=some none:=rfl
 simp[Instr.lookup,run_underlying hm,hck,MapKept.run_findKey hd h1,hz,Result.andThen]
end
end
section
open Go.RowKit
theorem Xbh (w:World):(zeroValue 3).run Tryz.prog w= .ok (.int .i64 0) w:=by
 kernel_rfl
theorem Jb.Xgn {w':World}{ρ:Nat→Nat}{mv:Value}{I:List Int}{L:List (Int×Int)}{d i:Int}{mb:Nat}(hl:∀k:Int,L.lookup k=if 1≤k∧I[k.toNat]?.getD 0≠0 then some (I[k.toNat]?.getD 0)else none)(hn:(L.map Prod.fst).Nodup)(hd1:1≤d)(hdi:d<i)(hi:i.toNat<I.length+1)(hdn:∀p∈L,p.1≠d)(hin:∀p∈L,p.1≠i)(hmv:mv= .map (some mb))(hr:ρ mb=3)(hb:w'.heap[mb]?=some (.map (Yj (L++ [(d,i)]++ [(i,i)])) (L.length+2)))(hlen:i.toNat=I.length):Jb w' ρ mv (((I++ [0]).set d.toNat i).set i.toNat i):=by
 refine⟨L++ [(d,i)]++ [(i,i)],fun k=>?_,?_,.inr ⟨mb,hmv,hr,by rw[hb];simp⟩⟩
 ·have hlk:(L++ [(d,i)]++ [(i,i)]).lookup k=((L.lookup k).or (if k=d then some i else none)).or (if k=i then some i else none):=by{rw[List.lookup_append,List.lookup_append];congr 1;·{congr 1;simp[List.lookup];split<;>simp_all};·simp[List.lookup];split<;>simp_all};rw[hlk,hl k];have hget:(((I++ [0]).set d.toNat i).set i.toNat i)[k.toNat]?.getD 0=if k.toNat=i.toNat then i else if k.toNat=d.toNat then i else(I[k.toNat]?.getD 0):=by{rw[List.getElem?_set,List.getElem?_set];have h0:(I++ [0])[k.toNat]?.getD 0=I[k.toNat]?.getD 0:=by{rw[List.getElem?_append];split;·{rfl};·rename_i hge;rw[List.getElem?_eq_none (l:=I) (by omega)];by_cases hk:k.toNat-I.length=0;·{simp[hk]};·rw[List.getElem?_singleton];simp[hk]};by_cases h1:k.toNat=i.toNat;·{rw[if_pos h1,if_pos h1.symm];simp;rw[if_pos (by omega)];rfl};·rw[if_neg h1,if_neg (Ne.symm h1)];by_cases h2:k.toNat=d.toNat;·{rw[if_pos h2,if_pos h2.symm];simp;rw[if_pos (by omega)];rfl};·rw[if_neg h2,if_neg (Ne.symm h2)];exact h0};rw[hget];have hnoneD:I[d.toNat]?.getD 0=0:=by{by_cases h:I[d.toNat]?.getD 0=0;·{exact h};·have:=hl d;rw[if_pos ⟨hd1,h⟩]at this;rw[Xeh L d hdn]at this;cases this};have hnoneI:I[i.toNat]?.getD 0=0:=by{rw[List.getElem?_eq_none (by omega)];rfl};by_cases hki:k=i;·{subst hki;rw[if_pos rfl];have:k≠d:=by{omega};simp[hnoneI,this];omega};·by_cases hkd:k=d;·{subst hkd;have h1:k.toNat≠i.toNat:=by{omega};simp[hnoneD,h1];omega};·by_cases hk1:1≤k;·{have h1:k.toNat≠i.toNat:=by{omega};have h2:k.toNat≠d.toNat:=by{omega};simp[hki,hkd,h1,h2]};·simp[hki,hkd,hk1]
 ·rw[List.map_append,List.map_append,List.nodup_append,List.nodup_append];refine⟨⟨hn,by simp,?_⟩,by simp,?_⟩;·{intro a ha b hb';simp at hb';obtain⟨p,hp,rfl⟩:=List.mem_map.1 ha;rw[hb'];exact hdn p hp};·intro a ha b hb';simp at hb';rw[hb'];rcases List.mem_append.1 ha with ha|ha;·{obtain⟨p,hp,rfl⟩:=List.mem_map.1 ha;exact hin p hp};·simp at ha;omega
theorem Jb.Xu {A:Ar}{L:List (Int×Int)}{d:Int}(hd:1≤d)(hl:∀k:Int,L.lookup k=if 1≤k∧A.Xh[k.toNat]?.getD 0≠0 then some (A.Xh[k.toNat]?.getD 0)else none):(L.lookup d).getD 0=A.Xu d∧(L.lookup d).isSome=decide (A.Xu d≠0):=by
 rw[hl d]
 unfold Ar.Xu
 by_cases h:A.Xh[d.toNat]?.getD 0=0
 ·rw[if_neg (fun e=>e.2 h),h];simp
 ·rw[if_pos ⟨hd,h⟩];simp[h]
theorem Xgo {A:Ar}(n:Nd)(k:Nat):(A.add n).Xh[k]?.getD 0=A.Xh[k]?.getD 0:=by
 simp only[Ar.add,List.getElem?_append]
 split
 ·rfl
 ·rename_i hge;rw[List.getElem?_eq_none (l:=A.Xh) (by omega),List.getElem?_singleton];split<;>rfl
theorem XcL {L:List (Int×Int)}{d:Int}(hn:(L.map Prod.fst).Nodup)(h:L.lookup d=none):∀p∈L,p.1≠d:=by
 intro p hp e
 obtain⟨j,hj,rfl⟩:=List.getElem_of_mem hp
 have:=Xeg L j _ hn (List.getElem?_eq_getElem hj)
 rw[e,h]at this
 cases this
theorem YX.Xei {F:Nat→Prop}{w w':World}{ρ:Nat→Nat}{e eA:TypeId}{nv:Value}{ns:List Nd}(h:YX w ρ e eA nv ns)(hu:Upd F w w')(hF:∀k,ρ k=2∨4≤ρ k→¬F k):YX w' ρ e eA nv ns:=by
 obtain⟨rows,h1,h2,h3⟩:=h
 refine⟨rows,h1.upd hu (fun k hk=>hF k (.inl hk)),h2,fun i n hn=>?_⟩
 obtain⟨r,h4,h5⟩:=h3 i n hn
 exact⟨r,h4,h5.upd hu (fun k hk=>hF k (.inr (by omega)))⟩
theorem Xgp (A:Ar)(ρ:Nat→Nat)(b:Nat)(d:Int)(w:World)(hA:Xz w ρ b A)(hd:A.has d)(hsmall:A.ns.length≤1000000):Calls Tryz.prog 52 #[.pointer (some ⟨b,0,none⟩),.int .i64 d] w (Yk (A.Xq d).2 ρ b w (.int .i64 (A.Xq d).1)):=by
 have hlookup:∃mv,w.cell? ⟨b,1,none⟩=some mv∧(Instr.lookup 68 mv (.int .i64 d) true).run Tryz.prog w= .ok (.tuple #[.int .i64 (A.Xu d),.bool (decide (A.Xu d≠0))]) w:=by obtain⟨h1,h2,h3,nv,mv,h4,h5,L,m1,m2,m3⟩:=hA;refine⟨mv,by rw[cell_of_row w b _ _ _ _ h4];rfl,?_⟩;obtain⟨e1,e2⟩:=Jb.Xu hd.1 m1;rcases m3 with⟨rfl,rfl⟩|⟨mb,rfl,_,m6⟩;·{have:=XjO (k:=d) Tryz.underlying68 Tryz.underlying3 (Xbh w);rw[←e2,←e1];exact this};·have:=XjN (k:=d) Tryz.underlying68 Tryz.underlying3 (Xbh w) m6 m2;rw[←e2,←e1];exact this
 obtain⟨mv,c1,hlk⟩:=hlookup
 by_cases hz:A.Xu d=0
 ·have hz1:decide (A.Xu d≠0)=false:=by{simp[hz]};rw[hz1]at hlk;have hfin:A.Xq d=(A.n+1,{A.Xn false with Xh:=((A.Xn false).Xh.set d.toNat (A.n+1)).set (A.n+1).toNat (A.n+1)}):=by{unfold Ar.Xq;rw[if_neg (fun h=>h hz)]};rw[hfin];have HD:=Xqh (XbO A ρ b false w hA hsmall);have HZ:=Xqh hz;have HLEN:=Xqh hA.2.2.1;clear hfin hz hz1;go_enter Tryz.func52,Tryz.ntmps52;go_wp2_with fail;refine HD.out.mono ?_;rintro e w1⟨rfl,ρ1,hA1,hT1⟩;obtain⟨r1,r2,r3,nv1,mv1,r4,r5,L,m1,m2,m3⟩:=hA1;have g1:w1.cell? ⟨b,1,none⟩=some mv1:=by{rw[cell_of_row w1 b _ _ _ _ r4];rfl};have gf:w1.frozen? ⟨b,1,none⟩=false:=frozen_of_row w1 b _ _ _ r4;have hbl:=lt_of_block r4;rcases m3 with⟨hmn,hLn⟩|⟨mb,hmv,hrm,hmb⟩;·{subst hmn;have heq:=fun wx=>run_eql_map_nil (P:=Tryz.prog) wx 68 3 3 none Tryz.underlying68;have hmm:= @run_makeMap Tryz.prog;go_wp2_with fail;have hset:(w1.setCell ⟨b,1,none⟩ (.map (some w1.heap.size))).heap.size=w1.heap.size:=by{simp};obtain⟨w2,hw2⟩:∃w2:World,w2=(w1.setCell ⟨b,1,none⟩ (.map (some w1.heap.size))).alloc (.map #[] 0):=⟨_,rfl⟩;rw[←hw2];obtain⟨mb,hmbe⟩:∃mb:Nat,mb=w1.heap.size:=⟨_,rfl⟩;have hsz2:w2.heap.size=w1.heap.size+1:=by{rw[hw2];simp};have hmb:w2.heap[mb]?=some (.map (Yj L) L.length):=by{rw[hw2,hmbe,hLn];have:=heap_alloc_new (w1.setCell ⟨b,1,none⟩ (.map (some w1.heap.size))) (.map #[] 0);rw[hset]at this;exact this};have hub:Upd (fun k=>k=b) w1 w2:=by{rw[hw2];exact((Upd.refl (fun k=>k=b) w1).setCell (p:=⟨b,1,none⟩) (.inr rfl) _).alloc _};have hr0:ρ1 mb=0:=by{by_cases h:ρ1 mb=0;·{exact h};·have:=r1 _ h;omega};have q4:w2.heap[b]?=some (.cells #[nv1,.map (some mb)] 72 (0,0)):=by{rw[hw2,hmbe,Ja _ _ _ (by simpa using hbl)];exact Xf2 r4};obtain⟨ρ2,hρ2⟩:∃ρ2:Nat→Nat,ρ2=fun k=>if k=mb then 3 else ρ1 k:=⟨_,rfl⟩;have hρk:∀k,k<w1.heap.size→ρ2 k=ρ1 k:=fun k hk=>by{rw[hρ2];exact if_neg (by omega)};have hrm:ρ2 mb=3:=by{rw[hρ2];exact if_pos rfl};have q5:YX w2 ρ2 74 120 nv1 (A.Xn false).ns:=(r5.role hρk).Xei hub (fun k hk e=>by rw[e,hρk b hbl]at hk;omega);have q1:∀k,ρ2 k≠0→k<w2.heap.size:=fun k hk=>by{by_cases e:k=mb;·{omega};·rw[hρ2]at hk;dsimp only at hk;rw[if_neg e]at hk;have:=r1 k hk;omega};have q2:ρ2 b=1:=(hρk b hbl).trans r2;have hT2:Xr ρ ρ2 w w2:=hT1.trans ⟨hub.mono (fun k _ hk=>by rw[hk];omega),hρk⟩;have g1':w2.cell? ⟨b,1,none⟩=some (.map (some mb)):=by{rw[cell_of_row w2 b _ _ _ _ q4];rfl};have hbl':b<w2.heap.size:=by{omega};rw[←hmbe];clear hLn heq hmm r1 r2 r4 r5 g1 gf hbl hT1 hub hρ2 hρk hr0 hset hw2 hsz2 hmbe;have r1:=q1;have r2:=q2;have r4:=q4;have r5:=q5;have g1:=g1';have hbl:=hbl';clear q1 q2 q4 q5 g1' hbl';have hbm:mb≠b:=fun e=>by{rw[e]at hrm;omega};have hin0:A.Xh[d.toNat]?.getD 0=0:=HZ.out;have hdlt:d.toNat<A.Xh.length:=by{have q:=hd.2;have q2:=HLEN.out;unfold Ar.n at q;omega};have hnlen:(A.n+1).toNat=A.Xh.length:=by{have:=HLEN.out;unfold Ar.n;omega};have hI1:∀k:Int,L.lookup k=if 1≤k∧A.Xh[k.toNat]?.getD 0≠0 then some (A.Xh[k.toNat]?.getD 0)else none:=by{intro k;rw[m1 k];have:(A.Xn false).Xh[k.toNat]?.getD 0=A.Xh[k.toNat]?.getD 0:=Xgo _ _;rw[this]};have hno1:∀p∈L,p.1≠d:=XcL m2 (by rw[hI1 d,if_neg (fun h=>h.2 hin0)]);have hno0:∀p∈L,p.1≠A.n+1:=XcL m2 (by rw[hI1 (A.n+1),if_neg (fun h=>h.2 (by rw[hnlen,List.getElem?_eq_none (Nat.le_refl _)];rfl))]);have hno2:∀p∈L++ [(d,A.n+1)],p.1≠A.n+1:=by{intro p hp;rcases List.mem_append.1 hp with hp|hp;·{exact hno0 p hp};·simp at hp;subst hp;have:=hd.2;dsimp only;omega};have e1:=XcJ (P:=Tryz.prog) (k:=d) (w:=w2.drew) Tryz.underlying68 Tryz.underlying3 (Xbh _) hmb hno1;obtain⟨X1,hX1⟩:∃X1:World,X1={w2.drew with heap:=w2.drew.heap.setIfInBounds mb (.map (Yj (L++ [(d,0)])) (L.length+1))}:=⟨_,rfl⟩;rw[←hX1]at e1;have hm1:X1.heap[mb]?=some (.map (Yj (L++ [(d,0)])) (L.length+1)):=by{rw[hX1];exact Xai (w:=w2.drew) hmb _};have u1:Upd (fun k=>k=mb) w2 X1:=by{rw[hX1];exact(Upd.refl _ w2).drew.trans (Xah _ _ _)};have e2:=XcK (P:=Tryz.prog) (mt:=68) (v:=A.n+1) hm1;obtain⟨X2,hX2⟩:∃X2:World,X2={X1 with heap:=X1.heap.setIfInBounds mb (.map (Yj (L++ [(d,A.n+1)])) (L.length+1))}:=⟨_,rfl⟩;rw[←hX2]at e2;have hm2:X2.heap[mb]?=some (.map (Yj (L++ [(d,A.n+1)])) (L++ [(d,A.n+1)]).length):=by{rw[hX2];simpa using Xai hm1 _};have u2:Upd (fun k=>k=mb) X1 X2:=by{rw[hX2];exact Xah _ _ _};have e3:=XcJ (P:=Tryz.prog) (k:=A.n+1) Tryz.underlying68 Tryz.underlying3 (Xbh _) hm2 hno2;obtain⟨X3,hX3⟩:∃X3:World,X3={X2 with heap:=X2.heap.setIfInBounds mb (.map (Yj (L++ [(d,A.n+1)]++ [(A.n+1,0)])) ((L++ [(d,A.n+1)]).length+1))}:=⟨_,rfl⟩;rw[←hX3]at e3;have hm3:X3.heap[mb]?=some (.map (Yj (L++ [(d,A.n+1)]++ [(A.n+1,0)])) ((L++ [(d,A.n+1)]).length+1)):=by{rw[hX3];exact Xai hm2 _};have u3:Upd (fun k=>k=mb) X2 X3:=by{rw[hX3];exact Xah _ _ _};have e4:=XcK (P:=Tryz.prog) (mt:=68) (v:=A.n+1) hm3;obtain⟨X4,hX4⟩:∃X4:World,X4={X3 with heap:=X3.heap.setIfInBounds mb (.map (Yj (L++ [(d,A.n+1)]++ [(A.n+1,A.n+1)])) ((L++ [(d,A.n+1)]).length+1))}:=⟨_,rfl⟩;rw[←hX4]at e4;have hm4:X4.heap[mb]?=some (.map (Yj (L++ [(d,A.n+1)]++ [(A.n+1,A.n+1)])) (L.length+2)):=by{rw[hX4];simpa using Xai hm3 (.map (Yj (L++ [(d,A.n+1)]++ [(A.n+1,A.n+1)])) ((L++ [(d,A.n+1)]).length+1))};have u4:Upd (fun k=>k=mb) X3 X4:=by{rw[hX4];exact Xah _ _ _};have k1:X1.cell? ⟨b,1,none⟩=some (.map (some mb)):=u1.cell g1 (Ne.symm hbm);have k2:X2.cell? ⟨b,1,none⟩=some (.map (some mb)):=u2.cell k1 (Ne.symm hbm);clear hX1 hX2 hX3 hX4 hm1 hm2 hm3;simp only[List.length_append,List.length_cons,List.length_nil,Nat.zero_add,Int.natCast_add,Int.cast_ofNat_Int]at e3 e4;have uu:=((u1.trans u2).trans u3).trans u4;have hfin:Xz X4 ρ2 b {A.Xn false with Xh:=((A.Xn false).Xh.set d.toNat (A.n+1)).set (A.n+1).toNat (A.n+1)}:=by{refine⟨fun k hk=>Nat.lt_of_lt_of_le (r1 k hk) uu.size,r2,by simpa[Ar.Xn,Ar.add]using r3,nv1,.map (some mb),(uu.block b hbl (Ne.symm hbm)).trans r4,r5.Xei uu (fun k hk e=>by rw[e,hrm]at hk;omega),?_⟩;exact Jb.Xgn (w':=X4) hI1 m2 hd.1 (by have:=hd.2;omega) (by omega) hno1 hno0 rfl hrm hm4 hnlen};have hturn:Xr ρ ρ2 w X4:=(hT2).trans ⟨uu.mono (fun k _ hk=>by rw[hk,hrm];omega),fun _ _=>rfl⟩;have HFIN:=Xqh (And.intro hfin hturn);clear hfin hturn uu u1 u2 u3 u4 hm4 hI1 hno0 hno1 hno2 hnlen hdlt hin0;go_region;go_wp2;go_ret;exact⟨rfl,ρ2,HFIN.out.1,HFIN.out.2⟩};·subst hmv;have heq:=fun wx=>run_eql_map_nil (P:=Tryz.prog) wx 68 3 3 (some mb) Tryz.underlying68;go_wp2_with fail;have hbm:mb≠b:=fun e=>by{rw[e]at hrm;omega};have hin0:A.Xh[d.toNat]?.getD 0=0:=HZ.out;have hdlt:d.toNat<A.Xh.length:=by{have q:=hd.2;have q2:=HLEN.out;unfold Ar.n at q;omega};have hnlen:(A.n+1).toNat=A.Xh.length:=by{have:=HLEN.out;unfold Ar.n;omega};have hI1:∀k:Int,L.lookup k=if 1≤k∧A.Xh[k.toNat]?.getD 0≠0 then some (A.Xh[k.toNat]?.getD 0)else none:=by{intro k;rw[m1 k];have:(A.Xn false).Xh[k.toNat]?.getD 0=A.Xh[k.toNat]?.getD 0:=Xgo _ _;rw[this]};have hno1:∀p∈L,p.1≠d:=XcL m2 (by rw[hI1 d,if_neg (fun h=>h.2 hin0)]);have hno0:∀p∈L,p.1≠A.n+1:=XcL m2 (by rw[hI1 (A.n+1),if_neg (fun h=>h.2 (by rw[hnlen,List.getElem?_eq_none (Nat.le_refl _)];rfl))]);have hno2:∀p∈L++ [(d,A.n+1)],p.1≠A.n+1:=by{intro p hp;rcases List.mem_append.1 hp with hp|hp;·{exact hno0 p hp};·simp at hp;subst hp;have:=hd.2;dsimp only;omega};have e1:=XcJ (P:=Tryz.prog) (k:=d) (w:=w1.drew) Tryz.underlying68 Tryz.underlying3 (Xbh _) hmb hno1;obtain⟨X1,hX1⟩:∃X1:World,X1={w1.drew with heap:=w1.drew.heap.setIfInBounds mb (.map (Yj (L++ [(d,0)])) (L.length+1))}:=⟨_,rfl⟩;rw[←hX1]at e1;have hm1:X1.heap[mb]?=some (.map (Yj (L++ [(d,0)])) (L.length+1)):=by{rw[hX1];exact Xai (w:=w1.drew) hmb _};have u1:Upd (fun k=>k=mb) w1 X1:=by{rw[hX1];exact(Upd.refl _ w1).drew.trans (Xah _ _ _)};have e2:=XcK (P:=Tryz.prog) (mt:=68) (v:=A.n+1) hm1;obtain⟨X2,hX2⟩:∃X2:World,X2={X1 with heap:=X1.heap.setIfInBounds mb (.map (Yj (L++ [(d,A.n+1)])) (L.length+1))}:=⟨_,rfl⟩;rw[←hX2]at e2;have hm2:X2.heap[mb]?=some (.map (Yj (L++ [(d,A.n+1)])) (L++ [(d,A.n+1)]).length):=by{rw[hX2];simpa using Xai hm1 _};have u2:Upd (fun k=>k=mb) X1 X2:=by{rw[hX2];exact Xah _ _ _};have e3:=XcJ (P:=Tryz.prog) (k:=A.n+1) Tryz.underlying68 Tryz.underlying3 (Xbh _) hm2 hno2;obtain⟨X3,hX3⟩:∃X3:World,X3={X2 with heap:=X2.heap.setIfInBounds mb (.map (Yj (L++ [(d,A.n+1)]++ [(A.n+1,0)])) ((L++ [(d,A.n+1)]).length+1))}:=⟨_,rfl⟩;rw[←hX3]at e3;have hm3:X3.heap[mb]?=some (.map (Yj (L++ [(d,A.n+1)]++ [(A.n+1,0)])) ((L++ [(d,A.n+1)]).length+1)):=by{rw[hX3];exact Xai hm2 _};have u3:Upd (fun k=>k=mb) X2 X3:=by{rw[hX3];exact Xah _ _ _};have e4:=XcK (P:=Tryz.prog) (mt:=68) (v:=A.n+1) hm3;obtain⟨X4,hX4⟩:∃X4:World,X4={X3 with heap:=X3.heap.setIfInBounds mb (.map (Yj (L++ [(d,A.n+1)]++ [(A.n+1,A.n+1)])) ((L++ [(d,A.n+1)]).length+1))}:=⟨_,rfl⟩;rw[←hX4]at e4;have hm4:X4.heap[mb]?=some (.map (Yj (L++ [(d,A.n+1)]++ [(A.n+1,A.n+1)])) (L.length+2)):=by{rw[hX4];simpa using Xai hm3 (.map (Yj (L++ [(d,A.n+1)]++ [(A.n+1,A.n+1)])) ((L++ [(d,A.n+1)]).length+1))};have u4:Upd (fun k=>k=mb) X3 X4:=by{rw[hX4];exact Xah _ _ _};have k1:X1.cell? ⟨b,1,none⟩=some (.map (some mb)):=u1.cell g1 (Ne.symm hbm);have k2:X2.cell? ⟨b,1,none⟩=some (.map (some mb)):=u2.cell k1 (Ne.symm hbm);clear hX1 hX2 hX3 hX4 hm1 hm2 hm3;simp only[List.length_append,List.length_cons,List.length_nil,Nat.zero_add,Int.natCast_add,Int.cast_ofNat_Int]at e3 e4;have uu:=((u1.trans u2).trans u3).trans u4;have hfin:Xz X4 ρ1 b {A.Xn false with Xh:=((A.Xn false).Xh.set d.toNat (A.n+1)).set (A.n+1).toNat (A.n+1)}:=by{refine⟨fun k hk=>Nat.lt_of_lt_of_le (r1 k hk) uu.size,r2,by simpa[Ar.Xn,Ar.add]using r3,nv1,.map (some mb),(uu.block b hbl (Ne.symm hbm)).trans r4,r5.Xei uu (fun k hk e=>by rw[e,hrm]at hk;omega),?_⟩;exact Jb.Xgn (w':=X4) hI1 m2 hd.1 (by have:=hd.2;omega) (by omega) hno1 hno0 rfl hrm hm4 hnlen};have hturn:Xr ρ ρ1 w X4:=(hT1).trans ⟨uu.mono (fun k _ hk=>by rw[hk,hrm];omega),fun _ _=>rfl⟩;have HFIN:=Xqh (And.intro hfin hturn);clear hfin hturn uu u1 u2 u3 u4 hm4 hI1 hno0 hno1 hno2 hnlen hdlt hin0;go_region;go_wp2;go_ret;exact⟨rfl,ρ1,HFIN.out.1,HFIN.out.2⟩
 ·have hz1:decide (A.Xu d≠0)=true:=by{simp[hz]};rw[hz1]at hlk;have hfin:A.Xq d=(A.Xu d,A):=by{unfold Ar.Xq;rw[if_pos hz]};rw[hfin];clear hfin hz hz1;go_enter Tryz.func52,Tryz.ntmps52;go_wp2;go_ret;exact⟨rfl,ρ,hA,Xr.refl _ _⟩
end
section
open Go.RowKit
theorem ZZ.addr {w:World}{v:Value}{n size:Nat}{xs:List Value}(h:ZZ w v n size xs):(∃c,v= .slice none n c∧n=0)∨∃(ad:Addr)(c:Nat),v= .slice (some ad) n c∧∀(W:World),Below w.heap.size w W→∀j u,xs[j]?=some u→W.cell? (ad.add j)=some u:=by
 obtain⟨h1,a,c,h2,h3,h4,h5⟩:=h
 cases a with|none=>{refine .inl ⟨c,h2,?_⟩;by_cases h:n=0;·{exact h};·obtain⟨b,o,h6,_⟩:=h5 (by omega);cases h6}|some ad=>refine .inr ⟨ad,c,h2,fun W hW j u hu=>?_⟩;have hn:0<n:=by{have:=(List.getElem?_eq_some_iff.1 hu).1;cases n with|zero=>{rw[h1]at this;simp at this}|succ n=>omega};obtain⟨b,o,h6,h7⟩:=h5 hn;cases h6;rw[Addr.add_mid];exact Below.old hW (h7 j u hu)
theorem Xgq (l:List Xm):∀u∈l.flatMap Xv,u.oneCell'=true:=by
 intro u hu
 simp only[List.mem_flatMap,Xv]at hu
 obtain⟨x,_,hu⟩:=hu
 simp at hu
 rcases hu with rfl|rfl|rfl<;>rfl
theorem Xgr (v:Value)(l:List Int)(w:World)(hv:Xy w v l)(hsmall:l.length≤1000000):Calls Tryz.prog 57 #[v] w fun e w'=>Below w.heap.size w w'∧∃v',e= .returned v'∧w'.ownsRow w.heap.size 3 1 v' l.length (l.map Xp):=by
 obtain⟨i0,hi,hz0,hz1,hz2⟩:=info_parts Xaf
 have hlen:=hv.1
 rcases ZZ.addr hv with⟨c,rfl,hn⟩|⟨ad,c,rfl,hcell⟩
 ·have hl:l= []:=List.length_eq_zero_iff.1 hn;subst hl;have hnil:=fun W=>Lib.run_eql_slice_nil (P:=Tryz.prog) W 37 3 none 0 c 0 0 Tryz.underlying37;go_enter Tryz.func57,Tryz.ntmps57;go_wp2;go_ret;exact⟨Below.refl _ _,_,rfl,World.ownsRow_nil _ _ _ _⟩
 ·have hnil:=fun W=>Lib.run_eql_slice_nil (P:=Tryz.prog) W 37 3 (some ad) l.length c 0 0 Tryz.underlying37;have hnews:=hcell (w.alloc (.cells #[] 3)) (Xw _ _);have hown:(w.alloc (.cells #[] 3)).ownsRow w.heap.size 3 1 (.slice (some ⟨w.heap.size,0,none⟩) 0 0) 0 []:=World.ownsRow_made w #[] 0 (Nat.le_refl _) (by unfold maxLen;omega) (by simp);have HI:=Xqh hi;have HN:=Xqh hnews;have HL:=Xqh hlen;clear hcell hi hnews hlen;go_enter Tryz.func57,Tryz.ntmps57;go_wp2_with(at_builtin;refine wpList_append_own _ rfl _ _ 37 rfl w.heap.size 3 i0 _ 1 8 Tryz.underlying37 HI.out hz0 hz1 hz2 rfl (by decide) _ _ _ rfl hown ad l.length c (l.map Xp) rfl HL.out HN.out (XbQ l) (by unfold maxLen;omega) (by omega) (by simp) ?_);intro v' w' hown' hgrow _;have hB:Below w.heap.size w w':=(Xw w (.cells #[] 3)).grown hgrow (by simp) (fun k hk=>by simp[Value.ownBlock]at hk;omega);(try rw[Nat.zero_add]at hown');(try rw[List.nil_append]at hown');have HO:=Xqh hown';clear hown hown' hgrow;go_wp2;go_ret;exact⟨hB,_,rfl,HO.out⟩
theorem XjP (v:Value)(l:List Xm)(w:World)(hv:XE w v l)(hsmall:l.length≤1000000):Calls Tryz.prog 79 #[v] w fun e w'=>Below w.heap.size w w'∧∃v',e= .returned v'∧w'.ownsRow w.heap.size 120 3 v' l.length (l.flatMap Xv):=by
 obtain⟨i0,hi,hz0,hz1,hz2⟩:=info_parts Xae
 have hlen:=hv.1
 rcases ZZ.addr hv with⟨c,rfl,hn⟩|⟨ad,c,rfl,hcell⟩
 ·have hl:l= []:=List.length_eq_zero_iff.1 hn;subst hl;have hnil:=fun W=>Lib.run_eql_slice_nil (P:=Tryz.prog) W 39 120 none 0 c 0 0 Tryz.underlying39;go_enter Tryz.func79,Tryz.ntmps79;go_wp2;go_ret;exact⟨Below.refl _ _,_,rfl,World.ownsRow_nil _ _ _ _⟩
 ·have hnil:=fun W=>Lib.run_eql_slice_nil (P:=Tryz.prog) W 39 120 (some ad) l.length c 0 0 Tryz.underlying39;have hnews:=hcell (w.alloc (.cells #[] 120)) (Xw _ _);have hown:(w.alloc (.cells #[] 120)).ownsRow w.heap.size 120 3 (.slice (some ⟨w.heap.size,0,none⟩) 0 0) 0 []:=World.ownsRow_made w #[] 0 (Nat.le_refl _) (by unfold maxLen;omega) (by simp);have HI:=Xqh hi;have HN:=Xqh hnews;have HL:=Xqh hlen;clear hcell hi hnews hlen;go_enter Tryz.func79,Tryz.ntmps79;go_wp2_with(at_builtin;refine wpList_append_own _ rfl _ _ 39 rfl w.heap.size 120 i0 _ 3 40 Tryz.underlying39 HI.out hz0 hz1 hz2 rfl (by decide) _ _ _ rfl hown ad l.length c (l.flatMap Xv) rfl HL.out HN.out (Xgq l) (by unfold maxLen;omega) (by omega) (by simp) ?_);intro v' w' hown' hgrow _;have hB:Below w.heap.size w w':=(Xw w (.cells #[] 120)).grown hgrow (by simp) (fun k hk=>by simp[Value.ownBlock]at hk;omega);(try rw[Nat.zero_add]at hown');(try rw[List.nil_append]at hown');have HO:=Xqh hown';clear hown hown' hgrow;go_wp2;go_ret;exact⟨hB,_,rfl,HO.out⟩
end
section
open Go.RowKit
theorem Xgs (A:Ar)(ρ:Nat→Nat)(b:Nat)(h:Int)(w:World)(hA:Xz w ρ b A):Calls Tryz.prog 12 #[.pointer (some ⟨b,0,none⟩),.int .i64 h] w fun e w'=>e= .returned (.int .i64 (if A.has h then(A.get h).Xd else 0))∧w=w':=by
 obtain⟨a,c,mv,h0,-,-,-,hm,hN⟩:=hA.head
 by_cases hh:A.has h
 ·have hp:=hh.1;have hq:=hh.2;unfold Ar.n at hq;obtain⟨nb,rfl,hr,hnb,hfn,hNx⟩:=hN (by omega);obtain⟨kv,av,F,-,-⟩:=hNx h hh;have c1:=F.c1;rw[if_pos hh];have hd:decide (A.has h)=true:=by{simp[hh]};clear F hNx hN hfn hh;go_enter Tryz.func12,Tryz.ntmps12;go_wp2_with fail;refine(ZH A b _ c h _ h0).mono ?_;rintro e w'⟨rfl,rfl⟩;rw[hd];go_wp2_with fail;refine(XY b nb _ c h _ h0 hp hq hm).mono ?_;rintro e w'⟨rfl,rfl⟩;go_wp2;go_ret;exact⟨rfl,rfl⟩
 ·rw[if_neg hh];have hd:decide (A.has h)=false:=by{simp[hh]};clear hN hh;go_enter Tryz.func12,Tryz.ntmps12;go_wp2_with fail;refine(ZH A b _ c h _ h0).mono ?_;rintro e w'⟨rfl,rfl⟩;rw[hd];go_wp2;go_ret;exact⟨rfl,rfl⟩
theorem Xgt (A:Ar)(ρ:Nat→Nat)(b:Nat)(h:Int)(w:World)(hA:Xz w ρ b A)(hsm:A.has h→(A.get h).Xc.length≤1000000):Calls Tryz.prog 27 #[.pointer (some ⟨b,0,none⟩),.int .i64 h] w fun e w'=>Below w.heap.size w w'∧∃v,e= .returned v∧w'.ownsRow w.heap.size 3 1 v (if A.has h then(A.get h).Xc else []).length ((if A.has h then(A.get h).Xc else []).map Xp):=by
 obtain⟨a,c,mv,h0,-,-,-,hm,hN⟩:=hA.head
 by_cases hh:A.has h
 ·have hp:=hh.1;have hq:=hh.2;unfold Ar.n at hq;obtain⟨nb,rfl,hr,hnb,hfn,hNx⟩:=hN (by omega);obtain⟨kv,av,F,hK,-⟩:=hNx h hh;have c2:=F.c2;have HC:=Xqh (Xgr kv _ w hK.reads (hsm hh));rw[if_pos hh];have hd:decide (A.has h)=true:=by{simp[hh]};clear F hNx hN hfn hh hsm;go_enter Tryz.func27,Tryz.ntmps27;go_wp2_with fail;refine(ZH A b _ c h _ h0).mono ?_;rintro e w'⟨rfl,rfl⟩;rw[hd];go_wp2_with fail;refine(XY b nb _ c h _ h0 hp hq hm).mono ?_;rintro e w'⟨rfl,rfl⟩;go_wp2_with fail;refine HC.out.mono ?_;rintro e w'⟨hB,v,rfl,ho⟩;have HO:=Xqh ho;clear ho;go_wp2;go_ret;exact⟨hB,v,rfl,HO.out⟩
 ·rw[if_neg hh];have hd:decide (A.has h)=false:=by{simp[hh]};clear hN hh;go_enter Tryz.func27,Tryz.ntmps27;go_wp2_with fail;refine(ZH A b _ c h _ h0).mono ?_;rintro e w'⟨rfl,rfl⟩;rw[hd];go_wp2;go_ret;exact⟨Below.refl _ _,_,rfl,World.ownsRow_nil _ _ _ _⟩
/-- The index of a node among the children of its Xd, or -1. -/
def Ar.index (A : Ar) (h : Int) : Int := if A.has h ∧ (A.get h).Xd ≠ 0 then Yt (fun y => decide (y = h)) (A.get (A.get h).Xd).Xc else -1
theorem XjQ (A:Ar)(ρ:Nat→Nat)(b:Nat)(h:Int)(w:World)(hA:Xz w ρ b A)(hp:A.has h→(A.get h).Xd≠0→A.has (A.get h).Xd):Calls Tryz.prog 91 #[.pointer (some ⟨b,0,none⟩),.int .i64 h] w fun e w'=>e= .returned (.int .i64 (A.index h))∧w=w':=by
 have HP:=Xqh (Xgs A ρ b h w hA)
 by_cases hi:A.has h∧(A.get h).Xd≠0
 ·have hpar:=hp hi.1 hi.2;obtain⟨a,c,mv,h0,-,-,-,hm,hN⟩:=hA.head;have hp1:=hpar.1;have hq:=hpar.2;unfold Ar.n at hq;obtain⟨nb,rfl,hr,hnb,hfn,hNx⟩:=hN (by omega);obtain⟨kv,av,F,hK,-⟩:=hNx _ hpar;have c2:=F.c2;have HI:=Xqh (Xeb kv _ h w hK.reads);have hfin:A.index h=Yt (fun y=>decide (y=h)) (A.get (A.get h).Xd).Xc:=if_pos hi;rw[hfin];have hz:((A.get h).Xd==0)=false:=by{simp[hi.2]};have HH:=Xqh hi.1;clear F hNx hN hfn hi hfin hp hpar;go_enter Tryz.func91,Tryz.ntmps91;go_wp2_with fail;refine HP.out.mono ?_;rintro e w'⟨rfl,rfl⟩;rw[if_pos HH.out];go_wp2_with fail;refine(XY b nb _ c _ _ h0 hp1 hq hm).mono ?_;rintro e w'⟨rfl,rfl⟩;go_wp2_with fail;refine HI.out.mono ?_;rintro e w'⟨rfl,rfl⟩;go_wp2;go_ret;exact⟨rfl,rfl⟩
 ·have hz:(if A.has h then(A.get h).Xd else 0)=0:=by{by_cases hh:A.has h;·{rw[if_pos hh];exact Classical.not_not.1 (fun e=>hi ⟨hh,e⟩)};·rw[if_neg hh]};have hfin:A.index h= -1:=if_neg hi;rw[hfin];have HZ:=Xqh hz;clear hi hfin hz hp;go_enter Tryz.func91,Tryz.ntmps91;go_wp2_with fail;refine HP.out.mono ?_;rintro e w'⟨rfl,rfl⟩;rw[HZ.out];go_wp2;go_ret;exact⟨rfl,rfl⟩
theorem XjR (A:Ar)(ρ:Nat→Nat)(b:Nat)(u h:Int)(w:World)(hA:Xz w ρ b A)(hno:¬(A.has u∧A.has h)):Calls Tryz.prog 93 #[.pointer (some ⟨b,0,none⟩),.int .i64 u,.int .i64 h] w fun e w'=>e= .returned (.bool false)∧Below w.heap.size w w':=by
 obtain⟨a,c,mv,h0,-,-,hlt,hm,-⟩:=hA.head
 have h0':=JJ (.cells #[.bool false] 4) (JJ (.cells #[.int .i64 u] 3) h0)
 have hB:Below w.heap.size w ((w.alloc (.cells #[.int .i64 u] 3)).alloc (.cells #[.bool false] 4)):=((Below.refl _ w).alloc (Nat.le_refl _) _).alloc (by simp) _
 by_cases hu:A.has u
 ·have hu1:decide (A.has u)=true:=by{simp[hu]};have hh1:decide (A.has h)=false:=by{simp;exact fun e=>hno ⟨hu,e⟩};clear hno hu;go_enter Tryz.func93,Tryz.ntmps93;go_wp2_with fail;refine(ZH A b a c u _ h0').mono ?_;rintro e w2⟨rfl,rfl⟩;rw[hu1];go_wp2_with fail;refine(ZH A b a c h _ h0').mono ?_;rintro e w2⟨rfl,rfl⟩;rw[hh1];go_wp2;refine bodyPost_ret (v:= .bool false) ?_ rfl ⟨rfl,hB⟩;simp[results,Tryz.f93,go_sem]
 ·have hu1:decide (A.has u)=false:=by{simp[hu]};clear hno hu;go_enter Tryz.func93,Tryz.ntmps93;go_wp2_with fail;refine(ZH A b a c u _ h0').mono ?_;rintro e w2⟨rfl,rfl⟩;rw[hu1];go_wp2;refine bodyPost_ret (v:= .bool false) ?_ rfl ⟨rfl,hB⟩;simp[results,Tryz.f93,go_sem]
end
section
open Go.RowKit
theorem XM (n:Nd)(kv av:Value):(Tryz.prog.info? 41).map (·.size)=some (n.cells kv av).toArray.size:=by
 have:(Tryz.prog.info? 41).map (·.size)=some 13:=by kernel_rfl
 rw[this]
 rfl
/-- A description in new memory. -/
def Xej (n : Nd) (w : World) (e : Ending) (w' : World) : Prop :=
  Below w.heap.size w w' ∧ ∃ kv av, e = .returned (.agg (n.cells kv av).toArray) ∧ w'.ownsRow w.heap.size 3 1 kv n.Xc.length (n.Xc.map Xp) ∧ w'.ownsRow w.heap.size 120 3 av n.Xb.length (n.Xb.flatMap Xv)
theorem Xgu (nb o:Nat)(n:Nd)(kv av:Value)(w:World)(F:YB w nb o n kv av)(hk:Xy w kv n.Xc)(ha:XE w av n.Xb)(hs1:n.Xc.length≤1000000)(hs2:n.Xb.length≤1000000):Calls Tryz.prog 36 #[.pointer (some ⟨nb,o,none⟩)] w (Xej n w):=by
 have c0:=F.c0
 have c1:=F.c1
 have c2:=F.c2
 have c3:=F.c3
 have c4:=F.c4
 have c5:=F.c5
 have c6:=F.c6
 have c7:=F.c7
 have c8:=F.c8
 have c9:=F.c9
 have c10:=F.c10
 have c11:=F.c11
 have c12:=F.c12
 have hnb:=World.block_lt_of_cell? w _ c0
 dsimp only at hnb
 obtain⟨ka,kc,rfl,hkl1,hkl2,-⟩:=hk.form
 obtain⟨aa,ac,rfl,hal1,hal2,-⟩:=ha.form
 have HK:=Xqh hk
 have HA:=Xqh ha
 clear F hk ha
 go_enter Tryz.func36,Tryz.ntmps36
 go_wp2_with fail
 obtain⟨W0,hW0⟩:∃W0:World,W0=(w.alloc (.cells #[.int .i64 0,.int .i64 0,.slice none 0 0,.int .i64 0,.int .i64 0,.string ⟨#[]⟩,.slice none 0 0,.string ⟨#[]⟩,.string ⟨#[]⟩,.string ⟨#[]⟩,.bool false,.int .i64 0,.int .i64 0] 41)).alloc (.cells (n.cells (.slice ka n.Xc.length kc) (.slice aa n.Xb.length ac)).toArray 41):=⟨_,rfl⟩
 have hB0:Below w.heap.size w W0:=by rw[hW0];exact((Below.refl _ w).alloc (Nat.le_refl _) _).alloc (by simp) _
 have hs0:W0.heap.size=w.heap.size+2:=by rw[hW0];simp
 have hd0:W0.heap[w.heap.size+1]?=some (.cells (n.cells (.slice ka n.Xc.length kc) (.slice aa n.Xb.length ac)).toArray 41 (0,0)):=by rw[hW0];exact heap_alloc2_new w _ _
 have hr0:W0.heap[w.heap.size]?=some (.cells #[.int .i64 0,.int .i64 0,.slice none 0 0,.int .i64 0,.int .i64 0,.string ⟨#[]⟩,.slice none 0 0,.string ⟨#[]⟩,.string ⟨#[]⟩,.string ⟨#[]⟩,.bool false,.int .i64 0,.int .i64 0] 41 (0,0)):=by rw[hW0];exact heap_alloc2_old w _ _
 have q2:=Below.old hB0 c2
 have q6:=Below.old hB0 c6
 have hne:nb≠w.heap.size+1:=by omega
 clear c0 c1 c3 c4 c5 c7 c8 c9 c10 c11 c12 c2 c6
 unfold Nd.cells at hW0
 rw[←hW0]
 clear hW0
 go_region_held3(fun w'=>w'.cell? ⟨nb,o+2,none⟩=some (.slice ka n.Xc.length kc)∧w'.cell? ⟨nb,o+6,none⟩=some (.slice aa n.Xb.length ac))(first|(exact⟨q2,q6⟩)|(exact⟨r2,r6⟩)|(exact⟨t2,t6⟩)|(exact⟨s2,s6⟩)|(exact⟨x2,x6⟩))(first|(go_at_call 57;refine(Xgr _ n.Xc _ (HK.out.below (Below.drew hB0)) hs1).mono ?_;rintro e W1⟨hB1,v1,rfl,ho1⟩;have hBa:Below w.heap.size w W1:=hB0.trans ((Below.drew (Below.refl w.heap.size W0)).trans (hB1.mono (by simp;omega)));obtain⟨a1,k1,rfl⟩:=X6 ho1;have d1:=(hB1.block (w.heap.size+1) (by simp;omega)).trans hd0;have d1r:=(hB1.block w.heap.size (by simp;omega)).trans hr0;have r2:W1.cell? ⟨nb,o+2,none⟩=some (.slice ka n.Xc.length kc):=Below.old hB1 q2;have r6:W1.cell? ⟨nb,o+6,none⟩=some (.slice aa n.Xb.length ac):=Below.old hB1 q6)|(go_at_call 79;refine(XjP _ n.Xb _ (HA.out.below hBa) hs2).mono ?_;rintro e W2⟨hB2,v2,rfl,ho2⟩;obtain⟨a2,k2,rfl⟩:=X6 ho2;have d2:=(hB2.block (w.heap.size+1) (lt_of_block d1)).trans d1;have d2r:=(hB2.block w.heap.size (lt_of_block d1r)).trans d1r;have e2:W2.cell? ⟨w.heap.size+1,2,none⟩=some (.slice ka n.Xc.length kc):=by{rw[cell_of_row W2 _ _ _ _ _ d2];rfl};have e6:W2.cell? ⟨w.heap.size+1,6,none⟩=some (.slice aa n.Xb.length ac):=by{rw[cell_of_row W2 _ _ _ _ _ d2];rfl};have ef2:W2.frozen? ⟨w.heap.size+1,2,none⟩=false:=frozen_of_row W2 _ _ _ _ d2;have ef6:W2.frozen? ⟨w.heap.size+1,6,none⟩=false:=frozen_of_row W2 _ _ _ _ d2;have t2:W2.cell? ⟨nb,o+2,none⟩=some (.slice ka n.Xc.length kc):=Below.old hB2 r2;have t6:W2.cell? ⟨nb,o+6,none⟩=some (.slice aa n.Xb.length ac):=Below.old hB2 r6;have s2:(W2.setCell ⟨w.heap.size+1,2,none⟩ (.slice a1 n.Xc.length k1)).cell? ⟨nb,o+2,none⟩=some (.slice ka n.Xc.length kc):=(World.cell?_setCell_other _ _ _ _ (fun e=>hne (congrArg Addr.block e).symm)).trans t2;have s6:(W2.setCell ⟨w.heap.size+1,2,none⟩ (.slice a1 n.Xc.length k1)).cell? ⟨nb,o+6,none⟩=some (.slice aa n.Xb.length ac):=(World.cell?_setCell_other _ _ _ _ (fun e=>hne (congrArg Addr.block e).symm)).trans t6;have x2:((W2.setCell ⟨w.heap.size+1,2,none⟩ (.slice a1 n.Xc.length k1)).setCell ⟨w.heap.size+1,6,none⟩ (.slice a2 n.Xb.length k2)).cell? ⟨nb,o+2,none⟩=some (.slice ka n.Xc.length kc):=(World.cell?_setCell_other _ _ _ _ (fun e=>hne (congrArg Addr.block e).symm)).trans s2;have x6:((W2.setCell ⟨w.heap.size+1,2,none⟩ (.slice a1 n.Xc.length k1)).setCell ⟨w.heap.size+1,6,none⟩ (.slice a2 n.Xb.length k2)).cell? ⟨nb,o+6,none⟩=some (.slice aa n.Xb.length ac):=(World.cell?_setCell_other _ _ _ _ (fun e=>hne (congrArg Addr.block e).symm)).trans s6))
 have hx1:((W2.setCell ⟨w.heap.size+1,2,none⟩ (.slice a1 n.Xc.length k1)).setCell ⟨w.heap.size+1,6,none⟩ (.slice a2 n.Xb.length k2)).heap[w.heap.size+1]?=some (.cells (n.cells (.slice a1 n.Xc.length k1) (.slice a2 n.Xb.length k2)).toArray 41 (0,0)):=by simp[World.setCell,Array.getElem?_modify,d2,Nd.cells]
 have hx0:((W2.setCell ⟨w.heap.size+1,2,none⟩ (.slice a1 n.Xc.length k1)).setCell ⟨w.heap.size+1,6,none⟩ (.slice a2 n.Xb.length k2)).heap[w.heap.size]?=W2.heap[w.heap.size]?:=by rw[Z1 _ _ _ _ (by dsimp only;omega),Z1 _ _ _ _ (by dsimp only;omega)]
 rw[d2r]at hx0
 have hU:Upd (fun k=>k=w.heap.size+1) W2 ((W2.setCell ⟨w.heap.size+1,2,none⟩ (.slice a1 n.Xc.length k1)).setCell ⟨w.heap.size+1,6,none⟩ (.slice a2 n.Xb.length k2)):=((Upd.refl (fun k=>k=w.heap.size+1) W2).setCell (p:=⟨w.heap.size+1,2,none⟩) (.inr rfl) _).setCell (p:=⟨w.heap.size+1,6,none⟩) (.inr rfl) _
 have hBx:Below w.heap.size w W2:=hBa.trans (hB2.mono hBa.size)
 have ho1':=YP (base':=w.heap.size) (Z0 ho1 hB2) (by simp;omega)
 have ho2':=YP (base':=w.heap.size) ho2 hBa.size
 have hne1:∀k,(Value.slice a1 n.Xc.length k1).ownBlock=some k→¬(k=w.heap.size+1∨k=w.heap.size):=fun k hk h=>by have:=(Yx ho1 k hk).1;simp at this;omega
 have hne2:∀k,(Value.slice a2 n.Xb.length k2).ownBlock=some k→¬(k=w.heap.size+1∨k=w.heap.size):=fun k hk h=>by have:=(Yx ho2 k hk).1;have:=hBa.size;have:=lt_of_block d1;omega
 generalize(W2.setCell ⟨w.heap.size+1,2,none⟩ (.slice a1 n.Xc.length k1)).setCell ⟨w.heap.size+1,6,none⟩ (.slice a2 n.Xb.length k2)=X at*
 have hc:∀(j:Nat)(v:Value),(n.cells (.slice a1 n.Xc.length k1) (.slice a2 n.Xb.length k2))[j]?=some v→X.cell? ⟨w.heap.size+1,j,none⟩=some v:=fun j v hv=>by rw[cell_of_row X _ _ _ _ _ hx1];simpa using hv
 have y0:=hc 0 _ rfl
 have y1:=hc 1 _ rfl
 have y2:=hc 2 _ rfl
 have y3:=hc 3 _ rfl
 have y4:=hc 4 _ rfl
 have y5:=hc 5 _ rfl
 have y6:=hc 6 _ rfl
 have y7:=hc 7 _ rfl
 have y8:=hc 8 _ rfl
 have y9:=hc 9 _ rfl
 have y10:=hc 10 _ rfl
 have y11:=hc 11 _ rfl
 have y12:=hc 12 _ rfl
 have HEND:Hid (∀X':World,X'.heap[w.heap.size]?=some (.cells (n.cells (.slice a1 n.Xc.length k1) (.slice a2 n.Xb.length k2)).toArray 41 (0,0))→Upd (fun k=>k=w.heap.size) X X'→Xej n w (.returned (.agg (n.cells (.slice a1 n.Xc.length k1) (.slice a2 n.Xb.length k2)).toArray)) X'):=by intro X' _ hU';have hUU:=(hU.mono (G:=fun k=>k=w.heap.size+1∨k=w.heap.size) (fun k _ hk=> .inl hk)).trans (hU'.mono (fun k _ hk=> .inr hk));exact⟨hBx.trans (hUU.JL (fun k hk h=>by omega) hBx.size),_,_,rfl,ZS ho1' hUU hne1,ZS ho2' hUU hne2⟩
 have HX0:=Xqh hx0
 clear hc hx1 hx0 hU hBx ho1' ho2' hne1 hne2 ho1 ho2 d1 d1r d2 d2r e2 e6 ef2 ef6 t2 t6 s2 s6 x2 x6 r2 r6 q2 q6 hd0 hr0 hB1 hB2 hBa hB0
 have hone:=JU n (.slice a1 n.Xc.length k1) (.slice a2 n.Xb.length k2) rfl rfl
 have hthere:X.there w.heap.size 0 (n.cells (.slice a1 n.Xc.length k1) (.slice a2 n.Xb.length k2)).toArray.size:=fun j hj=>by rw[Nat.zero_add];exact⟨by rw[cell_of_row X _ _ _ _ _ HX0.out];simp[Nd.cells]at hj;simp;omega,frozen_of_row X _ _ _ _ HX0.out⟩
 have HT:=Xqh (And.intro hone hthere)
 clear hone hthere
 go_wp2_with(refine wpList_store_mid rfl 41 (.tmp 2) (.tmp 22) rfl w.heap.size 0 (n.cells (.slice a1 n.Xc.length k1) (.slice a2 n.Xb.length k2)).toArray rfl rfl HT.out.2 (XM _ _ _) (all_oneCell_toArray HT.out.1) ?_)
 obtain⟨cur',l1,l2,l3⟩:=Jp w.heap.size 41 (n.cells (.slice a1 n.Xc.length k1) (.slice a2 n.Xb.length k2)) 0 X _ HX0.out
 have hcur:cur'=(n.cells (.slice a1 n.Xc.length k1) (.slice a2 n.Xb.length k2)).toArray:=by apply Array.ext_getElem?;intro k;rw[l3 k];by_cases hk:k<13;·{rw[if_pos (by simp[Nd.cells];omega)];simp};·rw[if_neg (by simp[Nd.cells];omega)];simp[Nd.cells];rw[List.getElem?_eq_none (by simp;omega),List.getElem?_eq_none (by simp;omega)]
 subst hcur
 refine bodyPost_ret (results_cell_row rfl _ _ w.heap.size 41 _ (0,0) _ rfl l1 Tryz.underlying41 rfl (XM _ _ _)) rfl (HEND.out _ l1 ?_)
 exact(Upd.refl (fun k=>k=w.heap.size) X).setCells (.inr rfl) _ _
end
section
open Go.RowKit
theorem results_cell_tmp {fn:Func}{p q:Tmp}{ty:TypeId}{P:Program}(h:fn.results= #[.cell p ty,.tmp q])(tmps:Array Value)(w:World)(g:Nat)(cs:Array Value)(hp:tmps.getD p undef= .pointer (some ⟨g,0,none⟩))(hl:(loadVar ty ⟨g,0,none⟩).run P w= .ok (.agg cs) w):(results fn tmps).run P w= .ok (.tuple #[.agg cs,tmps.getD q undef]) w:=by
 have hp':tmps[p]?.getD undef= .pointer (some ⟨g,0,none⟩):=by simpa using hp
 simp[results,h,hp',asAddr,hl]
/-- What 'Node' hands back. -/
def Xek (A : Ar) (h : Int) (w : World) (e : Ending) (w' : World) : Prop :=
  Below w.heap.size w w' ∧ ∃ kv av, e = .returned (.tuple #[.agg ((if A.has h then A.get h else XL).cells kv av).toArray, .int .i64 (if A.has h then 0 else 3)]) ∧
    w'.ownsRow w.heap.size 3 1 kv (if A.has h then A.get h else XL).Xc.length ((if A.has h then A.get h else XL).Xc.map Xp) ∧ w'.ownsRow w.heap.size 120 3 av (if A.has h then A.get h else XL).Xb.length ((if A.has h then A.get h else XL).Xb.flatMap Xv)
/-- The lists of all nodes are short. -/
def Ar.YC (A : Ar) : Prop := A.ns.length ≤ 1000000 ∧ ∀ n ∈ A.ns, n.Xc.length ≤ 1000000 ∧ n.Xb.length ≤ 1000000
theorem Ar.YC.get {A:Ar}(hS:A.YC){h:Int}(hh:A.has h):(A.get h).Xc.length≤1000000∧(A.get h).Xb.length≤1000000:=hS.2 _ (List.mem_of_getElem? (Ar.get_some hh))
theorem XcM {X:World}{g:Nat}{cur:Array Value}{t:TypeId}(n:Nd)(kv av:Value)(h:X.heap[g]?=some (.cells cur t (0,0)))(hs:cur.size=13):(X.setCells g 0 (n.cells kv av)).heap[g]?=some (.cells (n.cells kv av).toArray t (0,0)):=by
 obtain⟨cur',l1,l2,l3⟩:=Jp g t (n.cells kv av) 0 X _ h
 have hcur:cur'=(n.cells kv av).toArray:=by apply Array.ext_getElem?;intro k;rw[l3 k];by_cases hk:k<13;·{rw[if_pos (by simp[Nd.cells];omega)];simp};·rw[if_neg (by simp[Nd.cells];omega),Array.getElem?_eq_none (by omega),Array.getElem?_eq_none (by simp[Nd.cells];omega)]
 rw[←hcur]
 exact l1
theorem XcN {X:World}{g:Nat}{cur:Array Value}{t:TypeId}(n:Nd)(kv av:Value)(h:X.heap[g]?=some (.cells cur t (0,0)))(hs:cur.size=13):X.there g 0 (n.cells kv av).toArray.size:=fun j hj=>by{rw[Nat.zero_add];exact⟨by rw[cell_of_row X _ _ _ _ _ h];simp[Nd.cells]at hj;simp;omega,frozen_of_row X _ _ _ _ h⟩}
theorem XcO (A:Ar)(ρ:Nat→Nat)(b:Nat)(h:Int)(w:World)(hA:Xz w ρ b A)(hS:A.YC):Calls Tryz.prog 15 #[.pointer (some ⟨b,0,none⟩),.int .i64 h] w (Xek A h w):=by
 obtain⟨a,c,mv,h0,-,-,hlt,hm,hN⟩:=hA.head
 have hB1:Below w.heap.size w ((w.alloc (.cells #[.int .i64 0,.int .i64 0,.slice none 0 0,.int .i64 0,.int .i64 0,.string ⟨#[]⟩,.slice none 0 0,.string ⟨#[]⟩,.string ⟨#[]⟩,.string ⟨#[]⟩,.bool false,.int .i64 0,.int .i64 0] 41)).alloc (.cells #[.int .i64 h] 3)):=((Below.refl _ w).alloc (Nat.le_refl _) _).alloc (by simp) _
 have hz:((w.alloc (.cells #[.int .i64 0,.int .i64 0,.slice none 0 0,.int .i64 0,.int .i64 0,.string ⟨#[]⟩,.slice none 0 0,.string ⟨#[]⟩,.string ⟨#[]⟩,.string ⟨#[]⟩,.bool false,.int .i64 0,.int .i64 0] 41)).alloc (.cells #[.int .i64 h] 3)).heap[w.heap.size]?=some (.cells #[.int .i64 0,.int .i64 0,.slice none 0 0,.int .i64 0,.int .i64 0,.string ⟨#[]⟩,.slice none 0 0,.string ⟨#[]⟩,.string ⟨#[]⟩,.string ⟨#[]⟩,.bool false,.int .i64 0,.int .i64 0] 41 (0,0)):=heap_alloc2_old w _ _
 have hs1:((w.alloc (.cells #[.int .i64 0,.int .i64 0,.slice none 0 0,.int .i64 0,.int .i64 0,.string ⟨#[]⟩,.slice none 0 0,.string ⟨#[]⟩,.string ⟨#[]⟩,.string ⟨#[]⟩,.bool false,.int .i64 0,.int .i64 0] 41)).alloc (.cells #[.int .i64 h] 3)).heap.size=w.heap.size+2:=by simp
 have hv:Xy ((w.alloc (.cells #[.int .i64 0,.int .i64 0,.slice none 0 0,.int .i64 0,.int .i64 0,.string ⟨#[]⟩,.slice none 0 0,.string ⟨#[]⟩,.string ⟨#[]⟩,.string ⟨#[]⟩,.bool false,.int .i64 0,.int .i64 0] 41)).alloc (.cells #[.int .i64 h] 3)) (.slice (some ⟨w.heap.size+1,0,none⟩) 1 1) [h]:=Xf0 _ _ (by simp)
 generalize hW1:(w.alloc (.cells #[.int .i64 0,.int .i64 0,.slice none 0 0,.int .i64 0,.int .i64 0,.string ⟨#[]⟩,.slice none 0 0,.string ⟨#[]⟩,.string ⟨#[]⟩,.string ⟨#[]⟩,.bool false,.int .i64 0,.int .i64 0] 41)).alloc (.cells #[.int .i64 h] 3)=W1 at*
 have HW1:=Xqh hW1
 clear hW1
 have h0':=Below.old hB1 h0
 by_cases hh:A.has h
 ·have hck:Yc A [h]=0:=by{simp[Yc,hh]};have hp:=hh.1;have hq:=hh.2;unfold Ar.n at hq;obtain⟨nb,rfl,hr,hnb,hfn,hNx⟩:=hN (by omega);obtain⟨kv,av,F,hK,hAt⟩:=hNx h hh;have HD:=Xqh (Xgu nb _ (A.get h) kv av W1 (F.below hB1) (Xy.below hK.reads hB1) (XE.below hAt.reads hB1) (hS.get hh).1 (hS.get hh).2);unfold Xek;rw[if_pos hh,if_pos hh];have HP:=Xqh (And.intro hp hq);clear F hNx hN hfn hh hK hAt hp hq;go_enter Tryz.func15,Tryz.ntmps15;go_wp2_with fail;refine(YH A b _ c _ [h] _ (by rw[show(w.alloc _).alloc _=W1 from HW1.out];exact h0') (by rw[show(w.alloc _).alloc _=W1 from HW1.out];exact hv)).mono ?_;rintro e w'⟨rfl,rfl⟩;rw[hck,show(w.alloc _).alloc _=W1 from HW1.out];go_wp2_with fail;refine(XY b nb _ c h _ h0' HP.out.1 HP.out.2 hm).mono ?_;rintro e w'⟨rfl,rfl⟩;go_wp2_with fail;refine HD.out.mono ?_;rintro e w2⟨hB2,kv',av',rfl,ho1,ho2⟩;have hz2:=(hB2.block w.heap.size (by omega)).trans hz;obtain⟨ka,kc,rfl⟩:=X6 ho1;obtain⟨aa,ac,rfl⟩:=X6 ho2;have hone:=JU (A.get h) (.slice ka (A.get h).Xc.length kc) (.slice aa (A.get h).Xb.length ac) rfl rfl;have HT:=Xqh (And.intro hone (XcN (A.get h) (.slice ka (A.get h).Xc.length kc) (.slice aa (A.get h).Xb.length ac) hz2 rfl));have HB:=Xqh (XcM (A.get h) (.slice ka (A.get h).Xc.length kc) (.slice aa (A.get h).Xb.length ac) hz2 rfl);have hU:=(Upd.refl (fun k=>k=w.heap.size) w2).setCells (b:=w.heap.size) (.inr rfl) 0 ((A.get h).cells (.slice ka (A.get h).Xc.length kc) (.slice aa (A.get h).Xb.length ac));have ho1':=YP (base':=w.heap.size) (ZS ho1 hU (fun k hk e=>by have:=(Yx ho1 k hk).1;omega)) (by omega);have ho2':=YP (base':=w.heap.size) (ZS ho2 hU (fun k hk e=>by have:=(Yx ho2 k hk).1;omega)) (by omega);have hBB:Below w.heap.size w (w2.setCells w.heap.size 0 ((A.get h).cells (.slice ka (A.get h).Xc.length kc) (.slice aa (A.get h).Xb.length ac))):=(hB1.trans (hB2.mono (by omega))).trans (hU.JL (fun k hk e=>by omega) (by have:=hB2.size;omega));have HE:=Xqh (And.intro hBB (And.intro ho1' ho2'));clear hone hz2 hU ho1' ho2' hBB ho1 ho2 hB2;go_wp2_with(refine wpList_store_mid rfl 41 (.tmp 4) (.tmp 18) rfl w.heap.size 0 ((A.get h).cells (.slice ka (A.get h).Xc.length kc) (.slice aa (A.get h).Xb.length ac)).toArray rfl rfl HT.out.2 (XM _ _ _) (all_oneCell_toArray HT.out.1) ?_);refine bodyPost_ret (results_cell_tmp rfl _ _ w.heap.size _ rfl (run_loadVar_row _ _ 41 _ _ (0,0) _ HB.out Tryz.underlying41 rfl (XM _ _ _))) rfl ?_;exact⟨HE.out.1,_,_,rfl,HE.out.2.1,HE.out.2.2⟩
 ·have hck:Yc A [h]=3:=by{simp[Yc,hh]};unfold Xek;rw[if_neg hh,if_neg hh];have hone:=JU XL (.slice none 0 0) (.slice none 0 0) rfl rfl;have HT:=Xqh (And.intro hone (XcN XL (.slice none 0 0) (.slice none 0 0) hz rfl));have HB:=Xqh (XcM XL (.slice none 0 0) (.slice none 0 0) hz rfl);have hU:=(Upd.refl (fun k=>k=w.heap.size) W1).setCells (b:=w.heap.size) (.inr rfl) 0 (XL.cells (.slice none 0 0) (.slice none 0 0));have hBB:Below w.heap.size w (W1.setCells w.heap.size 0 (XL.cells (.slice none 0 0) (.slice none 0 0))):=hB1.trans (hU.JL (fun k hk e=>by omega) (by omega));have HE:=Xqh hBB;clear hone hz hU hBB hh hN;go_enter Tryz.func15,Tryz.ntmps15;go_wp2_with fail;refine(YH A b _ c _ [h] _ (by rw[show(w.alloc _).alloc _=W1 from HW1.out];exact h0') (by rw[show(w.alloc _).alloc _=W1 from HW1.out];exact hv)).mono ?_;rintro e w'⟨rfl,rfl⟩;rw[hck,show(w.alloc _).alloc _=W1 from HW1.out];go_wp2_with(refine wpList_store_mid rfl 41 (.tmp 4) (.tmp 13) rfl w.heap.size 0 (XL.cells (.slice none 0 0) (.slice none 0 0)).toArray rfl rfl HT.out.2 (XM _ _ _) (all_oneCell_toArray HT.out.1) ?_);refine bodyPost_ret (results_cell_tmp rfl _ _ w.heap.size _ rfl (run_loadVar_row _ _ 41 _ _ (0,0) _ HB.out Tryz.underlying41 rfl (XM _ _ _))) rfl ?_;exact⟨HE.out,_,_,rfl,World.ownsRow_nil _ _ _ _,World.ownsRow_nil _ _ _ _⟩
end
section
open Go.RowKit
/-- The roles of a new arena. -/
def Xbi (b : Nat) : Nat → Nat := fun k => if k = b then 1 else 0
theorem Xz.new (w:World):Xz (w.alloc (.cells #[.slice none 0 0,.map none] 72)) (Xbi w.heap.size) w.heap.size Ar.new:=by
 refine⟨fun k hk=>?_,by simp[Xbi],rfl,.slice none 0 0,.map none,heap_alloc_new _ _,⟨[],⟨World.ownsRow_nil _ _ _ _,fun g hg=>by simp[Value.ownBlock]at hg⟩,rfl,fun i n hn=>by simp[Ar.new]at hn⟩,[],fun k=>?_,List.nodup_nil,.inl ⟨rfl,rfl⟩⟩
 ·unfold Xbi at hk;split at hk;·{rename_i e;rw[e];simp};·exact absurd rfl hk
 ·have:(Ar.new).Xh[k.toNat]?.getD 0=0:=by{simp only[Ar.new];cases h:([(0:Int)])[k.toNat]? with|none=>{rfl}|some x=>have:=List.mem_of_getElem? h;simp at this;simp[this]};simp[this]
theorem Xgv (w:World):Calls Tryz.prog 18 #[] w fun e w'=>e= .returned (.pointer (some ⟨w.heap.size,0,none⟩))∧w'=w.alloc (.cells #[.slice none 0 0,.map none] 72):=by
 go_enter Tryz.func18,Tryz.ntmps18
 go_wp2
 go_ret
 exact⟨rfl,rfl⟩
theorem Xel (A:Ar)(ρ:Nat→Nat)(b:Nat)(d:Int)(w:World)(hA:Xz w ρ b A)(hsmall:A.ns.length≤1000000):Calls Tryz.prog 84 #[.pointer (some ⟨b,0,none⟩),.int .i64 d] w (Yk (A.YA d).2 ρ b w (Xl (A.YA d).1)):=by
 have HD:=Xqh (XcA A ρ b d w hA)
 by_cases he:A.XA d=0
 ·have hfin:A.YA d=(((A.Xq d).1,0),(A.Xq d).2):=by{simp[Ar.YA,he]};rw[hfin];have HH:=Xqh (JV he);go_enter Tryz.func84,Tryz.ntmps84;go_wp2_with fail;refine HD.out.mono ?_;rintro e w1⟨rfl,hB⟩;rw[he];clear hfin he;go_wp2_with fail;refine(Xgp A ρ b d w1 (hA.below hB) HH.out hsmall).mono ?_;rintro e w2⟨rfl,ρ',hA2,hT2⟩;go_wp2;go_ret2;exact⟨rfl,ρ',hA2,(Xr.below hB).trans hT2⟩
 ·have hfin:A.YA d=((0,A.XA d),A):=by{simp[Ar.YA,he]};rw[hfin];have he1:(A.XA d !=0)=true:=by{simp[he]};go_enter Tryz.func84,Tryz.ntmps84;go_wp2_with fail;refine HD.out.mono ?_;rintro e w1⟨rfl,hB⟩;go_wp2;go_ret2;exact⟨rfl,ρ,hA.below hB,Xr.below hB⟩
end
section
open Go.RowKit
theorem Ar.XaK (A:Ar)(d:Int):A.ns.length≤(A.Xq d).2.ns.length∧(A.Xq d).2.ns.length≤A.ns.length+1:=by
 unfold Ar.Xq
 split
 ·exact⟨Nat.le_refl _,Nat.le_succ _⟩
 ·simp[Ar.Xn,Ar.add]
/-- The new element's node. -/
def XJ (d s : Int) (name : ByteArray) (l : List Xm) : Nd := { XL with Xa := 4, doc := d, space := s, name := name, Xb := XZ l }
/-- The node of a template's Xg. -/
def Y7 (h i : Int) : Nd := { XL with Xa := 2, host := h, doc := i }
theorem XaL {A:Ar}{d s:Int}{name:ByteArray}{l:List Xm}(he:A.XA d=0)(hs:¬(XS s∧Ys l)):A.element d s name l=((0,2),A):=by
 unfold Ar.element
 rw[if_neg (fun h=>h he),if_pos hs]
theorem XaM {A:Ar}{d s:Int}{name:ByteArray}{l:List Xm}(he:A.XA d=0)(hs:XS s∧Ys l)(ht:¬XN (XJ d s name l)):A.element d s name l=((A.n+1,0),A.add (XJ d s name l)):=by
 unfold Ar.element
 rw[if_neg (fun h=>h he),if_neg (fun h=>h hs)]
 exact if_neg ht
theorem XaN {A:Ar}{d s:Int}{name:ByteArray}{l:List Xm}(he:A.XA d=0)(hs:XS s∧Ys l)(ht:XN (XJ d s name l)):A.element d s name l=((A.n+1,0),((((A.add (XJ d s name l)).Xq d).2.add (Y7 (A.n+1) ((A.add (XJ d s name l)).Xq d).1)).mod (A.n+1) (fun x=>{x with Xg:=((A.add (XJ d s name l)).Xq d).2.n+1}))):=by
 unfold Ar.element
 rw[if_neg (fun h=>h he),if_neg (fun h=>h hs)]
 exact if_pos ht
theorem XaO (A:Ar)(ρ:Nat→Nat)(b:Nat)(d s:Int)(name:ByteArray)(v:Value)(l:List Xm)(w:World)(hA:Xz w ρ b A)(hv:XE w v l)(hsmall:A.ns.length+3≤1000000)(hl:l.length≤1000000):Calls Tryz.prog 20 #[.pointer (some ⟨b,0,none⟩),.int .i64 d,.int .i64 s,.string name,v] w (Yk (A.element d s name l).2 ρ b w (Xl (A.element d s name l).1)):=by
 have HD:=Xqh (XcA A ρ b d w hA)
 by_cases he:A.XA d=0
 ·have HH:=Xqh (JV he);by_cases ha:Ys l;·{by_cases hs:XS s;·{by_cases ht:XN (XJ d s name l);·{rw[XaN he ⟨hs,ha⟩ ht];have HS:=Xqh hs;have HA:=Xqh ha;have HT:=Xqh ht;clear hs ha ht;go_enter Tryz.func20,Tryz.ntmps20;go_wp2_with fail;refine HD.out.mono ?_;rintro e w1⟨rfl,hB⟩;rw[he];clear he;go_wp2_with fail;refine(XbM v l w1 (hv.below hB) hl).mono ?_;rintro e w2⟨hB2,hyes,-⟩;obtain⟨av,rfl,hown⟩:=hyes HA.out;clear hyes;obtain⟨aa,ac,rfl⟩:=X6 hown;have HO:=Xqh hown;clear hown;go_wp2_with fail;refine(XcB _ [s] _ (ZQ _ _ _)).mono ?_;rintro e w'⟨rfl,rfl⟩;rw[show decide (∀x∈ [s],XS x)=true from by{simp[HS.out]}];have hB3:Below w1.heap.size w1 (w2.alloc (.cells #[.int .i64 s] 38)):=hB2.trans ((Xw _ _).mono hB2.size);obtain⟨ρ',hA3,hr3,hown3,hb3⟩:=Xd9 (r:=2*A.ns.length+5) (hA.below hB) hB3 (Z0 HO.out (Xw w2 (.cells #[.int .i64 s] 38)));have hT3:Xr ρ ρ' w (w2.alloc (.cells #[.int .i64 s] 38)):=(Xr.below hB).trans ⟨Upd.below hB3,hr3⟩;have HADD:=Xqh (XbN A ρ' b (XJ d s name l) aa ac _ hA3 (by omega) rfl hown3);clear hown3 HO hb3 hr3 hB3;generalize hw3:w2.alloc _=w3 at*;clear hw3;go_wp2_with fail;refine HADD.out.mono ?_;rintro e w4⟨rfl,ρ4,hA4,hT4⟩;clear HADD;have hT4':=hT3.trans hT4;clear hT3 hT4 hA3;obtain⟨a1,c1,mv1,h01,-,hf1,hlt1,hm1,hN1⟩:=hA4.head;obtain⟨nb,rfl,hr1,hnb,hfn,hNx⟩:=hN1 (by simp[Ar.add]);obtain⟨kv,av,F,-,-⟩:=hNx _ (Xbd _);rw[add_get]at F;have HL:=Xqh (show((A.add (XJ d s name l)).ns.length:Int)=A.n+1 by simp[Ar.add,Ar.n]);have hp:1≤A.n+1:=by{unfold Ar.n;omega};go_wp2_with fail;refine(XY b nb _ c1 (A.n+1) _ h01 hp (by rw[HL.out];exact Int.le_refl _) hm1).mono ?_;rintro e w'⟨rfl,rfl⟩;go_wp2_with fail;refine(Xgd nb _ _ kv av _ F).mono ?_;rintro e w'⟨rfl,rfl⟩;rw[show decide (XN (XJ d s name l))=true from decide_eq_true HT.out];have hlen4:(A.add (XJ d s name l)).ns.length=A.ns.length+1:=by{simp[Ar.add]};have hd4:(A.add (XJ d s name l)).has d:=⟨HH.out.1,by have:=HH.out.2;unfold Ar.n at this⊢;omega⟩;have hx4:(A.add (XJ d s name l)).has (A.n+1):=⟨hp,by unfold Ar.n at*;omega⟩;have HI:=Xqh (Xgp _ ρ4 b d w4 hA4 hd4 (by omega));have HIL:=Xqh (Ar.XaK (A.add (XJ d s name l)) d);clear F hNx hN1 hfn hf1 h01 hA4 hd4;generalize hA1:A.add (XJ d s name l)=A1 at*;have HA1:=Xqh hA1;clear hA1;go_wp2_with fail;refine HI.out.mono ?_;rintro e w5⟨rfl,ρ5,hA5,hT5⟩;have hT5':=hT4'.trans hT5;clear HI hT5 hT4';have hsm5:(A1.Xq d).2.ns.length≤1000000:=by{have:=HIL.out;omega};have HADD:=Xqh (XbN _ ρ5 b (Y7 (A.n+1) (A1.Xq d).1) none 0 _ hA5 hsm5 rfl (Xd6 _ _ _));go_wp2_with fail;refine HADD.out.mono ?_;rintro e w6⟨rfl,ρ6,hA6,hT6⟩;have hT6':=hT5'.trans hT6;clear HADD hT5' hT6 hA5;have hlen6:((A1.Xq d).2.add (Y7 (A.n+1) (A1.Xq d).1)).ns.length=(A1.Xq d).2.ns.length+1:=by{simp[Ar.add]};have hx6:((A1.Xq d).2.add (Y7 (A.n+1) (A1.Xq d).1)).has (A.n+1):=⟨hp,by have q1:=HIL.out;have q2:=hx4.2;show A.n+1≤((((A1.Xq d).2.add (Y7 (A.n+1) (A1.Xq d).1)).ns.length:Nat):Int);rw[hlen6];unfold Ar.n at q2⊢;omega⟩;have HLEN:=Xqh hlen6;obtain⟨a6,c6,mv6,h06,-,hf6,hlt6,hm6,hN6⟩:=hA6.head;obtain⟨nb6,rfl,hr6,hnb6,hfn6,hNx6⟩:=hN6 (by omega);obtain⟨kv6,av6,F6,-,-⟩:=hNx6 _ hx6;have hle6:A.n+1≤((((A1.Xq d).2.add (Y7 (A.n+1) (A1.Xq d).1)).ns.length:Nat):Int):=hx6.2;have c11:=F6.c11;have f11:=hfn6 (((A.n+1).toNat-1)*13+11);have hE:Xz (w6.setCell ⟨nb6,((A.n+1).toNat-1)*13+11,none⟩ (.int .i64 ((A1.Xq d).2.n+1))) ρ6 b (((A1.Xq d).2.add (Y7 (A.n+1) (A1.Xq d).1)).mod (A.n+1) (fun x=>{x with Xg:=(A1.Xq d).2.n+1})):=hA6.field hx6 h06 rfl (j:=11) (by omega) (fun _ _=>rfl) rfl rfl;have hTE:=hT6'.trans (Xr.set (w:=w6) (ρ:=ρ6) (a:=⟨nb6,((A.n+1).toNat-1)*13+11,none⟩) (by dsimp only;omega) (.int .i64 ((A1.Xq d).2.n+1)));have HE:=Xqh (And.intro hE hTE);clear hE hTE F6 hNx6 hN6 hfn6 hf6 hT6' hA6 hlen6 hx6;generalize hA2:(A1.Xq d).2.add (Y7 (A.n+1) (A1.Xq d).1)=A6 at*;have HA2:=Xqh hA2;clear hA2;go_wp2_with fail;refine(XY b nb6 _ c6 (A.n+1) _ h06 hp hle6 hm6).mono ?_;rintro e w'⟨rfl,rfl⟩;generalize ho:((A.n+1).toNat-1)*13=o at*;go_wp2;go_ret2;have e1:=HA1.out;have e2:=HA2.out;have q1:=HE.out;subst e2;subst e1;exact⟨rfl,ρ6,q1.1,q1.2⟩};·rw[XaM he ⟨hs,ha⟩ ht];have HS:=Xqh hs;have HA:=Xqh ha;have HT:=Xqh ht;clear hs ha ht;go_enter Tryz.func20,Tryz.ntmps20;go_wp2_with fail;refine HD.out.mono ?_;rintro e w1⟨rfl,hB⟩;rw[he];clear he;go_wp2_with fail;refine(XbM v l w1 (hv.below hB) hl).mono ?_;rintro e w2⟨hB2,hyes,-⟩;obtain⟨av,rfl,hown⟩:=hyes HA.out;clear hyes;obtain⟨aa,ac,rfl⟩:=X6 hown;have HO:=Xqh hown;clear hown;go_wp2_with fail;refine(XcB _ [s] _ (ZQ _ _ _)).mono ?_;rintro e w'⟨rfl,rfl⟩;rw[show decide (∀x∈ [s],XS x)=true from by{simp[HS.out]}];have hB3:Below w1.heap.size w1 (w2.alloc (.cells #[.int .i64 s] 38)):=hB2.trans ((Xw _ _).mono hB2.size);obtain⟨ρ',hA3,hr3,hown3,hb3⟩:=Xd9 (r:=2*A.ns.length+5) (hA.below hB) hB3 (Z0 HO.out (Xw w2 (.cells #[.int .i64 s] 38)));have hT3:Xr ρ ρ' w (w2.alloc (.cells #[.int .i64 s] 38)):=(Xr.below hB).trans ⟨Upd.below hB3,hr3⟩;have HADD:=Xqh (XbN A ρ' b (XJ d s name l) aa ac _ hA3 (by omega) rfl hown3);clear hown3 HO hb3 hr3 hB3;generalize hw3:w2.alloc _=w3 at*;clear hw3;go_wp2_with fail;refine HADD.out.mono ?_;rintro e w4⟨rfl,ρ4,hA4,hT4⟩;clear HADD;have hT4':=hT3.trans hT4;clear hT3 hT4 hA3;obtain⟨a1,c1,mv1,h01,-,hf1,hlt1,hm1,hN1⟩:=hA4.head;obtain⟨nb,rfl,hr1,hnb,hfn,hNx⟩:=hN1 (by simp[Ar.add]);obtain⟨kv,av,F,-,-⟩:=hNx _ (Xbd _);rw[add_get]at F;have HL:=Xqh (show((A.add (XJ d s name l)).ns.length:Int)=A.n+1 by simp[Ar.add,Ar.n]);have hp:1≤A.n+1:=by{unfold Ar.n;omega};go_wp2_with fail;refine(XY b nb _ c1 (A.n+1) _ h01 hp (by rw[HL.out];exact Int.le_refl _) hm1).mono ?_;rintro e w'⟨rfl,rfl⟩;go_wp2_with fail;refine(Xgd nb _ _ kv av _ F).mono ?_;rintro e w'⟨rfl,rfl⟩;rw[show decide (XN (XJ d s name l))=false from decide_eq_false HT.out];clear F hNx hN1 hfn hf1 h01;go_wp2;go_ret2;exact⟨rfl,ρ4,hA4,hT4'⟩};·rw[XaL he (fun h=>hs h.1)];have HS:=Xqh hs;have HA:=Xqh ha;clear hs ha;go_enter Tryz.func20,Tryz.ntmps20;go_wp2_with fail;refine HD.out.mono ?_;rintro e w1⟨rfl,hB⟩;rw[he];clear he;go_wp2_with fail;refine(XbM v l w1 (hv.below hB) hl).mono ?_;rintro e w2⟨hB2,hyes,-⟩;obtain⟨av,rfl,hown⟩:=hyes HA.out;clear hyes;obtain⟨aa,ac,rfl⟩:=X6 hown;have HO:=Xqh hown;clear hown;go_wp2_with fail;refine(XcB _ [s] _ (ZQ _ _ _)).mono ?_;rintro e w'⟨rfl,rfl⟩;rw[show decide (∀x∈ [s],XS x)=false from by{simp[HS.out]}];have hAE:=((hA.below hB).below hB2).below (Xw w2 (.cells #[.int .i64 s] 38));have hTE:Xr ρ ρ w (w2.alloc (.cells #[.int .i64 s] 38)):=((Xr.below hB).trans (Xr.below hB2)).trans (Xr.below (Xw _ _));have HE:=Xqh (And.intro hAE hTE);clear hAE hTE HO;go_wp2;go_ret2;exact⟨rfl,ρ,HE.out.1,HE.out.2⟩};·rw[XaL he (fun h=>ha h.2)];have HA:=Xqh ha;clear ha;go_enter Tryz.func20,Tryz.ntmps20;go_wp2_with fail;refine HD.out.mono ?_;rintro e w1⟨rfl,hB⟩;rw[he];clear he;go_wp2_with fail;refine(XbM v l w1 (hv.below hB) hl).mono ?_;rintro e w2⟨hB2,-,hno⟩;have:=hno HA.out;subst this;clear hno;go_wp2;go_ret2;exact⟨rfl,ρ,(hA.below hB).below hB2,(Xr.below hB).trans (Xr.below hB2)⟩
 ·have hfin:A.element d s name l=((0,A.XA d),A):=by{simp[Ar.element,he]};rw[hfin];have he1:(A.XA d !=0)=true:=by{simp[he]};go_enter Tryz.func20,Tryz.ntmps20;go_wp2_with fail;refine HD.out.mono ?_;rintro e w1⟨rfl,hB⟩;go_wp2;go_ret2;exact⟨rfl,ρ,hA.below hB,Xr.below hB⟩
end
section
open Go.RowKit Go.Shelf
attribute [local go_sem] Oper.semAt_some
theorem boxes4 (w:World)(o1 o2 o3 o4:Obj):∀W,W=(((w.alloc o1).alloc o2).alloc o3).alloc o4→W.heap[w.heap.size]?=some o1∧W.heap[w.heap.size+1]?=some o2∧W.heap[w.heap.size+2]?=some o3∧W.heap[w.heap.size+3]?=some o4∧W.heap.size=w.heap.size+4∧Below w.heap.size w W:=by
 rintro W rfl
 have hnew:∀(v:World)(o:Obj)(k:Nat),k=v.heap.size→(v.alloc o).heap[k]?=some o:=fun v o k hk=>by rw[hk];exact heap_alloc_new v o
 refine⟨?_,?_,?_,?_,by simp,?_⟩
 ·rw[Ja _ _ _ (by simp;omega),Ja _ _ _ (by simp;omega),Ja _ _ _ (by simp)];exact hnew _ _ _ rfl
 ·rw[Ja _ _ _ (by simp;try omega),Ja _ _ _ (by simp;try omega)];exact hnew _ _ _ (by simp)
 ·rw[Ja _ _ _ (by simp)];exact hnew _ _ _ (by simp)
 ·exact hnew _ _ _ (by simp)
 ·exact((((Below.refl _ w).alloc (by simp) _).alloc (by simp) _).alloc (by simp;omega) _).alloc (by simp;omega) _
theorem way_plain {A:Ar}:∀{l:List Int}{h:Int},A.Way (Ye A true) h l→∃l',A.Way (Ye A false) h l'
 | [],h,hw=>⟨[],hw⟩
 |x::l,h,hw=>by{obtain⟨rfl,hx,hw⟩:=hw;by_cases hp:(A.get x).Xd=0;·{exact⟨[x],rfl,hx,by simp[Ye,hp,Ar.Way]⟩};·obtain⟨l',hl'⟩:=way_plain hw;refine⟨x::l',rfl,hx,?_⟩;have:Ye A true x=Ye A false x:=by{simp[Ye,Ar.up,hp]};rw[←this];exact hl'}
theorem Root_any (A:Ar)(ρ:Nat→Nat)(b:Nat)(h:Int)(path:List Int)(w:World)(hA:Xz w ρ b A)(hh:A.has h)(hW:A.Way (Ye A false) h path):Calls Tryz.prog 16 #[.pointer (some ⟨b,0,none⟩),.int .i64 h] w fun e w'=>e= .returned (.int .i64 (path.getLast?.getD 0))∧Below w.heap.size w w':=by
 obtain⟨a,c,mv,h0,-,-,hlt,hm,-⟩:=hA.head
 have hh1:decide (A.has h)=true:=by simp[hh]
 refine(callsIn_wide (n:=8)).1 ?_
 refine callsIn_of_wp_marks Tryz.func16 rfl trivial ?_ rfl
 simp only[Tryz.ntmps16,List.size_toArray,List.length_cons,List.length_nil,Nat.reduceAdd,Nat.reduceSub,Array.replicate_succ,Array.replicate_zero,List.push_toArray,List.append_toArray,List.nil_append,List.cons_append]
 gi_wp2_with fail
 refine⟨trivial,?_⟩
 refine(callsIn_wide.2 (ZH A b a c h _ (JJ _ h0))).mono ?_
 rintro e w2⟨rfl,rfl⟩
 rw[hh1]
 gi_wp2_with fail
 refine⟨trivial,?_⟩
 refine(callsIn_wide.2 (XjA b h false _)).mono ?_
 rintro e w2⟨rfl,rfl⟩
 simp only[World.size_alloc]
 obtain⟨W5,hW5⟩:∃W5,W5=(((w.alloc (.cells #[.int .i64 0] 3)).alloc (.cells #[.pointer (some ⟨b,0,none⟩)] 26)).alloc (.cells #[.int .i64 h] 3)).alloc (.cells #[.bool false] 4):=⟨_,rfl⟩
 obtain⟨q1,q2,q3,q4,hs5,hB5⟩:=boxes4 w _ _ _ _ W5 hW5
 rw[←hW5]
 clear hW5
 gi_wp2_with fail
 have hA5:=hA.below hB5
 have hlt5:∀k,ρ k≠0→k<w.heap.size:=hA.1
 have hseq:=Xjz A ρ b (w.heap.size+2) (w.heap.size+1) (w.heap.size+3) h false path 7 (by omega) W5 (fun k=>k=w.heap.size) hA5 q3 q2 q4 (by omega) (by omega) (by by_cases h0:ρ (w.heap.size+2)=0;·{exact h0};·have:=hlt5 _ h0;omega) hW (by rintro k rfl;refine⟨by omega,by omega,by omega,?_⟩;by_cases h0:ρ w.heap.size=0;·{exact h0};·have:=hlt5 _ h0;omega)
 refine Xji rfl (by omega) (gf:=86) (lb:= #[.pointer (some ⟨w.heap.size+2,0,none⟩),.pointer (some ⟨w.heap.size+1,0,none⟩),.pointer (some ⟨w.heap.size+3,0,none⟩)]) rfl trivial (enters_of Tryz.func86 (by kernel_rfl) rfl) hseq (by rintro k rfl;omega) (by rintro k rfl;omega) (fun _=>rfl) (fun pre W=>Below w.heap.size w W∧W.heap[w.heap.size]?=some (.cells #[.int .i64 (pre.getLast?.getD 0)] 3 (0,0))) (fun pre W=>False) (fun s A' B hs hu'=>⟨hs.1.trans (hu'.JL (fun k hk=>by omega) hs.1.size),(hu'.block _ (lt_of_block hs.2) (by omega)).trans hs.2⟩) (fun s A' B hs hu'=>hs) ⟨hB5,q1⟩ (fun x=>{tmps:= #[.pointer (some ⟨b,0,none⟩),.int .i64 h,undef,undef,.int .i64 0,.pointer (some ⟨w.heap.size,0,none⟩),.int .i64 x,.pointer (some ⟨b,0,none⟩),.int .i64 h,.bool true,.pointer (some ⟨b,0,none⟩),.int .i64 h,.func (.func 86) #[] #[.pointer (some ⟨w.heap.size+1+1,0,none⟩),.pointer (some ⟨w.heap.size+1,0,none⟩),.pointer (some ⟨w.heap.size+1+2,0,none⟩)],.int .i64 x,undef,undef],defers:= []}) ?assign ?body ?done ?stop
 case assign=>intro l x W K hK;gi_wp2;exact hK
 case body=>rintro l pre x W⟨hBW,r1⟩;have k1:=XD r1;have f1:=Xbf r1;gi_wp2;exact⟨(Upd.refl (fun k=>k=w.heap.size) W).setCell (p:=⟨w.heap.size,0,none⟩) (.inr rfl) _,hBW.trans ((Below.refl _ W).setCell (p:=⟨w.heap.size,0,none⟩) (Nat.le_refl _) _),by rw[show(pre++ [x]).getLast?.getD 0=x from by{simp}];exact one_setCell r1⟩
 case done=>rintro D ys W rfl⟨hBW,r1⟩hD hK;have k1:=XD r1;gi_wp2;have hD1:D≠w.heap.size:=by{omega};refine⟨by simp,.inl ⟨_,_,rfl,run_takeDeferred hK,?_⟩⟩;refine⟨_,?_,rfl,?_⟩;·{simp[results,Tryz.f16,go_sem]};·exact hBW.trans (Upd.JL (F:=fun k=>k=D) (ZT _ rfl) (fun k hk=>by omega) hBW.size)
 case stop=>rintro D pre W _ hx _ _;exact hx.elim
theorem Root_no (A:Ar)(ρ:Nat→Nat)(b:Nat)(h:Int)(w:World)(hA:Xz w ρ b A)(hno:¬A.has h):Calls Tryz.prog 16 #[.pointer (some ⟨b,0,none⟩),.int .i64 h] w fun e w'=>e= .returned (.int .i64 0)∧Below w.heap.size w w':=by
 obtain⟨a,c,mv,h0,-,-,hlt,hm,-⟩:=hA.head
 have h0':=JJ (.cells #[.int .i64 0] 3) h0
 have hB:=Xw w (.cells #[.int .i64 0] 3)
 have hu1:decide (A.has h)=false:=by simp[hno]
 clear hno
 go_enter Tryz.func16,Tryz.ntmps16
 go_wp2_with fail
 refine(ZH A b a c h _ h0').mono ?_
 rintro e w2⟨rfl,rfl⟩
 rw[hu1]
 go_wp2
 go_ret
 exact⟨rfl,hB⟩
theorem Ar.WF.wayPlain {A:Ar}(hW:A.WF){h:Int}(hh:A.has h):A.Way (Ye A false) h (A.YR false h):=by
 obtain⟨p,hp⟩:=hW.way h hh
 obtain⟨l,hl⟩:=way_plain hp
 rw[Ar.YR,XdW hl (XdV hl)]
 exact hl
/-- The root of the tree of a node, or 0. -/
def Ar.root (A : Ar) (h : Int) : Int := if A.has h then (A.YR false h).getLast?.getD 0 else 0
theorem Root_all (A:Ar)(ρ:Nat→Nat)(b:Nat)(h:Int)(w:World)(hA:Xz w ρ b A)(hW:A.WF):Calls Tryz.prog 16 #[.pointer (some ⟨b,0,none⟩),.int .i64 h] w fun e w'=>e= .returned (.int .i64 (A.root h))∧Below w.heap.size w w':=by
 by_cases hh:A.has h
 ·rw[Ar.root,if_pos hh];exact Root_any A ρ b h _ w hA hh (hW.wayPlain hh)
 ·rw[Ar.root,if_neg hh];exact Root_no A ρ b h w hA hh
theorem Xgw (A:Ar)(ρ:Nat→Nat)(b:Nat)(u h:Int)(w:World)(hA:Xz w ρ b A)(hW:A.WF):Calls Tryz.prog 93 #[.pointer (some ⟨b,0,none⟩),.int .i64 u,.int .i64 h] w fun e w'=>e= .returned (.bool (A.contains u h))∧Below w.heap.size w w':=by
 by_cases hh:A.has u∧A.has h
 ·have:A.contains u h=decide (u∈A.YR true h):=by{simp[Ar.contains,hh]};rw[this];exact XaJ A ρ b u h _ w hA hh.1 hh.2 (hW.Zs hh.2)
 ·have:A.contains u h=false:=by{simp only[Ar.contains,decide_eq_false_iff_not];exact fun e=>hh ⟨e.1,e.2.1⟩};rw[this];exact XjR A ρ b u h w hA hh
end
end Go.Proofs.YtpicinjcmjaogaaGreatDoor
