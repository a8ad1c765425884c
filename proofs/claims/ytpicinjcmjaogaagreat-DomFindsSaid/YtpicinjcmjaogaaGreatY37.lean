import Derived.Test.YtpicinjcmjaogaaGreatY36
set_option maxRecDepth 100000
set_option maxHeartbeats 4000000
set_option linter.unusedVariables false
namespace Go.Proofs.YtpicinjcmjaogaaGreat
variable{A:Ar}{h d n p c:Int}{w0 w:World}{B b:Nat}{L l:List Xf}
section
open Go.RowKit Go.Shelf
theorem Xob (hh:A.has h)(hd:A.has d)(hkh:(A.get h).Xa≠1)(hk:(A.get d).Xa=1):(A.Xt h d).2=A.mod h (λx=>{x with doc:=d}):=by
 unfold Ar.Xt
 rw[if_neg (λq=>by rcases q with q|q;exact q hh;exact q hd),if_neg (λq=>by rcases q with q|q;exact hkh q;exact q hk)]
theorem Xoc (hI:A.Inv)(hh:A.has h)(hc:(A.get h).Xg≠0):(A.get (A.get h).Xg).Xa=2:=by
 have ht:XN (A.get h):=Classical.not_not.1 (λhn=>hc (hI.YG h hh (.inr hn)))
 exact(hI.cont h hh (by have:=hh.1;omega) ht).2.1
theorem Xod {n m j:Nat}(hI:A.Inv)(hh:A.has h)(hd:A.has d)(hk:(A.get d).Xa=1)(hw:(A.Xi h).length<=m+1)(hcap:A.cap d<=100000)(hj:j<=(A.get h).Xc.length):∃Bj,((h::((A.get h).Xc.take j).flatMap (λk=>k::A.below k)).foldl (Yf (adoptF n) d) A)=Bj/\Bj.Inv/\Bj.cap d<=100000/\A.Tree Bj/\Bj.has h/\(Bj.get h).Xc=(A.get h).Xc/\Bj.has d/\(Bj.get d).Xa=1/\∀k,(A.get h).Xc[j]?=some k->Bj.has k/\(Bj.get k).Xa≠1/\(Bj.Xi k).length<=m/\(k::Bj.below k).foldl (Yf (adoptF n) d) Bj=(h::((A.get h).Xc.take (j+1)).flatMap (λk=>k::A.below k)).foldl (Yf (adoptF n) d) A:=by
 have hl:∀x∈(h::((A.get h).Xc.take j).flatMap (λk=>k::A.below k)),A.has x:=by intro x hx;rcases List.mem_cons.1 hx with rfl|hx;{exact hh};·obtain⟨k,hkk,hx⟩:=List.mem_flatMap.1 hx;have h1:=(XF hI hh (List.mem_of_mem_take hkk)).1;rcases List.mem_cons.1 hx with rfl|hx;{exact h1};·exact(Zt hI k h1 x hx).1
 obtain⟨f1,f2,f3⟩:=XeX n hI hd hk hl
 refine⟨_,rfl,f1,by omega,f2,f2.has hh,f2.Xc hh,f2.has hd,(f2.Xa hd).trans hk,λk hkj=>?_⟩
 have hkm:=List.mem_of_getElem? hkj
 obtain⟨u1,u2,u3⟩:=XF hI hh hkm
 refine⟨f2.has u1,?_,?_,?_⟩
 ·rw[f2.Xa u1];exact(hI.par k u1 (by rw[u3];have:=hh.1;omega)).1
 ·rw[f2.Xi hI f1 k u1];have hwe:=Ym hI hh;obtain⟨s,t,e⟩:=List.append_of_mem hkm;rw[hwe,e]at hw;simp at hw;omega
 ·rw[f2.below hI f1 k u1,XeR _ hkj,<-List.cons_append,List.foldl_append]
theorem XiR {n:Nat}(hI:A.Inv)(hsz:A.ns.length<=1000000)(hh:A.has h)(o:Own w0 B (.refar b A::L) w)(hg:∀W,Own w0 B (.refar b (A.cut h)::L) W->Calls Tryz.prog 247 #[.pointer (some ⟨b,0,none⟩),.int .i64 h,.int .i64 d] W λe w'=>e= .returned (.tuple #[])/\Own w0 B (.refar b ((h::(A.cut h).below h).foldl (Yf (adoptF n) d) (A.cut h))::L) w'):Calls Tryz.prog 233 #[.pointer (some ⟨b,0,none⟩),.int .i64 h,.int .i64 d] w λe w'=>e= .returned (.tuple #[])/\Own w0 B (.refar b (adoptF (n+1) A h d)::L) w':=by
 have HC:=Xqh (o.Jh (λρ hA=>Xde A ρ b h w hA hI.wf hsz))
 have e1:A.XR h=(0,A.cut h):=by unfold Ar.XR;rw[if_pos hh]
 rw[e1]at HC
 have HG:=Xqh hg
 have HF:Hid (adoptF (n+1) A h d=if((A.cut h).get h).doc=d then A.cut h else(h::(A.cut h).below h).foldl (Yf (adoptF n) d) (A.cut h)):=Xqh rfl
 have hhC:(A.cut h).has h:=(Ar.X5 _ _ _).2 hh
 clear o hg hI hh e1
 generalize adoptF (n+1) A h d=R at*
 generalize A.cut h=C at*
 have HH:=Xqh hhC
 clear hhC
 go_enter Tryz.func233,Tryz.ntmps233
 go_wp2_with fail
 refine HC.out.mono ?_
 rintro e w1⟨rfl,o1⟩
 obtain⟨nb,c,h0,h1,h2,h3,h4,h5,-,h7⟩:=o1.Y9 (b:=b) (A:=C) (by simp)
 obtain⟨p1,p2,ka,kc,aa,ac,F,-,-,-⟩:=h7 h HH.out
 have c3:=F.c3
 have hx0:(0:Int)<=h:=by omega
 have hx1:h<((C.ns.length+1:Nat):Int):=by omega
 have hx2:h<(C.ns.length:Int)+1:=by omega
 have HO:=Xqh o1
 clear o1 F h7 h1 h2 h3 h4 h5 HC
 by_cases q:(C.get h).doc=d
 ·have HF:=Xqh (HF.out.trans (if_pos q));have z:((C.get h).doc !=d)=false:=by{simp[q]};clear q;go_wp2;rw[HF.out];exact⟨rfl,_,results_none rfl _ _ _,rfl,HO.out⟩
 ·have HF:=Xqh (HF.out.trans (if_neg q));have z:((C.get h).doc !=d)=true:=by{simp[q]};clear q;go_wp2_with fail;refine(HG.out _ HO.out).mono ?_;rintro e w2⟨rfl,o2⟩;have HO2:=Xqh o2;clear o2;go_wp2;rw[HF.out];exact⟨rfl,_,results_none rfl _ _ _,rfl,HO2.out⟩
theorem XfN :∀(m n:Nat)(A:Ar)(h d:Int),A.Inv->A.has h->(A.get h).Xa≠1->A.has d->(A.get d).Xa=1->(A.Xi h).length<=m->m<=n+1->A.cap d<=100000->∀(w0 w:World)(B b:Nat)(L:List Xf),Own w0 B (.refar b A::L) w->Calls Tryz.prog 247 #[.pointer (some ⟨b,0,none⟩),.int .i64 h,.int .i64 d] w λe w'=>e= .returned (.tuple #[])/\Own w0 B (.refar b ((h::A.below h).foldl (Yf (adoptF n) d) A)::L) w'
 |0,n,A,h,d,hI,hh,_,_,_,hw,_,_,w0,w,B,b,L,o=>by{have:=YL hI hh;omega}
 |m+1,n,A,h,d,hI,hh,hkh,hd,hk,hw,hm,hcap,w0,w,B,b,L,o=>by{obtain⟨nb,c,h0,h1,h2,h3,h4,h5,-,h7⟩:=o.Y9 (b:=b) (A:=A) (by simp);obtain⟨p1,p2,ka,kc,aa,ac,F,-,-,-⟩:=h7 h hh;have c3:=F.c3;have f3:=h5 (h.toNat*13+3);have hx0:(0:Int)<=h:=by{omega};have hx1:h<((A.ns.length+1:Nat):Int):=by{omega};have hx2:h<(A.ns.length:Int)+1:=by{omega};have HST:Hid (Own w0 B (.refar b (A.Xt h d).2::L) (w.setCell ⟨nb,h.toNat*13+3,none⟩ (.int .i64 d))):=Xqh (by rw[Xob hh hd hkh hk];exact o.Xbz (λρ hA=>⟨ρ,hA.field (f:=λx=>{x with doc:=d}) (j:=3) (v:= .int .i64 d) hh h0 (by omega) (λ_ _=>rfl) rfl rfl⟩));have hs:=Xbj A h d;have hkl:(A.get h).Xc.length<=1000000:=((hI.short (by have:=Ar.Yv A d;omega)).get hh).1;have i1:=Ar.Inv.Xt hI h d;have t1:=Ar.Xam A h d;have hh1:=t1.has hh;have hn1:(A.Xt h d).2.ns.length<=1000000:=by{rw[hs.2];have:=Ar.Yv A d;omega};have HKID:=Xqh (λj(hj:j<=(A.get h).Xc.length)=>Xod (n:=n) (m:=m) hI hh hd hk hw hcap hj);have HIH:=Xqh (fun(A':Ar)(h':Int)q1 q2 q3 q4 q5 q6 q8 W q9=>XfN m n A' h' d q1 q2 q3 q4 q5 q6 (by omega) q8 w0 W B b L q9);have HEND:Hid ((h::A.below h).foldl (Yf (adoptF n) d) A=(h::((A.get h).Xc.take (A.get h).Xc.length).flatMap (λk=>k::A.below k)).foldl (Yf (adoptF n) d) A):=Xqh (by rw[List.take_length,<-ZD hI hh]);have HB1:Hid ((h::((A.get h).Xc.take 0).flatMap (λk=>k::A.below k)).foldl (Yf (adoptF n) d) A=Yf (adoptF n) d A h):=Xqh rfl;have HOS:Hid (Yf (adoptF n) d A h=if((A.Xt h d).2.get h).Xg=0 then(A.Xt h d).2 else adoptF n ((A.Xt h d).2.Xq d).2 ((A.Xt h d).2.get h).Xg ((A.Xt h d).2.Xq d).1):=Xqh rfl;have hd1:=t1.has hd;have HNF:=Xqh (λhc=>XeY (n:=m) hI hI (Ar.Tree.refl A) hcap hd hk hh hw hc);have HCK:=Xqh (λhc=>by have e1:=ZL i1 hh1 hc;have e2:=Xoc i1 hh1 hc;have t2:=Ar.Xal (A.Xt h d).2 d;have:=t2.Xa e1.1;rw[e2]at this;exact this);clear o F h7 h1 h2 hI hkh hk hs hw hcap t1;generalize(h::A.below h).foldl (Yf (adoptF n) d) A=RES at*;generalize(A.Xt h d).2=D at*;go_enter Tryz.func247,Tryz.ntmps247;go_upto_region 1 with fail;generalize hWW:World.setCell _ _ _=W1 at HST⊢;clear hWW h0 c3 f3 h3 h4 h5 p1 p2 hx0 hx1 hx2;have o1:=HST.out;obtain⟨nb1,c1,h0,h1,h2,h3,h4,h5,-,h7⟩:=o1.Y9 (b:=b) (A:=D) (by simp);obtain⟨p1,p2,ka1,kc1,aa1,ac1,F,-,-,-⟩:=h7 h hh1;have c11:=F.c11;have hx0:(0:Int)<=h:=by{omega};have hx1:h<((D.ns.length+1:Nat):Int):=by{omega};have hx2:h<(D.ns.length:Int)+1:=by{omega};clear o1 F h7 h1 h2 h3 h4 h5;by_cases hc:(D.get h).Xg=0;(case pos=>have HS:=Xqh (HOS.out.trans (if_pos hc));have z:((D.get h).Xg !=0)=false:=by{simp[hc]};have HO:Hid (Own w0 B (.refar b ((h::((A.get h).Xc.take 0).flatMap (λk=>k::A.below k)).foldl (Yf (adoptF n) d) A)::L) W1):=Xqh (by rw[HB1.out,HS.out];exact HST.out);clear hc HS HOS HNF HCK HB1 HST;go_wp2;go_loopw [7](λi wr=>∃j:Nat,j<=(A.get h).Xc.length/\i= .int .i64 j/\Hid (Own w0 B (.refar b ((h::((A.get h).Xc.take j).flatMap (λk=>k::A.below k)).foldl (Yf (adoptF n) d) A)::L) wr))(λi _=>(A.get h).Xc.length-(intOf i).toNat);(case atStart=>exact⟨0,Nat.zero_le _,rfl,HO⟩);case round=>obtain⟨j,hj,rfl,hO⟩:=hrel;obtain⟨Bj,hB,k1,k2,k3,k4,k5,k6,k7,k8⟩:=HKID.out j hj;rw[hB]at hO;have hO1:=hO.out;obtain⟨nb1,c1,h0,h1,h2,h3,h4,h5,-,h7⟩:=hO1.Y9 (b:=b) (A:=Bj) (by simp);obtain⟨p1,p2,ka1,kc1,aa1,ac1,F,hK,-,-⟩:=h7 h k4;have c2:=F.c2;rw[k5]at c2 hK;have hx0:(0:Int)<=h:=by{omega};have hx1:h<((Bj.ns.length+1:Nat):Int):=by{omega};have hx2:h<(Bj.ns.length:Int)+1:=by{omega};by_cases hlt:j<(A.get h).Xc.length;{obtain⟨k,hkj⟩:∃k,(A.get h).Xc[j]?=some k:=⟨_,List.getElem?_eq_getElem hlt⟩;obtain⟨b',o',rfl,-,hcs⟩:=hK.cells (by omega);have d1:=hcs j k hkj;obtain⟨e1,e2,e3,e4⟩:=k8 k hkj;have HC:=Xqh (HIH.out Bj k k1 e1 e2 k6 k7 e3 k2 wr hO1);rw[e4]at HC;clear hO1 F h7 h1 h2 h3 h4 h5 hK hcs e1 e2 e3 e4 k1 k2 k3 k4 k5 k6 k7 k8 hB hO HKID HIH hkj;go_wp2_with fail;refine HC.out.mono ?_;rintro e w2⟨rfl,o2⟩;have HO2:=Xqh o2;clear o2 HC;go_wp2;go_roundw;(case rel=>exact⟨j+1,hlt,by go_num,HO2⟩);case measure=>simp[intOf];omega};·have hjl:j=(A.get h).Xc.length:=by{omega};have HR:Hid (RES=Bj):=Xqh (by rw[HEND.out,<-hjl,hB]);clear hO1 F h7 h1 h2 h3 h4 h5 hK k1 k2 k3 k4 k5 k6 k7 k8 hB HKID HIH;go_wp2;rw[HR.out];exact⟨rfl,_,results_none rfl _ _ _,rfl,hO.out⟩);case neg=>have HS:=Xqh (HOS.out.trans (if_neg hc));have z:((D.get h).Xg !=0)=true:=by{simp[hc]};obtain⟨n1,n2,n3,n4,n5,n6⟩:=HNF.out hc;have n7:=HCK.out hc;have hcut:=Ar.XC.cut n1 n2;have hpos:=YL hcut ((Ar.X5 _ _ _).2 n2);obtain⟨n',rfl⟩:∃n',n=n'+1:=⟨n-1,by omega⟩;have HIO:=Xqh (HST.out.Jh (λρ hA=>Xe5 D ρ b d W1 hA hn1 hd1));have hsz2:(D.Xq d).2.ns.length<=1000000:=by{have:=Ar.Yv (D.Xq d).2 (D.Xq d).1;omega};have HAD:=Xqh (λW(q:Own w0 B (.refar b (D.Xq d).2::L) W)=>XiR (n:=n') (d:=(D.Xq d).1) n1 hsz2 n2 q (λW' q'=>XfN m n' _ _ _ hcut ((Ar.X5 _ _ _).2 n2) (by rw[Ar.Zc n1 n2 n2];show((D.Xq d).2.get (D.get h).Xg).Xa≠1;rw[n7];decide) ((Ar.X5 _ _ _).2 n3) (by rw[Ar.Zc n1 n2 n3];exact n4) n5 (by omega) (by rw[Ar.Js (Ar.Z2 _ _) (Ar.YY _ _)];exact n6) w0 W' B b L q'));rw[<-HS.out]at HAD;have HT2:Hid ((D.Xq d).2.has h/\((D.Xq d).2.get h).Xg=(D.get h).Xg):=Xqh ⟨(Ar.Xal D d).has hh1,(Ar.Xal D d).Xg hh1⟩;clear hc HS HOS HNF HCK HST n1 n2 n3 n4 n5 n6 n7 hcut hpos;generalize hio:D.Xq d=IO at*;obtain⟨io1,io2⟩:=IO;go_wp2_with fail;refine HIO.out.mono ?_;rintro e w2⟨rfl,o2⟩;have HO2:=Xqh o2;obtain⟨nb2,c2,g0,g1,g2,g3,g4,g5,-,g7⟩:=o2.Y9 (b:=b) (A:=io2) (by simp);obtain⟨t1,t2⟩:=HT2.out;obtain⟨r1,r2,ka2,kc2,aa2,ac2,F,-,-,-⟩:=g7 h t1;have e11:=F.c11;rw[t2]at e11;have hy1:h<((io2.ns.length+1:Nat):Int):=by{omega};have hy2:h<(io2.ns.length:Int)+1:=by{omega};clear o2 F g7 g1 g2 g3 g4 g5 t1 t2 HIO HT2;go_wp2_with fail;refine(HAD.out _ HO2.out).mono ?_;rintro e w3⟨rfl,o3⟩;have HO:Hid (Own w0 B (.refar b ((h::((A.get h).Xc.take 0).flatMap (λk=>k::A.below k)).foldl (Yf (adoptF (n'+1)) d) A)::L) w3):=Xqh (by rw[HB1.out];exact o3);clear o3 HAD HO2 g0 e11 HB1 h0 c11;go_wp2;go_loopw [7](λi wr=>∃j:Nat,j<=(A.get h).Xc.length/\i= .int .i64 j/\Hid (Own w0 B (.refar b ((h::((A.get h).Xc.take j).flatMap (λk=>k::A.below k)).foldl (Yf (adoptF (n'+1)) d) A)::L) wr))(λi _=>(A.get h).Xc.length-(intOf i).toNat);(case atStart=>exact⟨0,Nat.zero_le _,rfl,HO⟩);case round=>obtain⟨j,hj,rfl,hO⟩:=hrel;obtain⟨Bj,hB,k1,k2,k3,k4,k5,k6,k7,k8⟩:=HKID.out j hj;rw[hB]at hO;have hO1:=hO.out;obtain⟨nb1,c1,h0,h1,h2,h3,h4,h5,-,h7⟩:=hO1.Y9 (b:=b) (A:=Bj) (by simp);obtain⟨p1,p2,ka1,kc1,aa1,ac1,F,hK,-,-⟩:=h7 h k4;have c2:=F.c2;rw[k5]at c2 hK;have hx0:(0:Int)<=h:=by{omega};have hx1:h<((Bj.ns.length+1:Nat):Int):=by{omega};have hx2:h<(Bj.ns.length:Int)+1:=by{omega};by_cases hlt:j<(A.get h).Xc.length;{obtain⟨k,hkj⟩:∃k,(A.get h).Xc[j]?=some k:=⟨_,List.getElem?_eq_getElem hlt⟩;obtain⟨b',o',rfl,-,hcs⟩:=hK.cells (by omega);have d1:=hcs j k hkj;obtain⟨e1,e2,e3,e4⟩:=k8 k hkj;have HC:=Xqh (HIH.out Bj k k1 e1 e2 k6 k7 e3 k2 wr hO1);rw[e4]at HC;clear hO1 F h7 h1 h2 h3 h4 h5 hK hcs e1 e2 e3 e4 k1 k2 k3 k4 k5 k6 k7 k8 hB hO HKID HIH hkj;go_wp2_with fail;refine HC.out.mono ?_;rintro e w2⟨rfl,o2⟩;have HO2:=Xqh o2;clear o2 HC;go_wp2;go_roundw;(case rel=>exact⟨j+1,hlt,by go_num,HO2⟩);case measure=>simp[intOf];omega};·have hjl:j=(A.get h).Xc.length:=by{omega};have HR:Hid (RES=Bj):=Xqh (by rw[HEND.out,<-hjl,hB]);clear hO1 F h7 h1 h2 h3 h4 h5 hK k1 k2 k3 k4 k5 k6 k7 k8 hB HKID HIH;go_wp2;rw[HR.out];exact⟨rfl,_,results_none rfl _ _ _,rfl,hO.out⟩}
end
section
open Go.RowKit
theorem Xoe (A:Ar)(ρ:Nat->Nat)(b:Nat)(h:Int)(w:World)(hA:Xx w ρ b A)(hS:A.YC):Calls Tryz.prog 203 #[.pointer (some ⟨b,0,none⟩),.int .i64 h] w λe w'=>Below w.heap.size w w'/\∃v',e= .returned v'/\w'.ownsRow w.heap.size 3 1 v' (A.YN h).length ((A.YN h).map Xp):=by
 obtain⟨i0,hi,hz0,hz1,hz2⟩:=info_parts Xaf
 obtain⟨nb,c,h0,hm,hc,hfn,hnb,HH0,hN⟩:=hA.look
 have HH:=Xqh HH0
 have HI:=Xqh hi
 clear HH0 hfn hi
 by_cases hh:A.has h
 ·have hd2:decide (A.has h)=true:=by{simp[hh]};obtain⟨hp,hq,kv,av,F,hK,-⟩:=hN h hh;have c2:=F.c2;have hfin:A.YN h=(A.get h).Xc:=if_pos hh;have hkl:=(hS.get hh).1;rw[hfin];generalize(A.get h).Xc=ks at*;have HK:=Xqh hK.1;obtain⟨ka,kc,rfl⟩:=X6 hK.1;clear hfin F hN hh hK hA hS;go_enter Tryz.func203,Tryz.ntmps203;go_wp2_with fail;refine(HH.out _ _ h0).mono ?_;rintro e w'⟨rfl,rfl⟩;rw[hd2];go_wp2_with(at_builtin;refine Xcb _ rfl _ _ 41 rfl w.heap.size 3 i0 _ 1 8 Tryz.underlying41 HI.out hz0 hz1 hz2 rfl (by decide) _ _ _ rfl rfl HK.out (XbQ _) hkl (by omega) (Nat.le_refl _) ?_);intro v1 w1 ho1 hg1;have hB1:Below w.heap.size w w1:=(Below.refl w.heap.size w).grown hg1 (Nat.le_refl _) (λk hk=>by simp at hk);have HO:=Xqh (And.intro hB1 ho1);clear ho1 hg1 hB1;go_wp2;go_ret;exact⟨HO.out.1,_,rfl,HO.out.2⟩
 ·have hd2:decide (A.has h)=false:=by{simp[hh]};have hfin:A.YN h= []:=if_neg hh;rw[hfin];clear hfin hN hh hA hS;go_enter Tryz.func203,Tryz.ntmps203;go_wp2_with fail;refine(HH.out _ _ h0).mono ?_;rintro e w'⟨rfl,rfl⟩;rw[hd2];go_wp2;go_ret;exact⟨Below.refl _ _,_,rfl,World.ownsRow_nil _ _ _ _⟩
theorem XdG (o:Own w0 B l w)(hm:Xf.refar b A∈l)(hS:A.YC):Calls Tryz.prog 203 #[.pointer (some ⟨b,0,none⟩),.int .i64 h] w λe w'=>∃a c,e= .returned (.slice a (A.YN h).length c)/\Own w0 B (.ints (.slice a (A.YN h).length c) (A.YN h)::l) w':=by
 obtain⟨ρ,hA⟩:=o.refar hm
 refine(Xoe A ρ b h w hA hS).mono ?_
 rintro e w'⟨hB,v,rfl,ho⟩
 obtain⟨a,c,rfl⟩:=X6 ho
 exact⟨a,c,rfl,o.newRow hB ho⟩
theorem Xof {u:Int}(o:Own w0 B l w)(hm:Xf.refar b A∈l)(hI:A.Inv):Calls Tryz.prog 196 #[.pointer (some ⟨b,0,none⟩),.int .i64 u,.int .i64 h] w λe w'=>e= .returned (.bool (A.contains u h))/\w=w':=let⟨ρ,hA⟩:=o.refar hm;Xe7 A ρ b u h w hA hI.wf
theorem ZG (o:Own w0 B l w)(hm:Xf.refar b A∈l):Calls Tryz.prog 64 #[.pointer (some ⟨b,0,none⟩),.int .i64 h] w λe w'=>e= .returned (.bool (decide (A.has h)))/\w=w':=by
 obtain⟨ρ,hA⟩:=o.refar hm
 obtain⟨nb,c,h0,-,-,-,-,HH,-⟩:=hA.look
 exact HH h w h0
end
section
open Go.RowKit Go.Shelf
theorem XiS {x:Int}(hI:A.Inv)(hx:A.has x)(hkx:(A.get x).Xa≠1)(hd:A.has d)(hk:(A.get d).Xa=1)(hcap:A.cap d<=100000)(o:Own w0 B (.refar b A::L) w):Calls Tryz.prog 233 #[.pointer (some ⟨b,0,none⟩),.int .i64 x,.int .i64 d] w λe w'=>e= .returned (.tuple #[])/\Own w0 B (.refar b (A.YM x d)::L) w':=by
 have hC:=Ar.XC.cut hI hx
 have hxC:=(Ar.X5 A x x).2 hx
 have hl:=Z3 (A:=A.cut x) hC x
 rw[Ar.YY]at hl
 have hp:=YL hC hxC
 obtain⟨n,hn⟩:∃n,A.ns.length=n+1:=⟨A.ns.length-1,by omega⟩
 unfold Ar.YM
 rw[hn]
 refine XiR hI (by have:=Ar.Yv A d;omega) hx o (λW o'=>?_)
 exact XfN _ n _ _ _ hC hxC (by rw[Ar.Zc hI hx hx];exact hkx) ((Ar.X5 _ _ _).2 hd) (by rw[Ar.Zc hI hx hd];exact hk) (Nat.le_refl _) (by omega) (by rw[Ar.Js (Ar.Z2 _ _) (Ar.YY _ _)];exact hcap) w0 W B b L o'
theorem Xog (o:Own w0 B l w)(hm:Xf.refar b A∈l)(hS:A.YC)(hh:A.has h):Calls Tryz.prog 246 #[.pointer (some ⟨b,0,none⟩),.int .i64 h] w λe w'=>∃a c,e= .returned (.slice a (A.X7 h).length c)/\Own w0 B (.ints (.slice a (A.X7 h).length c) (A.X7 h)::l) w':=by
 obtain⟨nb,c,h0,h1,h2,h3,h4,h5,-,h7⟩:=o.Y9 hm
 obtain⟨p1,p2,ka,kc,aa,ac,F,-,-,-⟩:=h7 h hh
 have c0:=F.c0
 have hx0:(0:Int)<=h:=by omega
 have hx1:h<((A.ns.length+1:Nat):Int):=by omega
 have hx2:h<(A.ns.length:Int)+1:=by omega
 have hko:A.YN h=(A.get h).Xc:=if_pos hh
 have HK:=Xqh (XdG (h:=h) o hm hS)
 have HO:=Xqh o
 clear h1 h2 h3 h4 h5 h7 F hm hS o
 by_cases hk:(A.get h).Xa=2
 ·have hn:A.X7 h=A.YN h:=by{unfold Ar.X7;rw[if_pos hk,hko]};rw[hn];rw[hk]at c0;clear hn hko hk hh;go_enter Tryz.func246,Tryz.ntmps246;go_wp2_with fail;refine HK.out.mono ?_;rintro e w2⟨a,c,rfl,o2⟩;have HO:=Xqh o2;clear o2 HK;go_wp2;go_ret;exact⟨a,c,rfl,HO.out⟩
 ·have hn:A.X7 h= [h]:=by{unfold Ar.X7;rw[if_neg hk]};rw[hn];have hk':((A.get h).Xa==2)=false:=by{simp[hk]};generalize(A.get h).Xa=kk at*;have HO1:=Xqh (Xg3 HO.out h);clear hn hko hk hh HO HK;go_enter Tryz.func246,Tryz.ntmps246;go_wp2;go_ret;exact⟨_,_,rfl,HO1.out⟩
theorem Xoh (hI:A.Inv)(hh:A.has h):A.next h=if(A.get h).Xd=0 then 0 else(Yl (A.get (A.get h).Xd).Xc h).2.head?.getD 0:=by
 by_cases hp:(A.get h).Xd=0
 ·rw[if_pos hp];unfold Ar.next;have:A.index h= -1:=by{unfold Ar.index;rw[if_neg (by simp[hp])]};rw[this,if_neg (by omega)]
 ·rw[if_neg hp];obtain⟨i,h1,h2,h3⟩:=XeT hI hh hp;have e:Yt (λy=>decide (y=h)) (A.get (A.get h).Xd).Xc=i:=by{unfold Ar.index at h1;rw[if_pos ⟨hh,hp⟩]at h1;exact h1};unfold Ar.next Yl;rw[h1,e,if_neg (show¬((i:Int)<0)by omega),Int.toNat_natCast];show _=((A.get (A.get h).Xd).Xc.drop (i+1)).head?.getD 0;rw[List.head?_drop];by_cases q:i+1<(A.get (A.get h).Xd).Xc.length;{rw[if_pos ⟨by omega,by omega⟩,show((i:Int)+1).toNat=i+1 by(omega)]};·rw[if_neg (λz=>q (by omega)),List.getElem?_eq_none (by omega)];rfl
theorem XdH (o:Own w0 B l w)(hm:Xf.refar b A∈l)(hI:A.Inv)(hS:A.YC)(hh:A.has h):Calls Tryz.prog 229 #[.pointer (some ⟨b,0,none⟩),.int .i64 h] w λe w'=>e= .returned (.int .i64 (A.next h))/\Own w0 B l w':=by
 obtain⟨nb,c,h0,h1,h2,h3,h4,h5,-,h7⟩:=o.Y9 hm
 obtain⟨p1,p2,ka,kc,aa,ac,F,-,-,-⟩:=h7 h hh
 have c1:=F.c1
 have hx0:(0:Int)<=h:=by omega
 have hx1:h<((A.ns.length+1:Nat):Int):=by omega
 have hx2:h<(A.ns.length:Int)+1:=by omega
 have HN:=Xqh (Xoh hI hh)
 have hpar:(A.get h).Xd≠0->A.has (A.get h).Xd:=λq=>(hI.wf.link h hh q).1
 obtain⟨ρ,hA⟩:=o.refar hm
 have HAR:=Xqh (λq=>XfL (c:=h) hA (hpar q) (hS.get (hpar q)).1)
 have HO:=Xqh o
 have HL:Hid (∀q:(A.get h).Xd≠0,(Yl (A.get (A.get h).Xd).Xc h).2.length<=1000000):=Xqh (λq=>Nat.le_trans (XfM _ _).2.2.2 (hS.get (hpar q)).1)
 clear o hm hI hS hh F h7 h1 h2 h3 h4 h5 hpar hA
 generalize A.next h=R at*
 by_cases hp:(A.get h).Xd=0
 ·have HN:=Xqh (HN.out.trans (if_pos hp));have z:((A.get h).Xd==0)=true:=by{simp[hp]};clear HAR HL hp;go_enter Tryz.func229,Tryz.ntmps229;go_wp2;go_ret;exact⟨by rw[HN.out];try rfl,HO.out⟩
 ·have HN:=Xqh (HN.out.trans (if_neg hp));have z:((A.get h).Xd==0)=false:=by{simp[hp]};have HAR:=Xqh (HAR.out hp);have hle:=HL.out hp;clear hp HL;generalize(A.get h).Xd=p at*;generalize(Yl (A.get p).Xc h).1=L1 at*;generalize(Yl (A.get p).Xc h).2=L2 at*;go_enter Tryz.func229,Tryz.ntmps229;go_wp2_with fail;refine HAR.out.mono ?_;rintro e w1⟨va,vb,rfl,⟨m1,rfl⟩,-,i2⟩;have HO1:=Xqh (HO.out.read (Below.drewN (Below.refl _ w) m1));have HI:=Xqh i2;obtain⟨la,lc,rfl,g1,g2,-⟩:=i2.form;clear i2 HAR g2 HO;cases L2 with|nil=>{go_wp2;go_ret;exact⟨by rw[HN.out];try rfl,HO1.out⟩}|cons x L3=>obtain⟨b',o',rfl,-,hcs⟩:=HI.out.cells (by simp);have d1:=hcs 0 x rfl;rw[Nat.add_zero]at d1;have z2:(((x::L3).length:Int)==0)=false:=by{rw[beq_eq_false_iff_ne];simp only[List.length_cons];omega};have z3:(0:Int)<((x::L3).length:Int):=by{simp only[List.length_cons];omega};clear hcs HI;generalize(x::L3).length=n3 at*;go_wp2;go_ret;exact⟨by rw[HN.out];try rfl,HO1.out⟩
theorem XfO (hI:A.Inv)(hp:A.has p)(hn:A.has n)(hkn:(A.get n).Xa≠1)(hs:A.ns.length+1<=100000)(hdoc:∀k,k<=(A.X7 n).length->(((A.X7 n).take k|>.foldl (Yd (A.get p).doc p c) A).get p).doc=(A.get p).doc)(o:Own w0 B (.refar b A::L) w):Calls Tryz.prog 230 #[.pointer (some ⟨b,0,none⟩),.int .i64 p,.int .i64 n,.int .i64 c] w λe w'=>e= .returned (.tuple #[])/\Own w0 B (.refar b (A.YD p n c)::L) w':=by
 obtain⟨d1,d2⟩:=hI.ZV p hp
 obtain⟨nd,hnd⟩:∃nd,A.get p=nd:=⟨_,rfl⟩
 have hS:=hI.short (by omega)
 have hle:=Xg9 hI hn
 have hcap:A.cap nd.doc<=100000:=Nat.le_trans (Ar.Jk A nd.doc) hs
 have HST:Hid (∀k,k<=(A.X7 n).length->((A.X7 n).take k|>.foldl (Yd nd.doc p c) A).Inv/\((A.X7 n).take k|>.foldl (Yd nd.doc p c) A).cap nd.doc=A.cap nd.doc/\(∀y,A.has y->((A.X7 n).take k|>.foldl (Yd nd.doc p c) A).has y/\(((A.X7 n).take k|>.foldl (Yd nd.doc p c) A).get y).Xa=(A.get y).Xa)):=Xqh (λk hk=>Xes (by rw[<-hnd];exact d1) (by rw[<-hnd];exact d2) hI (λx hx=>XbX hI hn x (List.mem_of_mem_take hx)))
 have HNH:=Xqh (XbX hI hn)
 have HNK:Hid (∀x∈A.X7 n,(A.get x).Xa≠1):=Xqh (λx hx=>by unfold Ar.X7 at hx;split at hx;{obtain⟨q1,q2,q3⟩:=XF hI hn hx;exact(hI.par x q1 (by rw[q3];exact Xa6 hn)).1};·simp at hx;rw[hx];exact hkn)
 have HDD:Hid (A.has nd.doc/\(A.get nd.doc).Xa=1):=Xqh (by rw[<-hnd];exact⟨d1,d2⟩)
 have HIN:Hid (A.YD p n c=(A.X7 n).foldl (Yd nd.doc p c) A):=Xqh (by unfold Ar.YD;rw[hnd])
 have HPP:=Xqh hp
 rw[hnd]at hdoc
 have HDOC:=Xqh hdoc
 have HN:=Xqh (Xog (b:=b) (A:=A) o (by simp) hS hn)
 clear o hI hp hn hnd d1 d2 hkn hS hdoc
 go_enter Tryz.func230,Tryz.ntmps230
 go_wp2_with fail
 refine HN.out.mono ?_
 rintro e w2⟨va,vc,rfl,o2⟩
 clear HN
 generalize A.X7 n=l at*
 have HO2:=Xqh o2.swap
 clear o2
 go_wp2
 go_loopw [9](λi wr=>∃k:Nat,k<=l.length/\i= .int .i64 k/\Hid (Own w0 B (.refar b ((l.take k).foldl (Yd nd.doc p c) A):: .ints (.slice va l.length vc) l::L) wr))(λi _=>l.length-(intOf i).toNat)
 case atStart=>exact⟨0,Nat.zero_le _,rfl,HO2⟩
 case round=>obtain⟨k,hk,rfl,hT⟩:=hrel;by_cases hlt:k<l.length;{obtain⟨x,hx⟩:∃x,l[k]?=some x:=⟨_,List.getElem?_eq_getElem hlt⟩;have hri:Xy wr (.slice va l.length vc) l:=hT.out.ints (by simp);obtain⟨b1,o1,rfl,-,hcs⟩:=hri.cells (by omega);have c1:=hcs k x hx;obtain⟨f1,f2,f3⟩:=HST.out k (by omega);have HX:=Xqh (Xar (Yd nd.doc p c) A hx);obtain⟨x1,x2⟩:=f3 x (HNH.out x (List.mem_of_getElem? hx));have x3:=HNK.out x (List.mem_of_getElem? hx);obtain⟨y1,y2⟩:=f3 nd.doc HDD.out.1;obtain⟨z1,z2⟩:=f3 p HPP.out;have z3:=HDOC.out k (by omega);generalize(l.take k).foldl (Yd nd.doc p c) A=A1 at*;obtain⟨nb,cc,h0,h1,h2,h3,h4,h5,-,h7⟩:=hT.out.Y9 (b:=b) (A:=A1) (by simp);obtain⟨p1,p2,ka,kc,aa,ac,F,-,-,-⟩:=h7 p z1;have c3:=F.c3;rw[z3]at c3;have hx0:(0:Int)<=p:=by{omega};have hx1:p<((A1.ns.length+1:Nat):Int):=by{omega};have hx2:p<(A1.ns.length:Int)+1:=by{omega};have HC:=Xqh (λm=>XiS f1 x1 (by rw[x2];exact x3) y1 (y2.trans HDD.out.2) (by rw[f2];exact hcap) (hT.out.read (Below.drewN (Below.refl _ wr) m)));obtain⟨g1,g2,g3⟩:=Xbk f1 x1 y1 (y2.trans HDD.out.2);have hsz:(A1.YM x nd.doc).ns.length<=1000000:=by{have:=Ar.Yv (A1.YM x nd.doc) nd.doc;omega};have HP:=Xqh (λW(q:Own w0 B (.refar b (A1.YM x nd.doc):: .ints (.slice (some ⟨b1,o1,none⟩) l.length vc) l::L) W)=>q.Jh (λρ hA=>Xca _ ρ b p x c W hA g1.wf hsz));have hps:Hid (((A1.YM x nd.doc).put p x c).2=Yd nd.doc p c A1 x):=Xqh rfl;have HXK:=Xqh hx;clear hri hcs hx f1 f2 f3 x1 x2 x3 y1 y2 z1 z2 z3 g1 g2 g3 hT hsz F h7 h1 h2 h3 h4 h5;go_upto_region 4 with fail;go_cut []from 19 to 32(λwx=>Hid (Own w0 B (.refar b (A1.YM x nd.doc):: .ints (.slice (some ⟨b1,o1,none⟩) l.length vc) l::L) wx));(case first=>go_region_with(refine(HC.out _).mono ?_;rintro e w3⟨rfl,o3⟩);all_goals have HO3:=Xqh o3;go_wp2_with fail;go_meet;exact HO3);case rest=>have HP3:=Xqh (HP.out _ hcut.out);have hri:Xy wc (.slice (some ⟨b1,o1,none⟩) l.length vc) l:=hcut.out.ints (by simp);have e9:=hri.cellA HXK.out;clear h0 c3 c1 hri hcut HC HP HXK;go_wp2_with fail;refine HP3.out.mono ?_;rintro e w4⟨rfl,o4⟩;rw[hps.out,<-HX.out]at o4;have HO4:=Xqh o4;clear o4 HP3 e9;go_wp2;go_roundw;(case rel=>exact⟨k+1,hlt,by go_num,HO4⟩);case measure=>simp[intOf];omega};·have hkl:l.take k=l:=List.take_of_length_le (by omega);have o4:=hT.out;rw[hkl,<-HIN.out]at o4;have HO4:=Xqh o4;clear o4 hT hkl;go_wp2;go_end0;exact⟨rfl,HO4.out.swap.drop⟩
end
section
open Go.RowKit Go.Shelf
theorem XiT {r:Bool}(o:Own w0 B l w)(hm:Xf.refar b A∈l)(hI:A.Inv)(hsz:A.ns.length<=1000000)(hp:A.has p)(hn:A.has n)(hc:c≠0->A.has c)(hr:r=true->A.has c):Calls Tryz.prog 128 #[.pointer (some ⟨b,0,none⟩),.int .i64 p,.int .i64 n,.int .i64 c,.bool r] w λe w'=>e= .returned (.int .i64 (A.Ya p n c r))/\Own w0 B l w':=by
 obtain⟨ρ,hA⟩:=o.refar hm
 refine(Xoa hA hI hsz hp hn hc hr).mono ?_
 rintro e w'⟨rfl,hB⟩
 exact⟨rfl,o.read hB⟩
theorem XiU (o:Own w0 B l w)(hm:Xf.refar b A∈l)(hI:A.Inv)(hsz:A.ns.length<=1000000):Calls Tryz.prog 45 #[.pointer (some ⟨b,0,none⟩),.int .i64 p,.int .i64 n,.int .i64 c] w λe w'=>e= .returned (.int .i64 (A.Y4 p n c))/\Own w0 B l w':=by
 have HP:=Xqh (ZG (h:=p) o hm)
 have HN:=Xqh (ZG (h:=n) o hm)
 have HC:=Xqh (ZG (h:=c) o hm)
 have HR:=Xqh (λhp hn hc=>XiT (p:=p) (n:=n) (c:=c) (r:=false) o hm hI hsz hp hn hc (λq=>by cases q))
 have HV:Hid (A.Y4 p n c=if A.has p/\A.has n/\(c≠0->A.has c)then A.Ya p n c false else 3):=Xqh rfl
 have HO:=Xqh o
 clear o hm hI hsz
 generalize A.Y4 p n c=V at*
 generalize A.Ya p n c false=R at*
 by_cases hp:A.has p
 case neg=>have HV:=Xqh (HV.out.trans (if_neg (λq=>hp q.1)));rw[decide_eq_false hp]at HP;clear HR HN HC;go_enter Tryz.func45,Tryz.ntmps45;go_wp2_with fail;refine HP.out.mono ?_;rintro e w1⟨rfl,rfl⟩;go_wp2;go_ret;exact⟨by rw[HV.out];try rfl,HO.out⟩
 case pos=>rw[decide_eq_true hp]at HP;by_cases hn:A.has n;(case neg=>have HV:=Xqh (HV.out.trans (if_neg (λq=>hn q.2.1)));rw[decide_eq_false hn]at HN;clear HR HC;go_enter Tryz.func45,Tryz.ntmps45;go_wp2_with fail;refine HP.out.mono ?_;rintro e w1⟨rfl,rfl⟩;go_wp2_with fail;refine HN.out.mono ?_;rintro e w1⟨rfl,rfl⟩;go_wp2;go_ret;exact⟨by rw[HV.out];try rfl,HO.out⟩);case pos=>rw[decide_eq_true hn]at HN;by_cases hc0:c=0;(case pos=>have HV:=Xqh (HV.out.trans (if_pos ⟨hp,hn,λq=>absurd hc0 q⟩));have HR:=Xqh (HR.out hp hn (λq=>absurd hc0 q));have z:(c !=0)=false:=by{simp[hc0]};clear HC hp hn hc0;go_enter Tryz.func45,Tryz.ntmps45;go_wp2_with fail;refine HP.out.mono ?_;rintro e w1⟨rfl,rfl⟩;go_wp2_with fail;refine HN.out.mono ?_;rintro e w1⟨rfl,rfl⟩;go_wp2_with fail;refine HR.out.mono ?_;rintro e w1⟨rfl,o1⟩;have HO1:=Xqh o1;clear o1;go_wp2;go_ret;exact⟨by rw[HV.out];try rfl,HO1.out⟩);case neg=>have z:(c !=0)=true:=by{simp[hc0]};by_cases hc:A.has c;(case neg=>have HV:=Xqh (HV.out.trans (if_neg (λq=>hc (q.2.2 hc0))));rw[decide_eq_false hc]at HC;clear HR hp hn hc0;go_enter Tryz.func45,Tryz.ntmps45;go_wp2_with fail;refine HP.out.mono ?_;rintro e w1⟨rfl,rfl⟩;go_wp2_with fail;refine HN.out.mono ?_;rintro e w1⟨rfl,rfl⟩;go_wp2_with fail;refine HC.out.mono ?_;rintro e w1⟨rfl,rfl⟩;go_wp2;go_ret;exact⟨by rw[HV.out];try rfl,HO.out⟩);case pos=>rw[decide_eq_true hc]at HC;have HV:=Xqh (HV.out.trans (if_pos ⟨hp,hn,λ_=>hc⟩));have HR:=Xqh (HR.out hp hn (λ_=>hc));clear hp hn hc0 hc;go_enter Tryz.func45,Tryz.ntmps45;go_wp2_with fail;refine HP.out.mono ?_;rintro e w1⟨rfl,rfl⟩;go_wp2_with fail;refine HN.out.mono ?_;rintro e w1⟨rfl,rfl⟩;go_wp2_with fail;refine HC.out.mono ?_;rintro e w1⟨rfl,rfl⟩;go_wp2_with fail;refine HR.out.mono ?_;rintro e w1⟨rfl,o1⟩;have HO1:=Xqh o1;clear o1;go_wp2;go_ret;exact⟨by rw[HV.out];try rfl,HO1.out⟩
theorem XiV (hI:A.Inv)(hs:A.ns.length+1<=100000)(o:Own w0 B (.refar b A::L) w):Calls Tryz.prog 184 #[.pointer (some ⟨b,0,none⟩),.int .i64 p,.int .i64 n,.int .i64 c] w λe w'=>e= .returned (.int .i64 (A.XX p n c).1)/\Own w0 B (.refar b (A.XX p n c).2::L) w':=by
 have HV:=Xqh (XiU (p:=p) (n:=n) (c:=c) o (b:=b) (A:=A) (by simp) hI (by omega))
 have HF:Hid (A.XX p n c=if A.Y4 p n c≠0 then(A.Y4 p n c,A)else(0,A.YD p n (if c=n then A.next n else c))):=Xqh rfl
 have hS:=hI.short (by omega)
 by_cases hv:A.Y4 p n c=0
 case neg=>replace HF:=Xqh (HF.out.trans (if_pos hv));have z:(A.Y4 p n c !=0)=true:=by{simp[hv]};clear hv hI hS o;generalize A.XX p n c=G at*;generalize A.Y4 p n c=V at*;go_enter Tryz.func184,Tryz.ntmps184;go_wp2_with fail;refine HV.out.mono ?_;rintro e w1⟨rfl,o1⟩;have HO1:=Xqh o1;clear o1;go_wp2;go_ret;rw[HF.out];exact⟨rfl,HO1.out⟩
 case pos=>replace HF:=Xqh (HF.out.trans (if_neg (λq=>q hv)));obtain⟨hp,hn,hkn,hd⟩:=XnV hI hv;rw[hv]at HV;have HPUT:=Xqh (λW(q:Own w0 B (.refar b A::L) W)=>XfO hI hp hn hkn hs (λk _=>hd k) q);have HNX:=Xqh (λW(q:Own w0 B (.refar b A::L) W)=>XdH (b:=b) (A:=A) (h:=n) q (by simp) hI hS hn);clear hv hd hI hp hn hkn hS o;generalize A.XX p n c=G at*;by_cases e:c=n;{subst e;rw[if_pos rfl]at HF HPUT;generalize A.next c=nx at*;generalize A.YD p c nx=R at*;go_enter Tryz.func184,Tryz.ntmps184;go_wp2_with fail;refine HV.out.mono ?_;rintro e w1⟨rfl,o1⟩;have H1:=Xqh (HNX.out _ o1);clear o1 HNX HV;go_wp2_with fail;refine H1.out.mono ?_;rintro e w2⟨rfl,o2⟩;have H2:=Xqh (HPUT.out _ o2);clear o2 HPUT H1;go_wp2_with fail;refine H2.out.mono ?_;rintro e w3⟨rfl,o3⟩;have HO3:=Xqh o3;clear o3 H2;go_wp2;go_ret;rw[HF.out];exact⟨rfl,HO3.out⟩};·rw[if_neg e]at HF HPUT;have z:(c==n)=false:=by{simp[e]};clear HNX e;generalize A.YD p n c=R at*;go_enter Tryz.func184,Tryz.ntmps184;go_wp2_with fail;refine HV.out.mono ?_;rintro e w1⟨rfl,o1⟩;have H2:=Xqh (HPUT.out _ o1);clear o1 HPUT HV;go_wp2_with fail;refine H2.out.mono ?_;rintro e w3⟨rfl,o3⟩;have HO3:=Xqh o3;clear o3 H2;go_wp2;go_ret;rw[HF.out];exact⟨rfl,HO3.out⟩
end
end Go.Proofs.YtpicinjcmjaogaaGreat
