import Derived.Deep.CutRange
import Derived.Test.YtpicinjcmjaogaaGreatY39
set_option maxRecDepth 100000
set_option maxHeartbeats 4000000
set_option linter.unusedVariables false
namespace Go.Proofs.YtpicinjcmjaogaaGreat
variable{w0 w:World}{B b bf m:Nat}{l L:List Xf}{A C:Ar}{x:Int}
section
open Go.RowKit Go.Shelf
theorem Xox (A:Ar)(ρ:Nat->Nat)(b:Nat)(d:Int)(w:World)(hA:Xx w ρ b A)(hh:A.has d)(hz:A.Xu d≠0):Calls Tryz.prog 107 #[.pointer (some ⟨b,0,none⟩),.int .i64 d] w λe w'=>e= .returned (.int .i64 (A.Xu d))/\w'=w:=by
 obtain⟨nb,c,ib,ic,h0,h1,hf,hlt,hm,hc,hic,hnb,hib,-,-,-,-,hI,-,-⟩:=hA.head
 have hp:=hh.1
 have hq:=hh.2
 unfold Ar.n at hq
 have e0:=hI d (by omega) hh.2
 have hz1:(A.Xu d==0)=false:=by simp[hz]
 clear hI hf hA hz
 go_enter Tryz.func107,Tryz.ntmps107
 go_wp2
 go_ret
 exact⟨rfl,rfl⟩
theorem XdJ {n:Nd}{kv av:Value}(o:Own w0 B l w)(hk:w.ownsRow 0 3 1 kv n.Xc.length (n.Xc.map Xp))(ha:w.ownsRow 0 132 3 av n.Xb.length (n.Xb.flatMap Xv))(hs1:n.Xc.length<=1000000)(hs2:n.Xb.length<=1000000):Calls Tryz.prog 171 #[.agg (n.cells kv av).toArray] w λe w'=>∃ka kc aa ac,e= .returned (.agg (n.cells (.slice ka n.Xc.length kc) (.slice aa n.Xb.length ac)).toArray)/\Own w0 B (.ints (.slice ka n.Xc.length kc) n.Xc:: .atts (.slice aa n.Xb.length ac) n.Xb::l) w':=by
 refine(Xhw n kv av w hk ha hs1 hs2).mono ?_
 rintro e w'⟨hB,kv',av',rfl,h1,h2⟩
 have hap:=Xex h1 h2 (by decide)
 have hb1:=Yx h1
 have hb2:=Yx h2
 obtain⟨ka,kc,rfl⟩:=X6 h1
 obtain⟨aa,ac,rfl⟩:=X6 h2
 exact⟨ka,kc,aa,ac,rfl,o.Xh5 hB ⟨_,_,⟨YP h1 (Nat.zero_le _),λ_=>Iff.rfl⟩,⟨YP h2 (Nat.zero_le _),λ_=>Iff.rfl⟩,λk hk=>(hb1 k hk).1,λk hk=>(hb2 k hk).1,hap⟩⟩
theorem Own.XaB (o:Own w0 B l w)(hm:Xf.refar b A∈l)(hx:A.has x):∃nb c,w.cell? ⟨b,0,none⟩=some (.slice (some ⟨nb,0,none⟩) (A.ns.length+1) c)/\0<=x/\x<((A.ns.length+1:Nat):Int)/\x<(A.ns.length:Int)+1/\∃ka kc aa ac,YB w nb (x.toNat*13) (A.get x) (.slice ka (A.get x).Xc.length kc) (.slice aa (A.get x).Xb.length ac)/\w.ownsRow 0 3 1 (.slice ka (A.get x).Xc.length kc) (A.get x).Xc.length ((A.get x).Xc.map Xp)/\w.ownsRow 0 132 3 (.slice aa (A.get x).Xb.length ac) (A.get x).Xb.length ((A.get x).Xb.flatMap Xv):=by
 obtain⟨ρ,hA⟩:=o.refar hm
 obtain⟨nb,c,h0,h1,h2,h3,h4,h5,h6⟩:=hA.look
 obtain⟨p1,p2,kv,av,F,hK,hAt⟩:=h6 x hx
 obtain⟨ka,kc,rfl⟩:=X6 hK.1
 obtain⟨aa,ac,rfl⟩:=X6 hAt.1
 exact⟨nb,c,h0,by omega,by omega,by omega,ka,kc,aa,ac,F,hK.1,hAt.1⟩
/-- The arena that is copied from: the same one, or another thing. -/
def Jz (C : Ar) (b bf : Nat) (A : Ar) (L : List Xf) : Prop := (bf = b /\ Emb C A) \/ Xf.refar bf C ∈ L
theorem Jz.at' (s:Jz C b bf A L)(hA:A.Inv)(hC:C.Inv)(hAs:A.ns.length<=300000)(hCs:C.ns.length<=300000)(hx:C.has x):∃C',Xf.refar bf C'∈Xf.refar b A::L/\C'.Inv/\C'.ns.length<=300000/\C'.has x/\C'.get x=C.get x:=by
 rcases s with⟨rfl,h⟩|h
 ·exact⟨A,by simp,hA,hAs,(h x hx).1,(h x hx).2⟩
 ·exact⟨C,by simp[h],hC,hCs,hx,rfl⟩
theorem Jz.grow {B:Ar}{L':List Xf}(s:Jz C b bf A L)(hE:∀x,A.has x->B.has x/\B.get x=A.get x)(hL:∀a∈L,a∈L'):Jz C b bf B L':=by
 rcases s with⟨rfl,h⟩|h
 ·exact .inl ⟨rfl,λx hx=>⟨(hE x (h x hx).1).1,(hE x (h x hx).1).2.trans (h x hx).2⟩⟩
 ·exact .inr (hL _ h)
/-- The contract of Copy, with fuel. -/
def XbB (C : Ar) (b bf m : Nat) : Prop := ∀ (deep : Bool) (A : Ar) (d h : Int) (L : List Xf) (w0 w : World) (B : Nat), A.Inv -> A.has d -> (A.get d).Xa = 1 -> C.has h -> (C.Xi h).length <= m ->
  (if (C.get h).Xa = 1 then A.ns.length + 2 else A.cap d) + (C.Xi h).length + 2 <= 300000 -> Jz C b bf A L -> Own w0 B (.refar b A :: L) w ->
    Calls Tryz.prog 145 #[.pointer (some ⟨b, 0, none⟩), .int .i64 d, .pointer (some ⟨bf, 0, none⟩), .int .i64 h, .bool deep] w λe w' => e = .returned (.int .i64 (dupF C deep m A d h).1) /\ Own w0 B (.refar b (dupF C deep m A d h).2 :: L) w'
theorem XdK {A2:Ar}(hC:C.Inv)(ih:XbB C b bf m){d c:Int}{X:Nat}(hI:Yr A A2 d X)(hc:¬A.has c)(hcB:A2.has c)(ks:List Int)(hck:ks≠ []->(A2.get c).Xa=1\/(A2.get c).Xa=2\/(A2.get c).Xa=4)(hk:∀k∈ks,C.has k/\(C.get k).Xa≠1/\(C.get k).Xa≠2/\(C.Xi k).length<=m)(hX:X+(ks.flatMap C.Xi).length+2<=300000)(hsrc:Jz C b bf A L):∃(st:Nat->Ar)(yv:Nat->Int->Int)(ya:Nat->Int->Ar),st 0=A2/\st ks.length=ks.foldl (XP (λB k=>dupF C true m B d k) c) A2/\(∀i,i<=ks.length->A2.KI (st i)/\∀y,A2.has y->(st i).has y)/\(∀i x,ks[i]?=some x->∀y,A2.has y->(ya i x).has y/\((ya i x).get y).Xg=(A2.get y).Xg)/\(∀i x,ks[i]?=some x->∀(w0:World)(B:Nat)(L':List Xf)(W:World),(∀a∈L,a∈L')->Own w0 B (.refar b (st i)::L') W->Calls Tryz.prog 145 #[.pointer (some ⟨b,0,none⟩),.int .i64 d,.pointer (some ⟨bf,0,none⟩),.int .i64 x,.bool true] W λe w'=>e= .returned (.int .i64 (yv i x))/\Own w0 B (.refar b (ya i x)::L') w')/\(∀i x,ks[i]?=some x->∀(w0:World)(B:Nat)(L':List Xf)(W:World),Own w0 B (.refar b (ya i x)::L') W->Calls Tryz.prog 204 #[.pointer (some ⟨b,0,none⟩),.int .i64 c,.int .i64 (yv i x),.int .i64 0] W λe w'=>(∃v,e= .returned (.int .i64 v))/\Own w0 B (.refar b (st (i+1))::L') w'):=by
 have hf:=Yr.fold hC hI hc hcB ks hck hk
 have hko:=λi=>Xmd (c:=c) (m:=m) hC hI.inv hI.has hI.Xa ks hk i
 have hfo:=λi=>Xbv hC (rec:=λB k=>dupF C true m B d k) (d:=d) (c:=c) (ks.take i) (B:=A2) (λB' k' hk' hB hd hkd=>(let h:=hk k' (List.mem_of_mem_take hk');Xaw hC m hB hd hkd h.1 h.2.1 h.2.2.2)) (λk' hk'=>(let h:=hk k' (List.mem_of_mem_take hk');⟨h.2.1,h.2.2.1⟩)) hI.inv hI.has hI.Xa hcB (λq=>hck (λe=>q (by rw[e];simp)))
 refine⟨λi=>(ks.take i).foldl (XP (λB k=>dupF C true m B d k) c) A2,λi x=>(dupF C true m ((ks.take i).foldl (XP (λB k=>dupF C true m B d k) c) A2) d x).1,λi x=>(dupF C true m ((ks.take i).foldl (XP (λB k=>dupF C true m B d k) c) A2) d x).2,rfl,by show(ks.take ks.length).foldl _ _=_;rw[List.take_length],?_,?_,?_,?_⟩
 ·intro i hi;obtain⟨K2,S⟩:=hfo i;exact⟨hko i,λy hy=>(S.old y hy).1⟩
 ·intro i x hx y hy;have hi:i<=ks.length:=by{have:=(List.getElem?_eq_some_iff.1 hx).1;omega};obtain⟨f1,-,-,-⟩:=hf i hi;obtain⟨k1,k2,k3,k4⟩:=hk x (List.mem_of_getElem? hx);obtain⟨K2,S⟩:=hfo i;obtain⟨s1,s2⟩:=S.old y hy;obtain⟨t1,t2⟩:=(Xaw hC m f1.inv f1.has f1.Xa k1 k2 k4).old y s1;exact⟨t1,by rw[t2,s2]⟩
 ·intro i x hx w0 B L' W hL q;have hi:i<=ks.length:=by{have:=(List.getElem?_eq_some_iff.1 hx).1;omega};obtain⟨f1,-,-,-⟩:=hf i hi;obtain⟨k1,k2,k3,k4⟩:=hk x (List.mem_of_getElem? hx);have hfl:=Xch (C:=C) hx;have hcap:=f1.cap;refine ih true _ d x L' w0 W B f1.inv f1.has f1.Xa k1 k4 (by rw[if_neg k2];omega) (hsrc.grow f1.old hL) q
 ·intro i x hx w0 B L' W q;have hi:i<=ks.length:=by{have:=(List.getElem?_eq_some_iff.1 hx).1;omega};obtain⟨f1,-,-,-⟩:=hf i hi;obtain⟨k1,k2,k3,k4⟩:=hk x (List.mem_of_getElem? hx);have hfl:=Xch (C:=C) hx;have hcap:=f1.cap;obtain⟨g1,g2⟩:=Jf hC m true f1.inv f1.has f1.Xa k1 k2 k4;have hst:(ks.take (i+1)).foldl (XP (λB k=>dupF C true m B d k) c) A2=XP (λB k=>dupF C true m B d k) c ((ks.take i).foldl (XP (λB k=>dupF C true m B d k) c) A2) x:=Xar _ _ hx;have hsz:=Ar.Yv (dupF C true m ((ks.take i).foldl (XP (λB k=>dupF C true m B d k) c) A2) d x).2 d;have hle:(dupF C true m ((ks.take i).foldl (XP (λB k=>dupF C true m B d k) c) A2) d x).2.ns.length<=1000000:=by{omega};dsimp only;rw[hst];refine(q.Jh (λρ hA=>Xca _ ρ b c (dupF C true m ((ks.take i).foldl (XP (λB k=>dupF C true m B d k) c) A2) d x).1 0 W hA g1.inv.wf hle)).mono ?_;rintro e w'⟨h1,h2⟩;exact⟨⟨_,h1⟩,h2⟩
theorem Xoy (hC:C.Inv)(hCs:C.ns.length<=300000)(ih:XbB C b bf m)(A:Ar)(d h:Int)(L:List Xf)(w0 w:World)(B:Nat)(hA:A.Inv)(hd:A.has d)(hk:(A.get d).Xa=1)(hh:C.has h)(hw:(C.Xi h).length<=m+1)(hsz:(if(C.get h).Xa=1 then A.ns.length+2 else A.cap d)+(C.Xi h).length+2<=300000)(hsrc:Jz C b bf A L)(o:Own w0 B (.refar b A::L) w):Calls Tryz.prog 145 #[.pointer (some ⟨b,0,none⟩),.int .i64 d,.pointer (some ⟨bf,0,none⟩),.int .i64 h,.bool false] w λe w'=>e= .returned (.int .i64 (dupF C false (m+1) A d h).1)/\Own w0 B (.refar b (dupF C false (m+1) A d h).2::L) w':=by
 have hAs:A.ns.length+3<=300001:=by have:=YL hC hh;have:=Ar.Yv A d;split at hsz<;>omega
 obtain⟨C',hm,hCi,hCl,hCh,hCg⟩:=hsrc.at' hA hC (by omega) hCs hh
 obtain⟨nb,cN,z0,z1,z2,z3,ka0,kc0,aa0,ac0,F,hK0,hA0⟩:=o.XaB hm hCh
 have hloc:=hC.loc h hh
 have hdup:=Y8 C false m A d h
 have hmid:XH C false m (A.Xj d (C.get h)) d h=(A.Xj d (C.get h)).2:=by unfold XH;rw[if_neg (λq=>absurd q.2.1 (by decide))]
 rw[hmid,if_neg (by decide)]at hdup
 rw[hCg]at F hK0 hA0
 generalize hnd:C.get h=nd at*
 have hkS:nd.Xc.length<=1000000:=by rw[<-hnd];have:=Ar.Yz hC.wf hh;omega
 have haS:nd.Xb.length<=1000000:=by have:=hloc.at3;omega
 have HN:Hid (Calls Tryz.prog 171 #[.agg #[.int .i64 nd.Xa,.int .i64 nd.Xd,.slice ka0 nd.Xc.length kc0,.int .i64 nd.doc,.int .i64 nd.space,.string nd.name,.slice aa0 nd.Xb.length ac0,.string nd.data,.string nd.pub,.string nd.sys,.bool nd.XI,.int .i64 nd.Xg,.int .i64 nd.host]] w λe w'=>∃ka kc aa ac,e= .returned (.agg (nd.cells (.slice ka nd.Xc.length kc) (.slice aa nd.Xb.length ac)).toArray)/\Own w0 B (.ints (.slice ka nd.Xc.length kc) nd.Xc:: .atts (.slice aa nd.Xb.length ac) nd.Xb:: .refar b A::L) w'):=Xqh (XdJ (n:=nd) o hK0 hA0 hkS haS)
 have HM0:Hid (∀(W:World)(ka:Option Addr)(kc:Nat)(aa:Option Addr)(ac:Nat)(L':List Xf),Xf.atts (.slice aa nd.Xb.length ac) nd.Xb∈L'->Own w0 B (.refar b A::L') W->Calls Tryz.prog 202 #[.pointer (some ⟨b,0,none⟩),.int .i64 d,.agg #[.int .i64 nd.Xa,.int .i64 nd.Xd,.slice ka nd.Xc.length kc,.int .i64 nd.doc,.int .i64 nd.space,.string nd.name,.slice aa nd.Xb.length ac,.string nd.data,.string nd.pub,.string nd.sys,.bool nd.XI,.int .i64 nd.Xg,.int .i64 nd.host]] W λe w'=>e= .returned (.int .i64 (A.Xj d nd).1)/\Own w0 B (.refar b (A.Xj d nd).2::L') w'):=Xqh (λW ka kc aa ac L' hm q=>XdI hloc (by omega) q (q.atts (v:= .slice aa nd.Xb.length ac) (x:=nd.Xb) (by simp[hm])))
 have c0:=F.c0
 have c1:=F.c1
 have c2:=F.c2
 have c3:=F.c3
 have c4:=F.c4
 have c5:=F.c5
 have c6:=F.c6
 have c7:=F.c7
 have c8:=F.c8
 have c9:=F.c9
 have c10:=F.c10
 have c11:=F.c11
 have c12:=F.c12
 have HF:=Xqh hdup
 generalize A.Xj d nd=R at*
 obtain⟨c,A2⟩:=R
 dsimp only at*
 clear hdup hmid ih hA hd hk hh hw hsz hsrc o hm hCi hCl hCh hCg F hK0 hA0 hloc hnd hkS haS
 go_enter Tryz.func145,Tryz.ntmps145
 go_wp2_with fail
 refine HN.out.mono ?_
 rintro e w2⟨ka,kc,aa,ac,rfl,o2⟩
 clear HN c0 c1 c2 c3 c4 c5 c6 c7 c8 c9 c10 c11 c12 z0
 have HT:=Xqh (XV (w:=w2) nd ka kc aa ac nd.Xc.length nd.Xb.length)
 have o5:=o2.XU nd (.slice ka nd.Xc.length kc) (.slice aa nd.Xb.length ac)
 go_wp2_with((with_reducible refine wpList_store_mid ?_ 46 (.tmp 11) (.tmp 25) ?_ w2.heap.size 0 (nd.cells (.slice ka nd.Xc.length kc) (.slice aa nd.Xb.length ac)).toArray ?_ ?_ ?_ ?_ ?_ ?_);exact rfl;exact rfl;exact rfl;exact rfl;exact HT.out.1;exact XM _ _ _;exact all_oneCell_toArray HT.out.2;clear HT;generalize hw5:World.setCells _ _ _ _=w5 at o5⊢;generalize hg5:w2.heap.size=g5 at o5⊢;clear hw5 hg5;have hrow5:=o5.box (g:=g5) (o:=(.cells (nd.cells (.slice ka nd.Xc.length kc) (.slice aa nd.Xb.length ac)).toArray 46 (0,0))) (by simp);have q0:w5.cell? ⟨g5,0,none⟩=some (.int .i64 nd.Xa):=XK hrow5 0 rfl;have q1:w5.cell? ⟨g5,1,none⟩=some (.int .i64 nd.Xd):=XK hrow5 1 rfl;have q2:w5.cell? ⟨g5,2,none⟩=some (.slice ka nd.Xc.length kc):=XK hrow5 2 rfl;have q3:w5.cell? ⟨g5,3,none⟩=some (.int .i64 nd.doc):=XK hrow5 3 rfl;have q4:w5.cell? ⟨g5,4,none⟩=some (.int .i64 nd.space):=XK hrow5 4 rfl;have q5:w5.cell? ⟨g5,5,none⟩=some (.string nd.name):=XK hrow5 5 rfl;have q6:w5.cell? ⟨g5,6,none⟩=some (.slice aa nd.Xb.length ac):=XK hrow5 6 rfl;have q7:w5.cell? ⟨g5,7,none⟩=some (.string nd.data):=XK hrow5 7 rfl;have q8:w5.cell? ⟨g5,8,none⟩=some (.string nd.pub):=XK hrow5 8 rfl;have q9:w5.cell? ⟨g5,9,none⟩=some (.string nd.sys):=XK hrow5 9 rfl;have q10:w5.cell? ⟨g5,10,none⟩=some (.bool nd.XI):=XK hrow5 10 rfl;have q11:w5.cell? ⟨g5,11,none⟩=some (.int .i64 nd.Xg):=XK hrow5 11 rfl;have q12:w5.cell? ⟨g5,12,none⟩=some (.int .i64 nd.host):=XK hrow5 12 rfl;clear hrow5)
 have oM:=o5.perm (by simpa using(List.perm_append_comm (l₁:= [Xf.box g5 (.cells (nd.cells (.slice ka nd.Xc.length kc) (.slice aa nd.Xb.length ac)).toArray 46 (0,0)),.ints (.slice ka nd.Xc.length kc) nd.Xc,.atts (.slice aa nd.Xb.length ac) nd.Xb]) (l₂:= [Xf.refar b A])).append_right L)
 have HM:=Xqh (HM0.out _ ka kc aa ac _ (by simp) oM)
 clear o5 oM HM0
 go_wp2_with fail
 refine HM.out.mono ?_
 rintro e w6⟨rfl,o6⟩
 clear HM q0 q1 q2 q3 q4 q5 q6 q7 q8 q9 q10 q11 q12
 have HO6:=Xqh o6
 clear o6
 go_wp2
 go_ret
 rw[HF.out]
 exact⟨rfl,HO6.out.swap.drop.swap.drop.swap.drop⟩
theorem Xoz (hC:C.Inv)(hCs:C.ns.length<=300000)(ih:XbB C b bf m)(A:Ar)(d h:Int)(L:List Xf)(w0 w:World)(B:Nat)(hA:A.Inv)(hd:A.has d)(hk:(A.get d).Xa=1)(hh:C.has h)(hw:(C.Xi h).length<=m+1)(hsz:(if(C.get h).Xa=1 then A.ns.length+2 else A.cap d)+(C.Xi h).length+2<=300000)(hsrc:Jz C b bf A L)(o:Own w0 B (.refar b A::L) w)(h1:(C.get h).Xa=1):Calls Tryz.prog 145 #[.pointer (some ⟨b,0,none⟩),.int .i64 d,.pointer (some ⟨bf,0,none⟩),.int .i64 h,.bool true] w λe w'=>e= .returned (.int .i64 (dupF C true (m+1) A d h).1)/\Own w0 B (.refar b (dupF C true (m+1) A d h).2::L) w':=by
 have hAs:A.ns.length+3<=300001:=by have:=YL hC hh;have:=Ar.Yv A d;split at hsz<;>omega
 obtain⟨C',hm,hCi,hCl,hCh,hCg⟩:=hsrc.at' hA hC (by omega) hCs hh
 obtain⟨nb,cN,z0,z1,z2,z3,ka0,kc0,aa0,ac0,F,hK0,hA0⟩:=o.XaB hm hCh
 have hloc:=hC.loc h hh
 rw[if_pos h1]at hsz
 have hcont:(C.get h).Xg=0:=hC.YG h hh (.inr (λq=>by have:=q.1;omega))
 have hkk:=ZF hC hh hw
 have hwl:=ZO hC hh
 have hkl:=Ar.Yz hC.wf hh
 have hdup:=Y8 C true m A d h
 have hmid:XH C true m (A.Xj d (C.get h)) d h=(A.Xj d (C.get h)).2:=by unfold XH;rw[if_neg (λq=>q.2.2 hcont)]
 have hal:A.Xj d (C.get h)=(A.n+1,A.Xn (C.get h).XI):=by unfold Ar.Xj;rw[if_pos h1]
 obtain⟨s1,s3,s4⟩:=Yr.Xn hA (C.get h).XI
 rw[hmid,if_pos h1,if_pos rfl]at hdup
 rw[hCg]at F hK0 hA0
 generalize hnd:C.get h=nd at*
 have hkS:nd.Xc.length<=1000000:=by rw[<-hnd];have:=Ar.Yz hC.wf hh;omega
 have haS:nd.Xb.length<=1000000:=by have:=hloc.at3;omega
 have HN:Hid (Calls Tryz.prog 171 #[.agg #[.int .i64 nd.Xa,.int .i64 nd.Xd,.slice ka0 nd.Xc.length kc0,.int .i64 nd.doc,.int .i64 nd.space,.string nd.name,.slice aa0 nd.Xb.length ac0,.string nd.data,.string nd.pub,.string nd.sys,.bool nd.XI,.int .i64 nd.Xg,.int .i64 nd.host]] w λe w'=>∃ka kc aa ac,e= .returned (.agg (nd.cells (.slice ka nd.Xc.length kc) (.slice aa nd.Xb.length ac)).toArray)/\Own w0 B (.ints (.slice ka nd.Xc.length kc) nd.Xc:: .atts (.slice aa nd.Xb.length ac) nd.Xb:: .refar b A::L) w'):=Xqh (XdJ (n:=nd) o hK0 hA0 hkS haS)
 have HM0:Hid (∀(W:World)(ka:Option Addr)(kc:Nat)(aa:Option Addr)(ac:Nat)(L':List Xf),Xf.atts (.slice aa nd.Xb.length ac) nd.Xb∈L'->Own w0 B (.refar b A::L') W->Calls Tryz.prog 202 #[.pointer (some ⟨b,0,none⟩),.int .i64 d,.agg #[.int .i64 nd.Xa,.int .i64 nd.Xd,.slice ka nd.Xc.length kc,.int .i64 nd.doc,.int .i64 nd.space,.string nd.name,.slice aa nd.Xb.length ac,.string nd.data,.string nd.pub,.string nd.sys,.bool nd.XI,.int .i64 nd.Xg,.int .i64 nd.host]] W λe w'=>e= .returned (.int .i64 (A.Xj d nd).1)/\Own w0 B (.refar b (A.Xj d nd).2::L') w'):=Xqh (λW ka kc aa ac L' hm q=>XdI hloc (by omega) q (q.atts (v:= .slice aa nd.Xb.length ac) (x:=nd.Xb) (by simp[hm])))
 have c0:=F.c0
 have c1:=F.c1
 have c2:=F.c2
 have c3:=F.c3
 have c4:=F.c4
 have c5:=F.c5
 have c6:=F.c6
 have c7:=F.c7
 have c8:=F.c8
 have c9:=F.c9
 have c10:=F.c10
 have c11:=F.c11
 have c12:=F.c12
 rw[hal]at hdup HM0
 dsimp only at hdup HM0
 obtain⟨st,yv,ya,t0,t1,-,-,t2,t3⟩:=XdK hC ih s1 JH s3 nd.Xc (λ_=> .inl s4) hkk (by omega) hsrc
 rw[<-t1]at hdup
 rw[<-t0]at HM0
 have HCALL:=Xqh t2
 have HPUT:=Xqh t3
 have HF:=Xqh hdup
 have hkl2:(nd.Xc.length:Int)<=300000:=by omega
 have e1:(nd.Xa==1)=true:=by simp[h1]
 have ec:(nd.Xg !=0)=false:=by simp[hcont]
 generalize A.n+1=c at*
 clear hdup hmid hal s1 s3 s4 t0 t1 t2 t3 hcont h1 hkk hwl hkl ih hA hd hk hh hw hsz hsrc o hm hCi hCl hCh hCg F hK0 hA0 hloc hnd hkS haS
 go_enter Tryz.func145,Tryz.ntmps145
 go_wp2_with fail
 refine HN.out.mono ?_
 rintro e w2⟨ka,kc,aa,ac,rfl,o2⟩
 clear HN c0 c1 c2 c3 c4 c5 c6 c7 c8 c9 c10 c11 c12 z0
 have HT:=Xqh (XV (w:=w2) nd ka kc aa ac nd.Xc.length nd.Xb.length)
 have o5:=o2.XU nd (.slice ka nd.Xc.length kc) (.slice aa nd.Xb.length ac)
 go_wp2_with((with_reducible refine wpList_store_mid ?_ 46 (.tmp 11) (.tmp 25) ?_ w2.heap.size 0 (nd.cells (.slice ka nd.Xc.length kc) (.slice aa nd.Xb.length ac)).toArray ?_ ?_ ?_ ?_ ?_ ?_);exact rfl;exact rfl;exact rfl;exact rfl;exact HT.out.1;exact XM _ _ _;exact all_oneCell_toArray HT.out.2;clear HT;generalize hw5:World.setCells _ _ _ _=w5 at o5⊢;generalize hg5:w2.heap.size=g5 at o5⊢;clear hw5 hg5;have hrow5:=o5.box (g:=g5) (o:=(.cells (nd.cells (.slice ka nd.Xc.length kc) (.slice aa nd.Xb.length ac)).toArray 46 (0,0))) (by simp);have q0:w5.cell? ⟨g5,0,none⟩=some (.int .i64 nd.Xa):=XK hrow5 0 rfl;have q1:w5.cell? ⟨g5,1,none⟩=some (.int .i64 nd.Xd):=XK hrow5 1 rfl;have q2:w5.cell? ⟨g5,2,none⟩=some (.slice ka nd.Xc.length kc):=XK hrow5 2 rfl;have q3:w5.cell? ⟨g5,3,none⟩=some (.int .i64 nd.doc):=XK hrow5 3 rfl;have q4:w5.cell? ⟨g5,4,none⟩=some (.int .i64 nd.space):=XK hrow5 4 rfl;have q5:w5.cell? ⟨g5,5,none⟩=some (.string nd.name):=XK hrow5 5 rfl;have q6:w5.cell? ⟨g5,6,none⟩=some (.slice aa nd.Xb.length ac):=XK hrow5 6 rfl;have q7:w5.cell? ⟨g5,7,none⟩=some (.string nd.data):=XK hrow5 7 rfl;have q8:w5.cell? ⟨g5,8,none⟩=some (.string nd.pub):=XK hrow5 8 rfl;have q9:w5.cell? ⟨g5,9,none⟩=some (.string nd.sys):=XK hrow5 9 rfl;have q10:w5.cell? ⟨g5,10,none⟩=some (.bool nd.XI):=XK hrow5 10 rfl;have q11:w5.cell? ⟨g5,11,none⟩=some (.int .i64 nd.Xg):=XK hrow5 11 rfl;have q12:w5.cell? ⟨g5,12,none⟩=some (.int .i64 nd.host):=XK hrow5 12 rfl;clear hrow5)
 have oM:=o5.perm (by simpa using(List.perm_append_comm (l₁:= [Xf.box g5 (.cells (nd.cells (.slice ka nd.Xc.length kc) (.slice aa nd.Xb.length ac)).toArray 46 (0,0)),.ints (.slice ka nd.Xc.length kc) nd.Xc,.atts (.slice aa nd.Xb.length ac) nd.Xb]) (l₂:= [Xf.refar b A])).append_right L)
 have HM:=Xqh (HM0.out _ ka kc aa ac _ (by simp) oM)
 clear o5 oM HM0
 go_wp2_with fail
 refine HM.out.mono ?_
 rintro e w6⟨rfl,o6⟩
 clear HM q0 q1 q2 q3 q4 q5 q6 q7 q8 q9 q10 q11 q12
 have q0:w6.cell? ⟨g5,0,none⟩=some (.int .i64 nd.Xa):=XK (o6.box (g:=g5) (o:=(.cells (nd.cells (.slice ka nd.Xc.length kc) (.slice aa nd.Xb.length ac)).toArray 46 (0,0))) (by simp)) 0 rfl
 have q11:w6.cell? ⟨g5,11,none⟩=some (.int .i64 nd.Xg):=XK (o6.box (g:=g5) (o:=(.cells (nd.cells (.slice ka nd.Xc.length kc) (.slice aa nd.Xb.length ac)).toArray 46 (0,0))) (by simp)) 11 rfl
 have q2:w6.cell? ⟨g5,2,none⟩=some (.slice ka nd.Xc.length kc):=XK (o6.box (g:=g5) (o:=(.cells (nd.cells (.slice ka nd.Xc.length kc) (.slice aa nd.Xb.length ac)).toArray 46 (0,0))) (by simp)) 2 rfl
 have HO6:=Xqh o6
 clear o6
 go_wp2
 go_loopw [16](λi wr=>∃k:Nat,k<=nd.Xc.length/\i= .int .i64 k/\Hid (Own w0 B (.refar b (st k):: .box g5 (.cells (nd.cells (.slice ka nd.Xc.length kc) (.slice aa nd.Xb.length ac)).toArray 46 (0,0)):: .ints (.slice ka nd.Xc.length kc) nd.Xc:: .atts (.slice aa nd.Xb.length ac) nd.Xb::L) wr))(λi _=>nd.Xc.length-(intOf i).toNat)
 case atStart=>exact⟨0,Nat.zero_le _,rfl,HO6⟩
 case round=>obtain⟨k,hk,rfl,hT⟩:=hrel;clear q2 q0 q11;have q2:wr.cell? ⟨g5,2,none⟩=some (.slice ka nd.Xc.length kc):=XK (hT.out.box (g:=g5) (o:=(.cells (nd.cells (.slice ka nd.Xc.length kc) (.slice aa nd.Xb.length ac)).toArray 46 (0,0))) (by simp)) 2 rfl;by_cases hlt:k<nd.Xc.length;{obtain⟨x,hx⟩:∃x,nd.Xc[k]?=some x:=⟨_,List.getElem?_eq_getElem hlt⟩;have hri:Xy wr (.slice ka nd.Xc.length kc) nd.Xc:=hT.out.ints (by simp);obtain⟨b1,o1,rfl,-,hcs⟩:=hri.cells (by omega);have c1:=hcs k x hx;have HC:=Xqh (HCALL.out k x hx w0 B _ wr (λa ha=>by simp[ha]) hT.out);have HP:=Xqh (HPUT.out k x hx);clear hri hcs hx hT;go_wp2_with fail;refine HC.out.mono ?_;rintro e w7⟨rfl,o7⟩;have HP7:=Xqh (HP.out w0 B _ _ o7);clear o7 HC HP;go_wp2_with fail;refine HP7.out.mono ?_;rintro e w8⟨⟨pv,rfl⟩,o8⟩;have HO8:=Xqh o8;clear o8 HP7 c1 q2;go_wp2;go_roundw;(case rel=>exact⟨k+1,hlt,by go_num,HO8⟩);case measure=>simp[intOf];omega};·have hkl:k=nd.Xc.length:=by{omega};have o9:=hT.out;rw[hkl]at o9;have HO9:=Xqh o9;clear o9 hT hkl;go_wp2;go_ret;rw[HF.out];exact⟨rfl,HO9.out.swap.drop.swap.drop.swap.drop⟩
theorem XoA (hC:C.Inv)(hCs:C.ns.length<=300000)(ih:XbB C b bf m)(A:Ar)(d h:Int)(L:List Xf)(w0 w:World)(B:Nat)(hA:A.Inv)(hd:A.has d)(hk:(A.get d).Xa=1)(hh:C.has h)(hw:(C.Xi h).length<=m+1)(hsz:(if(C.get h).Xa=1 then A.ns.length+2 else A.cap d)+(C.Xi h).length+2<=300000)(hsrc:Jz C b bf A L)(o:Own w0 B (.refar b A::L) w)(h1:(C.get h).Xa≠1)(hcont:(C.get h).Xg=0):Calls Tryz.prog 145 #[.pointer (some ⟨b,0,none⟩),.int .i64 d,.pointer (some ⟨bf,0,none⟩),.int .i64 h,.bool true] w λe w'=>e= .returned (.int .i64 (dupF C true (m+1) A d h).1)/\Own w0 B (.refar b (dupF C true (m+1) A d h).2::L) w':=by
 have hAs:A.ns.length+3<=300001:=by have:=YL hC hh;have:=Ar.Yv A d;split at hsz<;>omega
 obtain⟨C',hm,hCi,hCl,hCh,hCg⟩:=hsrc.at' hA hC (by omega) hCs hh
 obtain⟨nb,cN,z0,z1,z2,z3,ka0,kc0,aa0,ac0,F,hK0,hA0⟩:=o.XaB hm hCh
 have hloc:=hC.loc h hh
 rw[if_neg h1]at hsz
 have hkk:=ZF hC hh hw
 have hwl:=ZO hC hh
 have hkl:=Ar.Yz hC.wf hh
 have hdup:=Y8 C true m A d h
 have hmid:XH C true m (A.Xj d (C.get h)) d h=(A.Xj d (C.get h)).2:=by unfold XH;rw[if_neg (λq=>q.2.2 hcont)]
 obtain⟨s1,s2,s3,s4⟩:=Yr.Xj hA hC hd hk hh h1
 rw[if_neg (λq=>q hcont)]at s1
 have hkidk:=hC.ZB h hh
 rw[<-s4]at hkidk
 rw[hmid,if_neg h1,if_pos rfl]at hdup
 rw[hCg]at F hK0 hA0
 generalize hnd:C.get h=nd at*
 have hkS:nd.Xc.length<=1000000:=by rw[<-hnd];have:=Ar.Yz hC.wf hh;omega
 have haS:nd.Xb.length<=1000000:=by have:=hloc.at3;omega
 have HN:Hid (Calls Tryz.prog 171 #[.agg #[.int .i64 nd.Xa,.int .i64 nd.Xd,.slice ka0 nd.Xc.length kc0,.int .i64 nd.doc,.int .i64 nd.space,.string nd.name,.slice aa0 nd.Xb.length ac0,.string nd.data,.string nd.pub,.string nd.sys,.bool nd.XI,.int .i64 nd.Xg,.int .i64 nd.host]] w λe w'=>∃ka kc aa ac,e= .returned (.agg (nd.cells (.slice ka nd.Xc.length kc) (.slice aa nd.Xb.length ac)).toArray)/\Own w0 B (.ints (.slice ka nd.Xc.length kc) nd.Xc:: .atts (.slice aa nd.Xb.length ac) nd.Xb:: .refar b A::L) w'):=Xqh (XdJ (n:=nd) o hK0 hA0 hkS haS)
 have HM0:Hid (∀(W:World)(ka:Option Addr)(kc:Nat)(aa:Option Addr)(ac:Nat)(L':List Xf),Xf.atts (.slice aa nd.Xb.length ac) nd.Xb∈L'->Own w0 B (.refar b A::L') W->Calls Tryz.prog 202 #[.pointer (some ⟨b,0,none⟩),.int .i64 d,.agg #[.int .i64 nd.Xa,.int .i64 nd.Xd,.slice ka nd.Xc.length kc,.int .i64 nd.doc,.int .i64 nd.space,.string nd.name,.slice aa nd.Xb.length ac,.string nd.data,.string nd.pub,.string nd.sys,.bool nd.XI,.int .i64 nd.Xg,.int .i64 nd.host]] W λe w'=>e= .returned (.int .i64 (A.Xj d nd).1)/\Own w0 B (.refar b (A.Xj d nd).2::L') w'):=Xqh (λW ka kc aa ac L' hm q=>XdI hloc (by omega) q (q.atts (v:= .slice aa nd.Xb.length ac) (x:=nd.Xb) (by simp[hm])))
 have c0:=F.c0
 have c1:=F.c1
 have c2:=F.c2
 have c3:=F.c3
 have c4:=F.c4
 have c5:=F.c5
 have c6:=F.c6
 have c7:=F.c7
 have c8:=F.c8
 have c9:=F.c9
 have c10:=F.c10
 have c11:=F.c11
 have c12:=F.c12
 generalize A.Xj d nd=R at*
 obtain⟨c,A2⟩:=R
 dsimp only at*
 obtain⟨st,yv,ya,t0,t1,-,-,t2,t3⟩:=XdK hC ih s1 (c:=c) (by rw[s2];exact JH) (by rw[s2];exact s3) nd.Xc (by rw[s2];exact hkidk) hkk (by omega) hsrc
 rw[<-t1]at hdup
 rw[<-t0]at HM0
 have HCALL:=Xqh t2
 have HPUT:=Xqh t3
 have HF:=Xqh hdup
 have hkl2:(nd.Xc.length:Int)<=300000:=by omega
 have e1:(nd.Xa==1)=false:=by simp[h1]
 have ec:(nd.Xg !=0)=false:=by simp[hcont]
 clear hdup hmid s1 s2 s3 s4 hkidk t0 t1 t2 t3 hcont h1 hkk hwl hkl ih hA hd hk hh hw hsz hsrc o hm hCi hCl hCh hCg F hK0 hA0 hloc hnd hkS haS
 go_enter Tryz.func145,Tryz.ntmps145
 go_wp2_with fail
 refine HN.out.mono ?_
 rintro e w2⟨ka,kc,aa,ac,rfl,o2⟩
 clear HN c0 c1 c2 c3 c4 c5 c6 c7 c8 c9 c10 c11 c12 z0
 have HT:=Xqh (XV (w:=w2) nd ka kc aa ac nd.Xc.length nd.Xb.length)
 have o5:=o2.XU nd (.slice ka nd.Xc.length kc) (.slice aa nd.Xb.length ac)
 go_wp2_with((with_reducible refine wpList_store_mid ?_ 46 (.tmp 11) (.tmp 25) ?_ w2.heap.size 0 (nd.cells (.slice ka nd.Xc.length kc) (.slice aa nd.Xb.length ac)).toArray ?_ ?_ ?_ ?_ ?_ ?_);exact rfl;exact rfl;exact rfl;exact rfl;exact HT.out.1;exact XM _ _ _;exact all_oneCell_toArray HT.out.2;clear HT;generalize hw5:World.setCells _ _ _ _=w5 at o5⊢;generalize hg5:w2.heap.size=g5 at o5⊢;clear hw5 hg5;have hrow5:=o5.box (g:=g5) (o:=(.cells (nd.cells (.slice ka nd.Xc.length kc) (.slice aa nd.Xb.length ac)).toArray 46 (0,0))) (by simp);have q0:w5.cell? ⟨g5,0,none⟩=some (.int .i64 nd.Xa):=XK hrow5 0 rfl;have q1:w5.cell? ⟨g5,1,none⟩=some (.int .i64 nd.Xd):=XK hrow5 1 rfl;have q2:w5.cell? ⟨g5,2,none⟩=some (.slice ka nd.Xc.length kc):=XK hrow5 2 rfl;have q3:w5.cell? ⟨g5,3,none⟩=some (.int .i64 nd.doc):=XK hrow5 3 rfl;have q4:w5.cell? ⟨g5,4,none⟩=some (.int .i64 nd.space):=XK hrow5 4 rfl;have q5:w5.cell? ⟨g5,5,none⟩=some (.string nd.name):=XK hrow5 5 rfl;have q6:w5.cell? ⟨g5,6,none⟩=some (.slice aa nd.Xb.length ac):=XK hrow5 6 rfl;have q7:w5.cell? ⟨g5,7,none⟩=some (.string nd.data):=XK hrow5 7 rfl;have q8:w5.cell? ⟨g5,8,none⟩=some (.string nd.pub):=XK hrow5 8 rfl;have q9:w5.cell? ⟨g5,9,none⟩=some (.string nd.sys):=XK hrow5 9 rfl;have q10:w5.cell? ⟨g5,10,none⟩=some (.bool nd.XI):=XK hrow5 10 rfl;have q11:w5.cell? ⟨g5,11,none⟩=some (.int .i64 nd.Xg):=XK hrow5 11 rfl;have q12:w5.cell? ⟨g5,12,none⟩=some (.int .i64 nd.host):=XK hrow5 12 rfl;clear hrow5)
 have oM:=o5.perm (by simpa using(List.perm_append_comm (l₁:= [Xf.box g5 (.cells (nd.cells (.slice ka nd.Xc.length kc) (.slice aa nd.Xb.length ac)).toArray 46 (0,0)),.ints (.slice ka nd.Xc.length kc) nd.Xc,.atts (.slice aa nd.Xb.length ac) nd.Xb]) (l₂:= [Xf.refar b A])).append_right L)
 have HM:=Xqh (HM0.out _ ka kc aa ac _ (by simp) oM)
 clear o5 oM HM0
 go_wp2_with fail
 refine HM.out.mono ?_
 rintro e w6⟨rfl,o6⟩
 clear HM q0 q1 q2 q3 q4 q5 q6 q7 q8 q9 q10 q11 q12
 have q0:w6.cell? ⟨g5,0,none⟩=some (.int .i64 nd.Xa):=XK (o6.box (g:=g5) (o:=(.cells (nd.cells (.slice ka nd.Xc.length kc) (.slice aa nd.Xb.length ac)).toArray 46 (0,0))) (by simp)) 0 rfl
 have q11:w6.cell? ⟨g5,11,none⟩=some (.int .i64 nd.Xg):=XK (o6.box (g:=g5) (o:=(.cells (nd.cells (.slice ka nd.Xc.length kc) (.slice aa nd.Xb.length ac)).toArray 46 (0,0))) (by simp)) 11 rfl
 have q2:w6.cell? ⟨g5,2,none⟩=some (.slice ka nd.Xc.length kc):=XK (o6.box (g:=g5) (o:=(.cells (nd.cells (.slice ka nd.Xc.length kc) (.slice aa nd.Xb.length ac)).toArray 46 (0,0))) (by simp)) 2 rfl
 have HO6:=Xqh o6
 clear o6
 go_wp2
 go_loopw [16](λi wr=>∃k:Nat,k<=nd.Xc.length/\i= .int .i64 k/\Hid (Own w0 B (.refar b (st k):: .box g5 (.cells (nd.cells (.slice ka nd.Xc.length kc) (.slice aa nd.Xb.length ac)).toArray 46 (0,0)):: .ints (.slice ka nd.Xc.length kc) nd.Xc:: .atts (.slice aa nd.Xb.length ac) nd.Xb::L) wr))(λi _=>nd.Xc.length-(intOf i).toNat)
 case atStart=>exact⟨0,Nat.zero_le _,rfl,HO6⟩
 case round=>obtain⟨k,hk,rfl,hT⟩:=hrel;clear q2 q0 q11;have q2:wr.cell? ⟨g5,2,none⟩=some (.slice ka nd.Xc.length kc):=XK (hT.out.box (g:=g5) (o:=(.cells (nd.cells (.slice ka nd.Xc.length kc) (.slice aa nd.Xb.length ac)).toArray 46 (0,0))) (by simp)) 2 rfl;by_cases hlt:k<nd.Xc.length;{obtain⟨x,hx⟩:∃x,nd.Xc[k]?=some x:=⟨_,List.getElem?_eq_getElem hlt⟩;have hri:Xy wr (.slice ka nd.Xc.length kc) nd.Xc:=hT.out.ints (by simp);obtain⟨b1,o1,rfl,-,hcs⟩:=hri.cells (by omega);have c1:=hcs k x hx;have HC:=Xqh (HCALL.out k x hx w0 B _ wr (λa ha=>by simp[ha]) hT.out);have HP:=Xqh (HPUT.out k x hx);clear hri hcs hx hT;go_wp2_with fail;refine HC.out.mono ?_;rintro e w7⟨rfl,o7⟩;have HP7:=Xqh (HP.out w0 B _ _ o7);clear o7 HC HP;go_wp2_with fail;refine HP7.out.mono ?_;rintro e w8⟨⟨pv,rfl⟩,o8⟩;have HO8:=Xqh o8;clear o8 HP7 c1 q2;go_wp2;go_roundw;(case rel=>exact⟨k+1,hlt,by go_num,HO8⟩);case measure=>simp[intOf];omega};·have hkl:k=nd.Xc.length:=by{omega};have o9:=hT.out;rw[hkl]at o9;have HO9:=Xqh o9;clear o9 hT hkl;go_wp2;go_ret;rw[HF.out];exact⟨rfl,HO9.out.swap.drop.swap.drop.swap.drop⟩
theorem XoB (hC:C.Inv)(hCs:C.ns.length<=300000)(ih:XbB C b bf m)(A:Ar)(d h:Int)(L:List Xf)(w0 w:World)(B:Nat)(hA:A.Inv)(hd:A.has d)(hk:(A.get d).Xa=1)(hh:C.has h)(hw:(C.Xi h).length<=m+1)(hsz:(if(C.get h).Xa=1 then A.ns.length+2 else A.cap d)+(C.Xi h).length+2<=300000)(hsrc:Jz C b bf A L)(o:Own w0 B (.refar b A::L) w)(hcont:(C.get h).Xg≠0):Calls Tryz.prog 145 #[.pointer (some ⟨b,0,none⟩),.int .i64 d,.pointer (some ⟨bf,0,none⟩),.int .i64 h,.bool true] w λe w'=>e= .returned (.int .i64 (dupF C true (m+1) A d h).1)/\Own w0 B (.refar b (dupF C true (m+1) A d h).2::L) w':=by
 have ht:XN (C.get h):=Classical.byContradiction λq=>hcont (hC.YG h hh (.inr q))
 have hkind:(C.get h).Xa=4:=ht.1
 have h1:(C.get h).Xa≠1:=by omega
 have hAs:A.ns.length+3<=300001:=by have:=YL hC hh;have:=Ar.Yv A d;split at hsz<;>omega
 obtain⟨C',hm,hCi,hCl,hCh,hCg⟩:=hsrc.at' hA hC (by omega) hCs hh
 obtain⟨nb,cN,z0,z1,z2,z3,ka0,kc0,aa0,ac0,F,hK0,hA0⟩:=o.XaB hm hCh
 have hloc:=hC.loc h hh
 rw[if_neg h1]at hsz
 have hkk:=ZF hC hh hw
 have hwl:=ZO hC hh
 have hkl:=Ar.Yz hC.wf hh
 have hdup:=Y8 C true m A d h
 rw[if_neg h1,if_pos rfl]at hdup
 obtain⟨s1,s2,s3,s4⟩:=Yr.Xj hA hC hd hk hh h1
 rw[if_pos hcont]at s1
 obtain⟨k1,k2,k3⟩:=hC.cont h hh (by have:=hh.1;omega) ht
 have hkc1:=Ar.Yz hC.wf k1
 have hwc:=XcR hC hh hcont
 have hkk1:=ZF (m:=m) hC k1 (by omega)
 have hwl1:=ZO hC k1
 have hwlen:2+((C.get (C.get h).Xg).Xc.flatMap C.Xi).length+((C.get h).Xc.flatMap C.Xi).length<=(C.Xi h).length:=by rw[Ym hC hh,if_pos hcont];simp only[List.length_cons,List.length_append];omega
 obtain⟨-,-,n3⟩:=Xbu hA hC hd hk hh h1
 obtain⟨cc,x1,x2,x3,-,-,-,x4,-⟩:=(n3.resolve_left (λq=>hcont q.1)).2
 obtain⟨-,-,a3⟩:=Xbs hA hC hd hk hh h1
 have hia:=a3 ht
 rw[hCg]at F hK0 hA0
 generalize hnd:C.get h=nd at*
 have hkS:nd.Xc.length<=1000000:=by rw[<-hnd];have:=Ar.Yz hC.wf hh;omega
 have haS:nd.Xb.length<=1000000:=by have:=hloc.at3;omega
 have HN:Hid (Calls Tryz.prog 171 #[.agg #[.int .i64 nd.Xa,.int .i64 nd.Xd,.slice ka0 nd.Xc.length kc0,.int .i64 nd.doc,.int .i64 nd.space,.string nd.name,.slice aa0 nd.Xb.length ac0,.string nd.data,.string nd.pub,.string nd.sys,.bool nd.XI,.int .i64 nd.Xg,.int .i64 nd.host]] w λe w'=>∃ka kc aa ac,e= .returned (.agg (nd.cells (.slice ka nd.Xc.length kc) (.slice aa nd.Xb.length ac)).toArray)/\Own w0 B (.ints (.slice ka nd.Xc.length kc) nd.Xc:: .atts (.slice aa nd.Xb.length ac) nd.Xb:: .refar b A::L) w'):=Xqh (XdJ (n:=nd) o hK0 hA0 hkS haS)
 have HM0:Hid (∀(W:World)(ka:Option Addr)(kc:Nat)(aa:Option Addr)(ac:Nat)(L':List Xf),Xf.atts (.slice aa nd.Xb.length ac) nd.Xb∈L'->Own w0 B (.refar b A::L') W->Calls Tryz.prog 202 #[.pointer (some ⟨b,0,none⟩),.int .i64 d,.agg #[.int .i64 nd.Xa,.int .i64 nd.Xd,.slice ka nd.Xc.length kc,.int .i64 nd.doc,.int .i64 nd.space,.string nd.name,.slice aa nd.Xb.length ac,.string nd.data,.string nd.pub,.string nd.sys,.bool nd.XI,.int .i64 nd.Xg,.int .i64 nd.host]] W λe w'=>e= .returned (.int .i64 (A.Xj d nd).1)/\Own w0 B (.refar b (A.Xj d nd).2::L') w'):=Xqh (λW ka kc aa ac L' hm q=>XdI hloc (by omega) q (q.atts (v:= .slice aa nd.Xb.length ac) (x:=nd.Xb) (by simp[hm])))
 have c0:=F.c0
 have c1:=F.c1
 have c2:=F.c2
 have c3:=F.c3
 have c4:=F.c4
 have c5:=F.c5
 have c6:=F.c6
 have c7:=F.c7
 have c8:=F.c8
 have c9:=F.c9
 have c10:=F.c10
 have c11:=F.c11
 have c12:=F.c12
 generalize A.Xj d nd=R at*
 obtain⟨c,A2⟩:=R
 dsimp only at*
 rw[<-s2]at x1 s3 s4
 have hof:=J6 s1.has s1.Xa
 have hic:=Xb8 hof hia
 obtain⟨i1,i2,i3,i4⟩:=s1.inv.Xh d hia
 have hdmid:XH C true m (c,A2) d h=(C.get nd.Xg).Xc.foldl (XP (λB k=>dupF C true m B (A2.Xu d) k) (A2.get c).Xg) A2:=by unfold XH;rw[hnd,if_pos ⟨hkind,rfl,hcont⟩,hic]
 rw[hdmid]at hdup
 have sI:Yr A A2 (A2.Xu d) (A.cap d+2):=⟨s1.inv,i2,i3,s1.old,by have h5:=s1.cap;rw[Jw hia]at h5;rw[Jw (by rw[i4];exact hia)];exact h5⟩
 have hccn:¬A.has cc:=λq=>by have:=q.2;omega
 obtain⟨kn,hkn⟩:∃kn,C.get nd.Xg=kn:=⟨_,rfl⟩
 rw[hkn]at hkk1 hwl1 hkc1 hwlen hdup
 obtain⟨st1,yv1,ya1,u0,u1,uI,uC,u2,u3⟩:=XdK hC ih sI (c:=cc) hccn x3 kn.Xc (λ_=> .inr (.inl x4)) hkk1 (by omega) hsrc
 have uC2:=λi x hx=>uC i x hx c s3
 rw[x1]at hdup uC2
 rw[<-u1]at hdup
 have hfold:=Yr.fold hC sI hccn x3 kn.Xc (λ_=> .inr (.inl x4)) hkk1 kn.Xc.length (Nat.le_refl _)
 obtain⟨g1,g2⟩:=Xat (C:=C) (rec:=λB k=>dupF C true m B (A2.Xu d) k) (d:=A2.Xu d) (c:=cc) kn.Xc (A:=A2) (λB' k' hk' hB hd' hkd=>Jf hC m true hB hd' hkd (hkk1 k' hk').1 (hkk1 k' hk').2.1 (hkk1 k' hk').2.2.2) sI.inv sI.has sI.Xa
 rw[List.take_length,<-u1]at hfold
 rw[<-u1]at g1
 obtain⟨f1,-,-,f4⟩:=hfold
 have sM:Yr A (st1 kn.Xc.length) d (A.cap d+2+(kn.Xc.flatMap C.Xi).length):=⟨f1.inv,g1.has d s1.has,(g1.Xa d s1.has).trans s1.Xa,f1.old,by have h5:=f1.cap;rw[Jw (f4 _ (by rw[i4];exact hia))]at h5;rw[Jw (f4 d hia)];exact h5⟩
 obtain⟨st,yv,ya,t0,t1,-,-,t2,t3⟩:=XdK hC ih sM (c:=c) (by rw[s2];exact JH) (g1.has c s3) nd.Xc (λ_=> .inr (.inr (by rw[g1.Xa c s3,s4];exact hkind))) hkk (by omega) hsrc
 rw[<-t1]at hdup
 have HCALL:=Xqh t2
 have HPUT:=Xqh t3
 have HCALL1:=Xqh u2
 have HPUT1:=Xqh u3
 have HF:=Xqh hdup
 have hkl2:(nd.Xc.length:Int)<=300000:=by omega
 have hkl3:(kn.Xc.length:Int)<=300000:=by omega
 have e1:(nd.Xa==1)=false:=by simp[h1]
 have ec:(nd.Xg !=0)=true:=by simp[hcont]
 have hA2s:A2.ns.length<=300000:=by have:=Ar.Yv A2 d;have:=s1.cap;omega
 have HIN:=Xqh (λk(hk:k<=kn.Xc.length)W L'(q:Own w0 B (.refar b (st1 k)::L') W)=>(let⟨ρ,hA'⟩:=q.refar (b:=b) (A:=st1 k) (by simp);have e:=(uI k hk).1 d hia;by have:=Xox (st1 k) ρ b d W hA' ((uI k hk).2 d s1.has) (by rw[e];exact hia);rw[e]at this;exact this:Calls Tryz.prog 107 #[.pointer (some ⟨b,0,none⟩),.int .i64 d] W λe w'=>e= .returned (.int .i64 (A2.Xu d))/\w'=W))
 have HKD:=Xqh (λl' W(hl:∀a∈L,a∈l')(q:Own w0 B (.refar b A2::l') W)=>(let⟨C2,hm2,hi2,hl2,hh2,hg2⟩:=(hsrc.grow s1.old hl).at' s1.inv hC hA2s hCs k1;have e:C2.YN nd.Xg=kn.Xc:=(if_pos hh2).trans (by rw[hg2,hkn]);by have:=XdG (b:=bf) (A:=C2) (h:=nd.Xg) q hm2 (hi2.short (by omega));rw[e]at this;exact this:Calls Tryz.prog 203 #[.pointer (some ⟨bf,0,none⟩),.int .i64 nd.Xg] W λe w'=>∃va vc,e= .returned (.slice va kn.Xc.length vc)/\Own w0 B (.ints (.slice va kn.Xc.length vc) kn.Xc:: .refar b A2::l') w'))
 have HUC:=Xqh uC2
 have U0:=Xqh u0
 have T0:=Xqh t0
 generalize A2.Xu d=ii at*
 clear hdup s1 s2 s3 s4 t0 t1 t2 t3 hcont ht hkind h1 hkk hwl hkl k1 k2 k3 hkc1 hwc hkk1 hwl1 hwlen n3 x1 x2 x3 x4 a3 hia hof hic i1 i2 i3 i4 hdmid sI hccn hkn u0 u1 uI uC uC2 u2 u3 g1 g2 f1 f4 sM hA2s ih hA hd hk hh hw hsz hsrc o hm hCi hCl hCh hCg F hK0 hA0 hloc hnd hkS haS
 go_enter Tryz.func145,Tryz.ntmps145
 go_wp2_with fail
 refine HN.out.mono ?_
 rintro e w2⟨ka,kc,aa,ac,rfl,o2⟩
 clear HN c0 c1 c2 c3 c4 c5 c6 c7 c8 c9 c10 c11 c12 z0
 have HT:=Xqh (XV (w:=w2) nd ka kc aa ac nd.Xc.length nd.Xb.length)
 have o5:=o2.XU nd (.slice ka nd.Xc.length kc) (.slice aa nd.Xb.length ac)
 go_wp2_with((with_reducible refine wpList_store_mid ?_ 46 (.tmp 11) (.tmp 25) ?_ w2.heap.size 0 (nd.cells (.slice ka nd.Xc.length kc) (.slice aa nd.Xb.length ac)).toArray ?_ ?_ ?_ ?_ ?_ ?_);exact rfl;exact rfl;exact rfl;exact rfl;exact HT.out.1;exact XM _ _ _;exact all_oneCell_toArray HT.out.2;clear HT;generalize hw5:World.setCells _ _ _ _=w5 at o5⊢;generalize hg5:w2.heap.size=g5 at o5⊢;clear hw5 hg5;have hrow5:=o5.box (g:=g5) (o:=(.cells (nd.cells (.slice ka nd.Xc.length kc) (.slice aa nd.Xb.length ac)).toArray 46 (0,0))) (by simp);have q0:w5.cell? ⟨g5,0,none⟩=some (.int .i64 nd.Xa):=XK hrow5 0 rfl;have q1:w5.cell? ⟨g5,1,none⟩=some (.int .i64 nd.Xd):=XK hrow5 1 rfl;have q2:w5.cell? ⟨g5,2,none⟩=some (.slice ka nd.Xc.length kc):=XK hrow5 2 rfl;have q3:w5.cell? ⟨g5,3,none⟩=some (.int .i64 nd.doc):=XK hrow5 3 rfl;have q4:w5.cell? ⟨g5,4,none⟩=some (.int .i64 nd.space):=XK hrow5 4 rfl;have q5:w5.cell? ⟨g5,5,none⟩=some (.string nd.name):=XK hrow5 5 rfl;have q6:w5.cell? ⟨g5,6,none⟩=some (.slice aa nd.Xb.length ac):=XK hrow5 6 rfl;have q7:w5.cell? ⟨g5,7,none⟩=some (.string nd.data):=XK hrow5 7 rfl;have q8:w5.cell? ⟨g5,8,none⟩=some (.string nd.pub):=XK hrow5 8 rfl;have q9:w5.cell? ⟨g5,9,none⟩=some (.string nd.sys):=XK hrow5 9 rfl;have q10:w5.cell? ⟨g5,10,none⟩=some (.bool nd.XI):=XK hrow5 10 rfl;have q11:w5.cell? ⟨g5,11,none⟩=some (.int .i64 nd.Xg):=XK hrow5 11 rfl;have q12:w5.cell? ⟨g5,12,none⟩=some (.int .i64 nd.host):=XK hrow5 12 rfl;clear hrow5)
 have oM:=o5.perm (by simpa using(List.perm_append_comm (l₁:= [Xf.box g5 (.cells (nd.cells (.slice ka nd.Xc.length kc) (.slice aa nd.Xb.length ac)).toArray 46 (0,0)),.ints (.slice ka nd.Xc.length kc) nd.Xc,.atts (.slice aa nd.Xb.length ac) nd.Xb]) (l₂:= [Xf.refar b A])).append_right L)
 have HM:=Xqh (HM0.out _ ka kc aa ac _ (by simp) oM)
 clear o5 oM HM0
 go_wp2_with fail
 refine HM.out.mono ?_
 rintro e w6⟨rfl,o6⟩
 clear HM q0 q1 q2 q3 q4 q5 q6 q7 q8 q9 q10 q11 q12
 have q0:w6.cell? ⟨g5,0,none⟩=some (.int .i64 nd.Xa):=XK (o6.box (g:=g5) (o:=(.cells (nd.cells (.slice ka nd.Xc.length kc) (.slice aa nd.Xb.length ac)).toArray 46 (0,0))) (by simp)) 0 rfl
 have q11:w6.cell? ⟨g5,11,none⟩=some (.int .i64 nd.Xg):=XK (o6.box (g:=g5) (o:=(.cells (nd.cells (.slice ka nd.Xc.length kc) (.slice aa nd.Xb.length ac)).toArray 46 (0,0))) (by simp)) 11 rfl
 have HK10:=Xqh (HKD.out _ _ (λa ha=>by simp[ha]) o6)
 clear o6 HKD
 go_wp2_with fail
 refine HK10.out.mono ?_
 rintro e w10⟨va,vc,rfl,o10⟩
 have o11:=o10.swap
 rw[<-U0.out]at o11
 have HO11:=Xqh o11
 clear o10 o11 HK10 q0 q11 U0
 go_wp2
 go_loopw [14](λi wr=>∃k:Nat,k<=kn.Xc.length/\i= .int .i64 k/\Hid (Own w0 B (.refar b (st1 k):: .ints (.slice va kn.Xc.length vc) kn.Xc:: .box g5 (.cells (nd.cells (.slice ka nd.Xc.length kc) (.slice aa nd.Xb.length ac)).toArray 46 (0,0)):: .ints (.slice ka nd.Xc.length kc) nd.Xc:: .atts (.slice aa nd.Xb.length ac) nd.Xb::L) wr))(λi _=>kn.Xc.length-(intOf i).toNat)
 case atStart=>exact⟨0,Nat.zero_le _,rfl,HO11⟩
 case round=>obtain⟨k,hk,rfl,hT⟩:=hrel;clear HO11;by_cases hlt:k<kn.Xc.length;{obtain⟨x,hx⟩:∃x,kn.Xc[k]?=some x:=⟨_,List.getElem?_eq_getElem hlt⟩;have hri:Xy wr (.slice va kn.Xc.length vc) kn.Xc:=hT.out.ints (by simp);obtain⟨b1,o1,rfl,-,hcs⟩:=hri.cells (by omega);have c1:=hcs k x hx;have HIN1:=Xqh (HIN.out k hk wr.drew _ (hT.out.read (Below.drew (Below.refl _ _))));have HC:=Xqh (HCALL1.out k x hx w0 B _ wr.drew (λa ha=>by simp[ha]) (hT.out.read (Below.drew (Below.refl _ _))));have HP:=Xqh (HPUT1.out k x hx);have HX:=Xqh (HUC.out k x hx);clear hri hcs hx hT HCALL1 HPUT1 HIN HUC;go_upto_region 12 with fail;go_cut [15]from 50 to 59(λt wx=>t= .int .i64 (yv1 k x)/\Hid (Own w0 B (.refar b (ya1 k x):: .ints (.slice (some ⟨b1,o1,none⟩) kn.Xc.length vc) kn.Xc:: .box g5 (.cells (nd.cells (.slice ka nd.Xc.length kc) (.slice aa nd.Xb.length ac)).toArray 46 (0,0)):: .ints (.slice ka nd.Xc.length kc) nd.Xc:: .atts (.slice aa nd.Xb.length ac) nd.Xb::L) wx));(case first=>go_region_with(first|(go_at_call 107;(with_reducible refine HIN1.out.mono ?_);rintro e w'⟨rfl,rfl⟩)|(go_at_call 145;(with_reducible refine HC.out.mono ?_);rintro e w7⟨rfl,o7⟩));all_goals have HO7:=Xqh o7;go_wp2_with fail;go_meet;exact⟨rfl,HO7⟩);case rest=>obtain⟨rfl,hc3⟩:=hcut;obtain⟨W3,hW3⟩:∃W3,W3=wc:=⟨_,rfl⟩;subst hW3;have o3:=hc3.out;obtain⟨X1,X2⟩:=HX.out;obtain⟨nb3,cN3,g0,g1,g2,g3,ka3,kc3,aa3,ac3,F3,-,-⟩:=o3.XaB (b:=b) (A:=ya1 k x) (by simp) X1;have e11:=F3.c11;rw[X2]at e11;have HP7:=Xqh (HP.out w0 B _ _ o3);clear hc3 o3 X1 X2 F3 HX HC HIN1 HP c1;go_wp2_with fail;refine HP7.out.mono ?_;rintro e w8⟨⟨pv,rfl⟩,o8⟩;have HO8:=Xqh o8;clear o8 HP7 g0 e11;go_wp2;go_roundw;(case rel=>exact⟨k+1,hlt,by go_num,HO8⟩);case measure=>simp[intOf];omega};·have hkl:k=kn.Xc.length:=by{omega};subst hkl;have o14:=hT.out;rw[<-T0.out]at o14;have o6:=o14.swap.drop;clear o14 hT HIN HCALL1 HPUT1 HUC;have q2:wr.cell? ⟨g5,2,none⟩=some (.slice ka nd.Xc.length kc):=XK (o6.box (g:=g5) (o:=(.cells (nd.cells (.slice ka nd.Xc.length kc) (.slice aa nd.Xb.length ac)).toArray 46 (0,0))) (by simp)) 2 rfl;have HO6:=Xqh o6;clear o6;go_wp2;go_loopw [16](λi wr=>∃k:Nat,k<=nd.Xc.length/\i= .int .i64 k/\Hid (Own w0 B (.refar b (st k):: .box g5 (.cells (nd.cells (.slice ka nd.Xc.length kc) (.slice aa nd.Xb.length ac)).toArray 46 (0,0)):: .ints (.slice ka nd.Xc.length kc) nd.Xc:: .atts (.slice aa nd.Xb.length ac) nd.Xb::L) wr))(λi _=>nd.Xc.length-(intOf i).toNat);(case atStart=>exact⟨0,Nat.zero_le _,rfl,HO6⟩);case round=>obtain⟨k,hk,rfl,hT⟩:=hrel;clear q2;have q2:wr.cell? ⟨g5,2,none⟩=some (.slice ka nd.Xc.length kc):=XK (hT.out.box (g:=g5) (o:=(.cells (nd.cells (.slice ka nd.Xc.length kc) (.slice aa nd.Xb.length ac)).toArray 46 (0,0))) (by simp)) 2 rfl;by_cases hlt:k<nd.Xc.length;{obtain⟨x,hx⟩:∃x,nd.Xc[k]?=some x:=⟨_,List.getElem?_eq_getElem hlt⟩;have hri:Xy wr (.slice ka nd.Xc.length kc) nd.Xc:=hT.out.ints (by simp);obtain⟨b1,o1,rfl,-,hcs⟩:=hri.cells (by omega);have c1:=hcs k x hx;have HC:=Xqh (HCALL.out k x hx w0 B _ wr (λa ha=>by simp[ha]) hT.out);have HP:=Xqh (HPUT.out k x hx);clear hri hcs hx hT;go_wp2_with fail;refine HC.out.mono ?_;rintro e w7⟨rfl,o7⟩;have HP7:=Xqh (HP.out w0 B _ _ o7);clear o7 HC HP;go_wp2_with fail;refine HP7.out.mono ?_;rintro e w8⟨⟨pv,rfl⟩,o8⟩;have HO8:=Xqh o8;clear o8 HP7 c1 q2;go_wp2;go_roundw;(case rel=>exact⟨k+1,hlt,by go_num,HO8⟩);case measure=>simp[intOf];omega};·have hkl:k=nd.Xc.length:=by{omega};have o9:=hT.out;rw[hkl]at o9;have HO9:=Xqh o9;clear o9 hT hkl;go_wp2;go_ret;rw[HF.out];exact⟨rfl,HO9.out.swap.drop.swap.drop.swap.drop⟩
theorem XfR {C:Ar}(hC:C.Inv)(hCs:C.ns.length<=300000){b bf:Nat}:∀m,XbB C b bf m
 |0=>λdeep A d h L w0 w B hA hd hk hh hw _ _ _=>by{have:=YL hC hh;omega}
 |m+1=>λdeep A d h L w0 w B hA hd hk hh hw hsz hsrc o=>by{have ih:=XfR hC hCs (b:=b) (bf:=bf) m;cases deep with|false=>{exact Xoy hC hCs ih A d h L w0 w B hA hd hk hh hw hsz hsrc o}|true=>by_cases h1:(C.get h).Xa=1;{exact Xoz hC hCs ih A d h L w0 w B hA hd hk hh hw hsz hsrc o h1};·by_cases hc:(C.get h).Xg=0;{exact XoA hC hCs ih A d h L w0 w B hA hd hk hh hw hsz hsrc o h1 hc};·exact XoB hC hCs ih A d h L w0 w B hA hd hk hh hw hsz hsrc o hc}
end
end Go.Proofs.YtpicinjcmjaogaaGreat
