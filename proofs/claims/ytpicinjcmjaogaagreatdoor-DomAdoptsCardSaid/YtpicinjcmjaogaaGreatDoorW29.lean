import Derived.Deep.RegionHeld3
import Derived.BigRegion
import Derived.Deep.CutRange
import Derived.Test.YtpicinjcmjaogaaGreatDoorW28
set_option maxRecDepth 100000
set_option maxHeartbeats 4000000
set_option linter.unusedVariables false
namespace Go.Proofs.YtpicinjcmjaogaaGreatDoor
section
open Go.RowKit Go.Shelf
attribute [local go_sem] Oper.semAt_some
theorem Own.Xh5 {w0 w w':World}{B:Nat}{a a':Xf}{l:List Xf}(h:Own w0 B l w)(hb:Below w.heap.size w w')(ha:∃S S',a.P w' S∧a'.P w' S'∧(∀k,S k→w.heap.size≤k)∧(∀k,S' k→w.heap.size≤k)∧∀k,S k→¬S' k):Own w0 B (a::a'::l) w':=by
 obtain⟨S,S',h1,h2,h3,h4,h5⟩:=ha
 have o1:Own w0 B (a'::l) w':=h.fresh hb ⟨S',h2,h4⟩
 obtain⟨T,⟨T1,T2,t1,t2,t3,t4⟩,t5⟩:=(h.fresh hb ⟨S',h2,h4⟩:Own w0 B (a'::l) w').hold
 obtain⟨U,hU,hU2⟩:=h.hold
 have hlt:=hU.lt
 have hU':ZK w' l U:=hU.upd (F:=fun _=>False) (Upd.below hb) (fun _ _=>id)
 refine⟨⟨fun k=>S k∨(S' k∨U k),⟨S,fun k=>S' k∨U k,h1,⟨S',U,h2,hU',fun k hk hu=>?_,fun _=>Iff.rfl⟩,fun k hk hu=>?_,fun _=>Iff.rfl⟩,fun k hk=>?_⟩,o1.low,o1.size⟩
 ·have:=hlt k hu;have:=h4 k hk;omega
 ·rcases hu with hu|hu;·{exact h5 k hk hu};·have:=hlt k hu;have:=h3 k hk;omega
 ·rcases hk with hk|hk|hk;·{have:=h3 k hk;have:=h.big;omega};·{have:=h4 k hk;have:=h.big;omega};·exact hU2 k hk
theorem Jm {w0 w:World}{B b:Nat}{A:Ar}{l:List Xf}{h:Int}{n:Nd}(o:Own w0 B l w)(hm:Xf.arena b A∈l)(hS:A.YC)(hh:A.has h)(hn:A.get h=n):Calls Tryz.prog 15 #[.pointer (some ⟨b,0,none⟩),.int .i64 h] w fun e w'=>∃ka kc aa ac,e= .returned (.tuple #[.agg (n.cells (.slice ka n.Xc.length kc) (.slice aa n.Xb.length ac)).toArray,.int .i64 0])∧Own w0 B (.ints (.slice ka n.Xc.length kc) n.Xc:: .atts (.slice aa n.Xb.length ac) n.Xb::l) w':=by
 subst hn
 obtain⟨ρ,hA⟩:=o.arena hm
 refine(XcO A ρ b h w hA hS).mono ?_
 rintro e w'⟨hB,kv,av,rfl,h1,h2⟩
 rw[if_pos hh]at h1 h2⊢
 rw[if_pos hh]
 have hap:=Xex h1 h2 (by decide)
 have hb1:=Yx h1
 have hb2:=Yx h2
 obtain⟨ka,kc,rfl⟩:=X6 h1
 obtain⟨aa,ac,rfl⟩:=X6 h2
 exact⟨ka,kc,aa,ac,rfl,o.Xh5 hB ⟨_,_,⟨YP h1 (Nat.zero_le _),fun _=>Iff.rfl⟩,⟨YP h2 (Nat.zero_le _),fun _=>Iff.rfl⟩,fun k hk=>(hb1 k hk).1,fun k hk=>(hb2 k hk).1,hap⟩⟩
def Emb (C A : Ar) : Prop := ∀ x, C.has x → A.has x ∧ A.get x = C.get x
/-- The arena that is copied from: the same one, or another thing. -/
def Src (C : Ar) (b bf : Nat) (A : Ar) (L : List Xf) : Prop := (bf = b ∧ Emb C A) ∨ Xf.arena bf C ∈ L
theorem Src.at' {C A:Ar}{b bf:Nat}{L:List Xf}(s:Src C b bf A L)(hA:A.Inv)(hC:C.Inv)(hAs:A.ns.length≤300000)(hCs:C.ns.length≤300000){x:Int}(hx:C.has x):∃C',Xf.arena bf C'∈Xf.arena b A::L∧C'.Inv∧C'.ns.length≤300000∧C'.has x∧C'.get x=C.get x:=by
 rcases s with⟨rfl,h⟩|h
 ·exact⟨A,by simp,hA,hAs,(h x hx).1,(h x hx).2⟩
 ·exact⟨C,by simp[h],hC,hCs,hx,rfl⟩
theorem Src.grow {C A B:Ar}{b bf:Nat}{L L':List Xf}(s:Src C b bf A L)(hE:∀x,A.has x→B.has x∧B.get x=A.get x)(hL:∀a∈L,a∈L'):Src C b bf B L':=by
 rcases s with⟨rfl,h⟩|h
 ·exact .inl ⟨rfl,fun x hx=>⟨(hE x (h x hx).1).1,(hE x (h x hx).1).2.trans (h x hx).2⟩⟩
 ·exact .inr (hL _ h)
/-- The contract of duplicate, with fuel. -/
def Z7 (C : Ar) (b bf m : Nat) : Prop := ∀ (deep : Bool) (A : Ar) (d h : Int) (L : List Xf) (w0 w : World) (B : Nat), A.Inv → A.has d → (A.get d).Xa = 1 → C.has h → (C.Xi h).length ≤ m →
  (if (C.get h).Xa = 1 then A.ns.length + 2 else A.cap d) + (C.Xi h).length + 2 ≤ 300000 → Src C b bf A L → Own w0 B (.arena b A :: L) w →
    Calls Tryz.prog 107 #[.pointer (some ⟨b, 0, none⟩), .int .i64 d, .pointer (some ⟨bf, 0, none⟩), .int .i64 h, .bool deep] w fun e w' => e = .returned (.int .i64 (dupF C deep m A d h).1) ∧ Own w0 B (.arena b (dupF C deep m A d h).2 :: L) w'
theorem Xaz {C A A2:Ar}(hC:C.Inv){b bf m:Nat}(ih:Z7 C b bf m){d c:Int}{X:Nat}(hI:Yr A A2 d X)(hc:¬A.has c)(hcB:A2.has c)(ks:List Int)(hck:ks≠ []→(A2.get c).Xa=1∨(A2.get c).Xa=2∨(A2.get c).Xa=4)(hk:∀k∈ks,C.has k∧(C.get k).Xa≠1∧(C.get k).Xa≠2∧(C.Xi k).length≤m)(hX:X+(ks.flatMap C.Xi).length+2≤300000){L:List Xf}(hsrc:Src C b bf A L):∃(st:Nat→Ar)(yv:Nat→Int→Int)(ya:Nat→Int→Ar),st 0=A2∧st ks.length=ks.foldl (XP (fun B k=>dupF C true m B d k) c) A2∧(∀i x,ks[i]?=some x→∀(w0:World)(B:Nat)(L':List Xf)(W:World),(∀a∈L,a∈L')→Own w0 B (.arena b (st i)::L') W→Calls Tryz.prog 107 #[.pointer (some ⟨b,0,none⟩),.int .i64 d,.pointer (some ⟨bf,0,none⟩),.int .i64 x,.bool true] W fun e w'=>e= .returned (.int .i64 (yv i x))∧Own w0 B (.arena b (ya i x)::L') w')∧(∀i x,ks[i]?=some x→∀(w0:World)(B:Nat)(L':List Xf)(W:World),Own w0 B (.arena b (ya i x)::L') W→Calls Tryz.prog 59 #[.pointer (some ⟨b,0,none⟩),.int .i64 c,.int .i64 (yv i x),.int .i64 0] W fun e w'=>(∃v,e= .returned (.int .i64 v))∧Own w0 B (.arena b (st (i+1))::L') w'):=by
 have hf:=Yr.fold hC hI hc hcB ks hck hk
 refine⟨fun i=>(ks.take i).foldl (XP (fun B k=>dupF C true m B d k) c) A2,fun i x=>(dupF C true m ((ks.take i).foldl (XP (fun B k=>dupF C true m B d k) c) A2) d x).1,fun i x=>(dupF C true m ((ks.take i).foldl (XP (fun B k=>dupF C true m B d k) c) A2) d x).2,rfl,by show(ks.take ks.length).foldl _ _=_;rw[List.take_length],?_,?_⟩
 ·intro i x hx w0 B L' W hL q;have hi:i≤ks.length:=by{have:=(List.getElem?_eq_some_iff.1 hx).1;omega};obtain⟨f1,-,-,-⟩:=hf i hi;obtain⟨k1,k2,k3,k4⟩:=hk x (List.mem_of_getElem? hx);have hfl:=Xch (C:=C) hx;have hcap:=f1.cap;refine ih true _ d x L' w0 W B f1.inv f1.has f1.Xa k1 k4 (by rw[if_neg k2];omega) (hsrc.grow f1.old hL) q
 ·intro i x hx w0 B L' W q;have hi:i≤ks.length:=by{have:=(List.getElem?_eq_some_iff.1 hx).1;omega};obtain⟨f1,-,-,-⟩:=hf i hi;obtain⟨k1,k2,k3,k4⟩:=hk x (List.mem_of_getElem? hx);have hfl:=Xch (C:=C) hx;have hcap:=f1.cap;obtain⟨g1,g2⟩:=Jf hC m true f1.inv f1.has f1.Xa k1 k2 k4;have hst:(ks.take (i+1)).foldl (XP (fun B k=>dupF C true m B d k) c) A2=XP (fun B k=>dupF C true m B d k) c ((ks.take i).foldl (XP (fun B k=>dupF C true m B d k) c) A2) x:=Xar _ _ hx;have hsz:=Ar.Yv (dupF C true m ((ks.take i).foldl (XP (fun B k=>dupF C true m B d k) c) A2) d x).2 d;have hle:(dupF C true m ((ks.take i).foldl (XP (fun B k=>dupF C true m B d k) c) A2) d x).2.ns.length≤1000000:=by{omega};dsimp only;rw[hst];refine(q.call (fun ρ hA=>XbR _ ρ b c (dupF C true m ((ks.take i).foldl (XP (fun B k=>dupF C true m B d k) c) A2) d x).1 0 W hA g1.inv.wf hle)).mono ?_;rintro e w'⟨h1,h2⟩;exact⟨⟨_,h1⟩,h2⟩
theorem Xmy {C:Ar}(hC:C.Inv)(hCs:C.ns.length≤300000){b bf m:Nat}(ih:Z7 C b bf m)(A:Ar)(d h:Int)(L:List Xf)(w0 w:World)(B:Nat)(hA:A.Inv)(hd:A.has d)(hk:(A.get d).Xa=1)(hh:C.has h)(hw:(C.Xi h).length≤m+1)(hsz:(if(C.get h).Xa=1 then A.ns.length+2 else A.cap d)+(C.Xi h).length+2≤300000)(hsrc:Src C b bf A L)(o:Own w0 B (.arena b A::L) w)(hkind:(C.get h).Xa=2):Calls Tryz.prog 107 #[.pointer (some ⟨b,0,none⟩),.int .i64 d,.pointer (some ⟨bf,0,none⟩),.int .i64 h,.bool true] w fun e w'=>e= .returned (.int .i64 (dupF C true (m+1) A d h).1)∧Own w0 B (.arena b (dupF C true (m+1) A d h).2::L) w':=by
 have h1:(C.get h).Xa≠1:=by omega
 rw[if_neg h1]at hsz
 have hwp:=YL hC hh
 have hcg:=Ar.Yv A d
 obtain⟨C',hm,hCi,hCl,hCh,hCg⟩:=hsrc.at' hA hC (by omega) hCs hh
 have hcont:(C.get h).Xg=0:=hC.YG h hh (.inr (fun q=>by have:=q.1;omega))
 obtain⟨s1,s2,s3,s4⟩:=Yr.Xj hA hC hd hk hh h1
 rw[if_neg (fun q=>q hcont)]at s1
 have hkk:=ZF hC hh hw
 have hkc:(C.get h).Xc≠ []→((A.Xj d (C.get h)).2.get (A.n+1)).Xa=1∨((A.Xj d (C.get h)).2.get (A.n+1)).Xa=2∨((A.Xj d (C.get h)).2.get (A.n+1)).Xa=4:=fun q=>by rw[s4];exact hC.ZB h hh q
 have hwl:=ZO hC hh
 have hkl:=Ar.Yz hC.wf hh
 have hdup:=Y8 C true m A d h
 have hmid:XH C true m (A.Xj d (C.get h)) d h=(A.Xj d (C.get h)).2:=by unfold XH;rw[if_neg (fun q=>q.2.2 hcont)]
 rw[hmid,if_neg h1]at hdup
 generalize hnd:C.get h=nd at*
 have HN:=Xqh (Jm (b:=bf) (A:=C') o hm (hCi.short (by omega)) hCh hCg)
 have hal:A.Xj d nd=((A.make d Zm).1.1,(A.make d Zm).2):=by unfold Ar.Xj;simp[hkind]
 have HMK:=Xqh (fun l' W(q:Own w0 B (.arena b A::l') W)=>q.call (fun ρ hA'=>XcF A ρ b d W hA' (by omega)))
 unfold Xl at HMK
 rw[hal]at s1 s2 s3 s4 hkc hdup
 generalize A.make d Zm=R at*
 obtain⟨⟨c,er⟩,A2⟩:=R
 dsimp only at*
 rw[if_pos rfl]at hdup
 obtain⟨st,yv,ya,t0,t1,t2,t3⟩:=Xaz hC ih s1 (c:=c) (by rw[s2];exact JH) (by rw[s2];exact s3) nd.Xc (by rw[s2];exact hkc) hkk (by omega) hsrc
 have HFINST:=Xqh t1
 have HCALL:=Xqh t2
 have HPUT:=Xqh t3
 have HF:=Xqh hdup
 have hkl2:(nd.Xc.length:Int)≤300000:=by omega
 have e1:(nd.Xa==1)=false:=by simp[hkind]
 have e2:(nd.Xa==2)=true:=by simp[hkind]
 have e3:(nd.Xa==3)=false:=by simp[hkind]
 have e5:(nd.Xa==5)=false:=by simp[hkind]
 have e6:(nd.Xa==6)=false:=by simp[hkind]
 have e4:(nd.Xa==4)=false:=by simp[hkind]
 clear hd hk hh hw hsz hsrc o hwp hcg hm hCi hCl hCh hCg hcont s1 s2 s3 s4 hkk hkc hwl hdup hmid hal hkind h1 hnd
 go_enter Tryz.func107,Tryz.ntmps107
 go_wp2_with fail
 refine HN.out.mono ?_
 rintro e w2⟨ka,kc,aa,ac,rfl,o2⟩
 clear HN
 have HT:=Xqh (XV (w:=w2) nd ka kc aa ac nd.Xc.length nd.Xb.length)
 have o5:=o2.XU nd (.slice ka nd.Xc.length kc) (.slice aa nd.Xb.length ac)
 go_wp2_with((with_reducible refine wpList_store_mid ?_ 41 (.tmp 11) (.tmp 26) ?_ w2.heap.size 0 (nd.cells (.slice ka nd.Xc.length kc) (.slice aa nd.Xb.length ac)).toArray ?_ ?_ ?_ ?_ ?_ ?_);exact rfl;exact rfl;exact rfl;exact rfl;exact HT.out.1;exact XM _ _ _;exact all_oneCell_toArray HT.out.2;clear HT;generalize hw5:World.setCells _ _ _ _=w5 at o5⊢;generalize hg5:w2.heap.size=g5 at o5⊢;clear hw5 hg5;have q0:w5.cell? ⟨g5,0,none⟩=some (.int .i64 nd.Xa):=(cell_of_row w5 _ _ _ _ _ (o5.box (g:=g5) (o:= .cells (nd.cells (.slice ka nd.Xc.length kc) (.slice aa nd.Xb.length ac)).toArray 41 (0,0)) (by simp))).trans rfl)
 have oM:=o5.perm (by simpa using(List.perm_append_comm (l₁:= [Xf.box g5 (.cells (nd.cells (.slice ka nd.Xc.length kc) (.slice aa nd.Xb.length ac)).toArray 41 (0,0)),.ints (.slice ka nd.Xc.length kc) nd.Xc,.atts (.slice aa nd.Xb.length ac) nd.Xb]) (l₂:= [Xf.arena b A])).append_right L)
 have HM:=Xqh (HMK.out _ _ oM)
 clear o5 oM HMK
 go_wp2_with fail
 refine HM.out.mono ?_
 rintro e w6⟨rfl,o6⟩
 clear HM q0
 rw[←t0]at o6
 have q2:w6.cell? ⟨g5,2,none⟩=some (.slice ka nd.Xc.length kc):=(cell_of_row w6 _ _ _ _ _ (o6.box (g:=g5) (o:= .cells (nd.cells (.slice ka nd.Xc.length kc) (.slice aa nd.Xb.length ac)).toArray 41 (0,0)) (by simp))).trans rfl
 have HO6:=Xqh o6
 clear o6 t0 t1 t2 t3
 go_wp2
 go_loopw [134](fun i wr=>∃k:Nat,k≤nd.Xc.length∧i= .int .i64 k∧Hid (Own w0 B (.arena b (st k):: .box g5 (.cells (nd.cells (.slice ka nd.Xc.length kc) (.slice aa nd.Xb.length ac)).toArray 41 (0,0)):: .ints (.slice ka nd.Xc.length kc) nd.Xc:: .atts (.slice aa nd.Xb.length ac) nd.Xb::L) wr))(fun i _=>nd.Xc.length-(intOf i).toNat)
 case atStart=>exact⟨0,Nat.zero_le _,rfl,HO6⟩
 case round=>obtain⟨k,hk,rfl,hT⟩:=hrel;by_cases hlt:k<nd.Xc.length;·{obtain⟨x,hx⟩:∃x,nd.Xc[k]?=some x:=⟨_,List.getElem?_eq_getElem hlt⟩;have hri:Xy wr (.slice ka nd.Xc.length kc) nd.Xc:=hT.out.ints (by simp);obtain⟨b1,o1,rfl,-,hcs⟩:=hri.cells (by omega);have c1:=hcs k x hx;have HC:=Xqh (HCALL.out k x hx w0 B _ wr (fun a ha=>by simp[ha]) hT.out);have HP:=Xqh (HPUT.out k x hx);clear hri hcs hx hT;go_wp2_with fail;refine HC.out.mono ?_;rintro e w7⟨rfl,o7⟩;have HP7:=Xqh (HP.out w0 B _ _ o7);clear o7 HC HP;go_wp2_with fail;refine HP7.out.mono ?_;rintro e w8⟨⟨pv,rfl⟩,o8⟩;have HO8:=Xqh o8;clear o8 HP7 c1;go_wp2;go_roundw;(case rel=>exact⟨k+1,hlt,by go_num,HO8⟩);case measure=>simp[intOf];omega};·have hkl:k=nd.Xc.length:=by{omega};have o9:=hT.out;rw[hkl,HFINST.out]at o9;have HO9:=Xqh o9;clear o9 hT hkl;go_wp2;go_ret;rw[HF.out];exact⟨rfl,HO9.out.swap.drop.swap.drop.swap.drop⟩
theorem Xmz {C:Ar}(hC:C.Inv)(hCs:C.ns.length≤300000){b bf m:Nat}(ih:Z7 C b bf m)(A:Ar)(d h:Int)(L:List Xf)(w0 w:World)(B:Nat)(hA:A.Inv)(hd:A.has d)(hk:(A.get d).Xa=1)(hh:C.has h)(hw:(C.Xi h).length≤m+1)(hsz:(if(C.get h).Xa=1 then A.ns.length+2 else A.cap d)+(C.Xi h).length+2≤300000)(hsrc:Src C b bf A L)(o:Own w0 B (.arena b A::L) w)(hkind:(C.get h).Xa=2):Calls Tryz.prog 107 #[.pointer (some ⟨b,0,none⟩),.int .i64 d,.pointer (some ⟨bf,0,none⟩),.int .i64 h,.bool false] w fun e w'=>e= .returned (.int .i64 (dupF C false (m+1) A d h).1)∧Own w0 B (.arena b (dupF C false (m+1) A d h).2::L) w':=by
 have h1:(C.get h).Xa≠1:=by omega
 rw[if_neg h1]at hsz
 have hwp:=YL hC hh
 have hcg:=Ar.Yv A d
 obtain⟨C',hm,hCi,hCl,hCh,hCg⟩:=hsrc.at' hA hC (by omega) hCs hh
 have hcont:(C.get h).Xg=0:=hC.YG h hh (.inr (fun q=>by have:=q.1;omega))
 obtain⟨s1,s2,s3,s4⟩:=Yr.Xj hA hC hd hk hh h1
 rw[if_neg (fun q=>q hcont)]at s1
 have hkk:=ZF hC hh hw
 have hkc:(C.get h).Xc≠ []→((A.Xj d (C.get h)).2.get (A.n+1)).Xa=1∨((A.Xj d (C.get h)).2.get (A.n+1)).Xa=2∨((A.Xj d (C.get h)).2.get (A.n+1)).Xa=4:=fun q=>by rw[s4];exact hC.ZB h hh q
 have hwl:=ZO hC hh
 have hkl:=Ar.Yz hC.wf hh
 have hdup:=Y8 C false m A d h
 have hmid:XH C false m (A.Xj d (C.get h)) d h=(A.Xj d (C.get h)).2:=by unfold XH;rw[if_neg (fun q=>q.2.2 hcont)]
 rw[hmid,if_neg h1]at hdup
 generalize hnd:C.get h=nd at*
 have HN:=Xqh (Jm (b:=bf) (A:=C') o hm (hCi.short (by omega)) hCh hCg)
 have hal:A.Xj d nd=((A.make d Zm).1.1,(A.make d Zm).2):=by unfold Ar.Xj;simp[hkind]
 have HMK:=Xqh (fun l' W(q:Own w0 B (.arena b A::l') W)=>q.call (fun ρ hA'=>XcF A ρ b d W hA' (by omega)))
 unfold Xl at HMK
 rw[hal]at s1 s2 s3 s4 hkc hdup
 generalize A.make d Zm=R at*
 obtain⟨⟨c,er⟩,A2⟩:=R
 dsimp only at*
 rw[if_neg (by decide)]at hdup
 have HF:=Xqh hdup
 have e1:(nd.Xa==1)=false:=by simp[hkind]
 have e2:(nd.Xa==2)=true:=by simp[hkind]
 have e3:(nd.Xa==3)=false:=by simp[hkind]
 have e5:(nd.Xa==5)=false:=by simp[hkind]
 have e6:(nd.Xa==6)=false:=by simp[hkind]
 have e4:(nd.Xa==4)=false:=by simp[hkind]
 clear hd hk hh hw hsz hsrc o hwp hcg hm hCi hCl hCh hCg hcont s1 s2 s3 s4 hkk hkc hwl hdup hmid hal hkind h1 hnd
 go_enter Tryz.func107,Tryz.ntmps107
 go_wp2_with fail
 refine HN.out.mono ?_
 rintro e w2⟨ka,kc,aa,ac,rfl,o2⟩
 clear HN
 have HT:=Xqh (XV (w:=w2) nd ka kc aa ac nd.Xc.length nd.Xb.length)
 have o5:=o2.XU nd (.slice ka nd.Xc.length kc) (.slice aa nd.Xb.length ac)
 go_wp2_with((with_reducible refine wpList_store_mid ?_ 41 (.tmp 11) (.tmp 26) ?_ w2.heap.size 0 (nd.cells (.slice ka nd.Xc.length kc) (.slice aa nd.Xb.length ac)).toArray ?_ ?_ ?_ ?_ ?_ ?_);exact rfl;exact rfl;exact rfl;exact rfl;exact HT.out.1;exact XM _ _ _;exact all_oneCell_toArray HT.out.2;clear HT;generalize hw5:World.setCells _ _ _ _=w5 at o5⊢;generalize hg5:w2.heap.size=g5 at o5⊢;clear hw5 hg5;have q0:w5.cell? ⟨g5,0,none⟩=some (.int .i64 nd.Xa):=(cell_of_row w5 _ _ _ _ _ (o5.box (g:=g5) (o:= .cells (nd.cells (.slice ka nd.Xc.length kc) (.slice aa nd.Xb.length ac)).toArray 41 (0,0)) (by simp))).trans rfl)
 have oM:=o5.perm (by simpa using(List.perm_append_comm (l₁:= [Xf.box g5 (.cells (nd.cells (.slice ka nd.Xc.length kc) (.slice aa nd.Xb.length ac)).toArray 41 (0,0)),.ints (.slice ka nd.Xc.length kc) nd.Xc,.atts (.slice aa nd.Xb.length ac) nd.Xb]) (l₂:= [Xf.arena b A])).append_right L)
 have HM:=Xqh (HMK.out _ _ oM)
 clear o5 oM HMK
 go_wp2_with fail
 refine HM.out.mono ?_
 rintro e w6⟨rfl,o6⟩
 clear HM q0
 have HO6:=Xqh o6
 clear o6
 go_wp2
 go_ret
 rw[HF.out]
 exact⟨rfl,HO6.out.swap.drop.swap.drop.swap.drop⟩
theorem XmA {C:Ar}(hC:C.Inv)(hCs:C.ns.length≤300000){b bf m:Nat}(ih:Z7 C b bf m)(A:Ar)(d h:Int)(L:List Xf)(w0 w:World)(B:Nat)(hA:A.Inv)(hd:A.has d)(hk:(A.get d).Xa=1)(hh:C.has h)(hw:(C.Xi h).length≤m+1)(hsz:(if(C.get h).Xa=1 then A.ns.length+2 else A.cap d)+(C.Xi h).length+2≤300000)(hsrc:Src C b bf A L)(o:Own w0 B (.arena b A::L) w)(hkind:(C.get h).Xa=3):Calls Tryz.prog 107 #[.pointer (some ⟨b,0,none⟩),.int .i64 d,.pointer (some ⟨bf,0,none⟩),.int .i64 h,.bool true] w fun e w'=>e= .returned (.int .i64 (dupF C true (m+1) A d h).1)∧Own w0 B (.arena b (dupF C true (m+1) A d h).2::L) w':=by
 have h1:(C.get h).Xa≠1:=by omega
 rw[if_neg h1]at hsz
 have hwp:=YL hC hh
 have hcg:=Ar.Yv A d
 obtain⟨C',hm,hCi,hCl,hCh,hCg⟩:=hsrc.at' hA hC (by omega) hCs hh
 have hcont:(C.get h).Xg=0:=hC.YG h hh (.inr (fun q=>by have:=q.1;omega))
 obtain⟨s1,s2,s3,s4⟩:=Yr.Xj hA hC hd hk hh h1
 rw[if_neg (fun q=>q hcont)]at s1
 have hkk:=ZF hC hh hw
 have hkc:(C.get h).Xc≠ []→((A.Xj d (C.get h)).2.get (A.n+1)).Xa=1∨((A.Xj d (C.get h)).2.get (A.n+1)).Xa=2∨((A.Xj d (C.get h)).2.get (A.n+1)).Xa=4:=fun q=>by rw[s4];exact hC.ZB h hh q
 have hwl:=ZO hC hh
 have hkl:=Ar.Yz hC.wf hh
 have hdup:=Y8 C true m A d h
 have hmid:XH C true m (A.Xj d (C.get h)) d h=(A.Xj d (C.get h)).2:=by unfold XH;rw[if_neg (fun q=>q.2.2 hcont)]
 rw[hmid,if_neg h1]at hdup
 generalize hnd:C.get h=nd at*
 have HN:=Xqh (Jm (b:=bf) (A:=C') o hm (hCi.short (by omega)) hCh hCg)
 have hal:A.Xj d nd=((A.make d (YT nd.name nd.pub nd.sys)).1.1,(A.make d (YT nd.name nd.pub nd.sys)).2):=by unfold Ar.Xj;simp[hkind]
 have HMK:=Xqh (fun l' W(q:Own w0 B (.arena b A::l') W)=>q.call (fun ρ hA'=>XcE A ρ b d nd.name nd.pub nd.sys W hA' (by omega)))
 unfold Xl at HMK
 rw[hal]at s1 s2 s3 s4 hkc hdup
 generalize A.make d (YT nd.name nd.pub nd.sys)=R at*
 obtain⟨⟨c,er⟩,A2⟩:=R
 dsimp only at*
 rw[if_pos rfl]at hdup
 obtain⟨st,yv,ya,t0,t1,t2,t3⟩:=Xaz hC ih s1 (c:=c) (by rw[s2];exact JH) (by rw[s2];exact s3) nd.Xc (by rw[s2];exact hkc) hkk (by omega) hsrc
 have HFINST:=Xqh t1
 have HCALL:=Xqh t2
 have HPUT:=Xqh t3
 have HF:=Xqh hdup
 have hkl2:(nd.Xc.length:Int)≤300000:=by omega
 have e1:(nd.Xa==1)=false:=by simp[hkind]
 have e2:(nd.Xa==2)=false:=by simp[hkind]
 have e3:(nd.Xa==3)=true:=by simp[hkind]
 have e5:(nd.Xa==5)=false:=by simp[hkind]
 have e6:(nd.Xa==6)=false:=by simp[hkind]
 have e4:(nd.Xa==4)=false:=by simp[hkind]
 clear hd hk hh hw hsz hsrc o hwp hcg hm hCi hCl hCh hCg hcont s1 s2 s3 s4 hkk hkc hwl hdup hmid hal hkind h1 hnd
 go_enter Tryz.func107,Tryz.ntmps107
 go_wp2_with fail
 refine HN.out.mono ?_
 rintro e w2⟨ka,kc,aa,ac,rfl,o2⟩
 clear HN
 have HT:=Xqh (XV (w:=w2) nd ka kc aa ac nd.Xc.length nd.Xb.length)
 have o5:=o2.XU nd (.slice ka nd.Xc.length kc) (.slice aa nd.Xb.length ac)
 go_wp2_with((with_reducible refine wpList_store_mid ?_ 41 (.tmp 11) (.tmp 26) ?_ w2.heap.size 0 (nd.cells (.slice ka nd.Xc.length kc) (.slice aa nd.Xb.length ac)).toArray ?_ ?_ ?_ ?_ ?_ ?_);exact rfl;exact rfl;exact rfl;exact rfl;exact HT.out.1;exact XM _ _ _;exact all_oneCell_toArray HT.out.2;clear HT;generalize hw5:World.setCells _ _ _ _=w5 at o5⊢;generalize hg5:w2.heap.size=g5 at o5⊢;clear hw5 hg5;have q0:w5.cell? ⟨g5,0,none⟩=some (.int .i64 nd.Xa):=(cell_of_row w5 _ _ _ _ _ (o5.box (g:=g5) (o:= .cells (nd.cells (.slice ka nd.Xc.length kc) (.slice aa nd.Xb.length ac)).toArray 41 (0,0)) (by simp))).trans rfl;have f0:w5.cell? ⟨g5,5,none⟩=some (.string nd.name):=(cell_of_row w5 _ _ _ _ _ (o5.box (g:=g5) (o:= .cells (nd.cells (.slice ka nd.Xc.length kc) (.slice aa nd.Xb.length ac)).toArray 41 (0,0)) (by simp))).trans rfl;have f1:w5.cell? ⟨g5,8,none⟩=some (.string nd.pub):=(cell_of_row w5 _ _ _ _ _ (o5.box (g:=g5) (o:= .cells (nd.cells (.slice ka nd.Xc.length kc) (.slice aa nd.Xb.length ac)).toArray 41 (0,0)) (by simp))).trans rfl;have f2:w5.cell? ⟨g5,9,none⟩=some (.string nd.sys):=(cell_of_row w5 _ _ _ _ _ (o5.box (g:=g5) (o:= .cells (nd.cells (.slice ka nd.Xc.length kc) (.slice aa nd.Xb.length ac)).toArray 41 (0,0)) (by simp))).trans rfl)
 have oM:=o5.perm (by simpa using(List.perm_append_comm (l₁:= [Xf.box g5 (.cells (nd.cells (.slice ka nd.Xc.length kc) (.slice aa nd.Xb.length ac)).toArray 41 (0,0)),.ints (.slice ka nd.Xc.length kc) nd.Xc,.atts (.slice aa nd.Xb.length ac) nd.Xb]) (l₂:= [Xf.arena b A])).append_right L)
 have HM:=Xqh (HMK.out _ _ oM)
 clear o5 oM HMK
 go_wp2_with fail
 refine HM.out.mono ?_
 rintro e w6⟨rfl,o6⟩
 clear HM q0 f0 f1 f2
 rw[←t0]at o6
 have q2:w6.cell? ⟨g5,2,none⟩=some (.slice ka nd.Xc.length kc):=(cell_of_row w6 _ _ _ _ _ (o6.box (g:=g5) (o:= .cells (nd.cells (.slice ka nd.Xc.length kc) (.slice aa nd.Xb.length ac)).toArray 41 (0,0)) (by simp))).trans rfl
 have HO6:=Xqh o6
 clear o6 t0 t1 t2 t3
 go_wp2
 go_loopw [134](fun i wr=>∃k:Nat,k≤nd.Xc.length∧i= .int .i64 k∧Hid (Own w0 B (.arena b (st k):: .box g5 (.cells (nd.cells (.slice ka nd.Xc.length kc) (.slice aa nd.Xb.length ac)).toArray 41 (0,0)):: .ints (.slice ka nd.Xc.length kc) nd.Xc:: .atts (.slice aa nd.Xb.length ac) nd.Xb::L) wr))(fun i _=>nd.Xc.length-(intOf i).toNat)
 case atStart=>exact⟨0,Nat.zero_le _,rfl,HO6⟩
 case round=>obtain⟨k,hk,rfl,hT⟩:=hrel;by_cases hlt:k<nd.Xc.length;·{obtain⟨x,hx⟩:∃x,nd.Xc[k]?=some x:=⟨_,List.getElem?_eq_getElem hlt⟩;have hri:Xy wr (.slice ka nd.Xc.length kc) nd.Xc:=hT.out.ints (by simp);obtain⟨b1,o1,rfl,-,hcs⟩:=hri.cells (by omega);have c1:=hcs k x hx;have HC:=Xqh (HCALL.out k x hx w0 B _ wr (fun a ha=>by simp[ha]) hT.out);have HP:=Xqh (HPUT.out k x hx);clear hri hcs hx hT;go_wp2_with fail;refine HC.out.mono ?_;rintro e w7⟨rfl,o7⟩;have HP7:=Xqh (HP.out w0 B _ _ o7);clear o7 HC HP;go_wp2_with fail;refine HP7.out.mono ?_;rintro e w8⟨⟨pv,rfl⟩,o8⟩;have HO8:=Xqh o8;clear o8 HP7 c1;go_wp2;go_roundw;(case rel=>exact⟨k+1,hlt,by go_num,HO8⟩);case measure=>simp[intOf];omega};·have hkl:k=nd.Xc.length:=by{omega};have o9:=hT.out;rw[hkl,HFINST.out]at o9;have HO9:=Xqh o9;clear o9 hT hkl;go_wp2;go_ret;rw[HF.out];exact⟨rfl,HO9.out.swap.drop.swap.drop.swap.drop⟩
theorem XmB {C:Ar}(hC:C.Inv)(hCs:C.ns.length≤300000){b bf m:Nat}(ih:Z7 C b bf m)(A:Ar)(d h:Int)(L:List Xf)(w0 w:World)(B:Nat)(hA:A.Inv)(hd:A.has d)(hk:(A.get d).Xa=1)(hh:C.has h)(hw:(C.Xi h).length≤m+1)(hsz:(if(C.get h).Xa=1 then A.ns.length+2 else A.cap d)+(C.Xi h).length+2≤300000)(hsrc:Src C b bf A L)(o:Own w0 B (.arena b A::L) w)(hkind:(C.get h).Xa=3):Calls Tryz.prog 107 #[.pointer (some ⟨b,0,none⟩),.int .i64 d,.pointer (some ⟨bf,0,none⟩),.int .i64 h,.bool false] w fun e w'=>e= .returned (.int .i64 (dupF C false (m+1) A d h).1)∧Own w0 B (.arena b (dupF C false (m+1) A d h).2::L) w':=by
 have h1:(C.get h).Xa≠1:=by omega
 rw[if_neg h1]at hsz
 have hwp:=YL hC hh
 have hcg:=Ar.Yv A d
 obtain⟨C',hm,hCi,hCl,hCh,hCg⟩:=hsrc.at' hA hC (by omega) hCs hh
 have hcont:(C.get h).Xg=0:=hC.YG h hh (.inr (fun q=>by have:=q.1;omega))
 obtain⟨s1,s2,s3,s4⟩:=Yr.Xj hA hC hd hk hh h1
 rw[if_neg (fun q=>q hcont)]at s1
 have hkk:=ZF hC hh hw
 have hkc:(C.get h).Xc≠ []→((A.Xj d (C.get h)).2.get (A.n+1)).Xa=1∨((A.Xj d (C.get h)).2.get (A.n+1)).Xa=2∨((A.Xj d (C.get h)).2.get (A.n+1)).Xa=4:=fun q=>by rw[s4];exact hC.ZB h hh q
 have hwl:=ZO hC hh
 have hkl:=Ar.Yz hC.wf hh
 have hdup:=Y8 C false m A d h
 have hmid:XH C false m (A.Xj d (C.get h)) d h=(A.Xj d (C.get h)).2:=by unfold XH;rw[if_neg (fun q=>q.2.2 hcont)]
 rw[hmid,if_neg h1]at hdup
 generalize hnd:C.get h=nd at*
 have HN:=Xqh (Jm (b:=bf) (A:=C') o hm (hCi.short (by omega)) hCh hCg)
 have hal:A.Xj d nd=((A.make d (YT nd.name nd.pub nd.sys)).1.1,(A.make d (YT nd.name nd.pub nd.sys)).2):=by unfold Ar.Xj;simp[hkind]
 have HMK:=Xqh (fun l' W(q:Own w0 B (.arena b A::l') W)=>q.call (fun ρ hA'=>XcE A ρ b d nd.name nd.pub nd.sys W hA' (by omega)))
 unfold Xl at HMK
 rw[hal]at s1 s2 s3 s4 hkc hdup
 generalize A.make d (YT nd.name nd.pub nd.sys)=R at*
 obtain⟨⟨c,er⟩,A2⟩:=R
 dsimp only at*
 rw[if_neg (by decide)]at hdup
 have HF:=Xqh hdup
 have e1:(nd.Xa==1)=false:=by simp[hkind]
 have e2:(nd.Xa==2)=false:=by simp[hkind]
 have e3:(nd.Xa==3)=true:=by simp[hkind]
 have e5:(nd.Xa==5)=false:=by simp[hkind]
 have e6:(nd.Xa==6)=false:=by simp[hkind]
 have e4:(nd.Xa==4)=false:=by simp[hkind]
 clear hd hk hh hw hsz hsrc o hwp hcg hm hCi hCl hCh hCg hcont s1 s2 s3 s4 hkk hkc hwl hdup hmid hal hkind h1 hnd
 go_enter Tryz.func107,Tryz.ntmps107
 go_wp2_with fail
 refine HN.out.mono ?_
 rintro e w2⟨ka,kc,aa,ac,rfl,o2⟩
 clear HN
 have HT:=Xqh (XV (w:=w2) nd ka kc aa ac nd.Xc.length nd.Xb.length)
 have o5:=o2.XU nd (.slice ka nd.Xc.length kc) (.slice aa nd.Xb.length ac)
 go_wp2_with((with_reducible refine wpList_store_mid ?_ 41 (.tmp 11) (.tmp 26) ?_ w2.heap.size 0 (nd.cells (.slice ka nd.Xc.length kc) (.slice aa nd.Xb.length ac)).toArray ?_ ?_ ?_ ?_ ?_ ?_);exact rfl;exact rfl;exact rfl;exact rfl;exact HT.out.1;exact XM _ _ _;exact all_oneCell_toArray HT.out.2;clear HT;generalize hw5:World.setCells _ _ _ _=w5 at o5⊢;generalize hg5:w2.heap.size=g5 at o5⊢;clear hw5 hg5;have q0:w5.cell? ⟨g5,0,none⟩=some (.int .i64 nd.Xa):=(cell_of_row w5 _ _ _ _ _ (o5.box (g:=g5) (o:= .cells (nd.cells (.slice ka nd.Xc.length kc) (.slice aa nd.Xb.length ac)).toArray 41 (0,0)) (by simp))).trans rfl;have f0:w5.cell? ⟨g5,5,none⟩=some (.string nd.name):=(cell_of_row w5 _ _ _ _ _ (o5.box (g:=g5) (o:= .cells (nd.cells (.slice ka nd.Xc.length kc) (.slice aa nd.Xb.length ac)).toArray 41 (0,0)) (by simp))).trans rfl;have f1:w5.cell? ⟨g5,8,none⟩=some (.string nd.pub):=(cell_of_row w5 _ _ _ _ _ (o5.box (g:=g5) (o:= .cells (nd.cells (.slice ka nd.Xc.length kc) (.slice aa nd.Xb.length ac)).toArray 41 (0,0)) (by simp))).trans rfl;have f2:w5.cell? ⟨g5,9,none⟩=some (.string nd.sys):=(cell_of_row w5 _ _ _ _ _ (o5.box (g:=g5) (o:= .cells (nd.cells (.slice ka nd.Xc.length kc) (.slice aa nd.Xb.length ac)).toArray 41 (0,0)) (by simp))).trans rfl)
 have oM:=o5.perm (by simpa using(List.perm_append_comm (l₁:= [Xf.box g5 (.cells (nd.cells (.slice ka nd.Xc.length kc) (.slice aa nd.Xb.length ac)).toArray 41 (0,0)),.ints (.slice ka nd.Xc.length kc) nd.Xc,.atts (.slice aa nd.Xb.length ac) nd.Xb]) (l₂:= [Xf.arena b A])).append_right L)
 have HM:=Xqh (HMK.out _ _ oM)
 clear o5 oM HMK
 go_wp2_with fail
 refine HM.out.mono ?_
 rintro e w6⟨rfl,o6⟩
 clear HM q0 f0 f1 f2
 have HO6:=Xqh o6
 clear o6
 go_wp2
 go_ret
 rw[HF.out]
 exact⟨rfl,HO6.out.swap.drop.swap.drop.swap.drop⟩
theorem XmC {C:Ar}(hC:C.Inv)(hCs:C.ns.length≤300000){b bf m:Nat}(ih:Z7 C b bf m)(A:Ar)(d h:Int)(L:List Xf)(w0 w:World)(B:Nat)(hA:A.Inv)(hd:A.has d)(hk:(A.get d).Xa=1)(hh:C.has h)(hw:(C.Xi h).length≤m+1)(hsz:(if(C.get h).Xa=1 then A.ns.length+2 else A.cap d)+(C.Xi h).length+2≤300000)(hsrc:Src C b bf A L)(o:Own w0 B (.arena b A::L) w)(hkind:(C.get h).Xa=5):Calls Tryz.prog 107 #[.pointer (some ⟨b,0,none⟩),.int .i64 d,.pointer (some ⟨bf,0,none⟩),.int .i64 h,.bool true] w fun e w'=>e= .returned (.int .i64 (dupF C true (m+1) A d h).1)∧Own w0 B (.arena b (dupF C true (m+1) A d h).2::L) w':=by
 have h1:(C.get h).Xa≠1:=by omega
 rw[if_neg h1]at hsz
 have hwp:=YL hC hh
 have hcg:=Ar.Yv A d
 obtain⟨C',hm,hCi,hCl,hCh,hCg⟩:=hsrc.at' hA hC (by omega) hCs hh
 have hcont:(C.get h).Xg=0:=hC.YG h hh (.inr (fun q=>by have:=q.1;omega))
 obtain⟨s1,s2,s3,s4⟩:=Yr.Xj hA hC hd hk hh h1
 rw[if_neg (fun q=>q hcont)]at s1
 have hkk:=ZF hC hh hw
 have hkc:(C.get h).Xc≠ []→((A.Xj d (C.get h)).2.get (A.n+1)).Xa=1∨((A.Xj d (C.get h)).2.get (A.n+1)).Xa=2∨((A.Xj d (C.get h)).2.get (A.n+1)).Xa=4:=fun q=>by rw[s4];exact hC.ZB h hh q
 have hwl:=ZO hC hh
 have hkl:=Ar.Yz hC.wf hh
 have hdup:=Y8 C true m A d h
 have hmid:XH C true m (A.Xj d (C.get h)) d h=(A.Xj d (C.get h)).2:=by unfold XH;rw[if_neg (fun q=>q.2.2 hcont)]
 rw[hmid,if_neg h1]at hdup
 generalize hnd:C.get h=nd at*
 have HN:=Xqh (Jm (b:=bf) (A:=C') o hm (hCi.short (by omega)) hCh hCg)
 have hal:A.Xj d nd=((A.make d (Xs nd.data)).1.1,(A.make d (Xs nd.data)).2):=by unfold Ar.Xj;simp[hkind]
 have HMK:=Xqh (fun l' W(q:Own w0 B (.arena b A::l') W)=>q.call (fun ρ hA'=>Xbe A ρ b d nd.data W hA' (by omega)))
 unfold Xl at HMK
 rw[hal]at s1 s2 s3 s4 hkc hdup
 generalize A.make d (Xs nd.data)=R at*
 obtain⟨⟨c,er⟩,A2⟩:=R
 dsimp only at*
 rw[if_pos rfl]at hdup
 obtain⟨st,yv,ya,t0,t1,t2,t3⟩:=Xaz hC ih s1 (c:=c) (by rw[s2];exact JH) (by rw[s2];exact s3) nd.Xc (by rw[s2];exact hkc) hkk (by omega) hsrc
 have HFINST:=Xqh t1
 have HCALL:=Xqh t2
 have HPUT:=Xqh t3
 have HF:=Xqh hdup
 have hkl2:(nd.Xc.length:Int)≤300000:=by omega
 have e1:(nd.Xa==1)=false:=by simp[hkind]
 have e2:(nd.Xa==2)=false:=by simp[hkind]
 have e3:(nd.Xa==3)=false:=by simp[hkind]
 have e5:(nd.Xa==5)=true:=by simp[hkind]
 have e6:(nd.Xa==6)=false:=by simp[hkind]
 have e4:(nd.Xa==4)=false:=by simp[hkind]
 clear hd hk hh hw hsz hsrc o hwp hcg hm hCi hCl hCh hCg hcont s1 s2 s3 s4 hkk hkc hwl hdup hmid hal hkind h1 hnd
 go_enter Tryz.func107,Tryz.ntmps107
 go_wp2_with fail
 refine HN.out.mono ?_
 rintro e w2⟨ka,kc,aa,ac,rfl,o2⟩
 clear HN
 have HT:=Xqh (XV (w:=w2) nd ka kc aa ac nd.Xc.length nd.Xb.length)
 have o5:=o2.XU nd (.slice ka nd.Xc.length kc) (.slice aa nd.Xb.length ac)
 go_wp2_with((with_reducible refine wpList_store_mid ?_ 41 (.tmp 11) (.tmp 26) ?_ w2.heap.size 0 (nd.cells (.slice ka nd.Xc.length kc) (.slice aa nd.Xb.length ac)).toArray ?_ ?_ ?_ ?_ ?_ ?_);exact rfl;exact rfl;exact rfl;exact rfl;exact HT.out.1;exact XM _ _ _;exact all_oneCell_toArray HT.out.2;clear HT;generalize hw5:World.setCells _ _ _ _=w5 at o5⊢;generalize hg5:w2.heap.size=g5 at o5⊢;clear hw5 hg5;have q0:w5.cell? ⟨g5,0,none⟩=some (.int .i64 nd.Xa):=(cell_of_row w5 _ _ _ _ _ (o5.box (g:=g5) (o:= .cells (nd.cells (.slice ka nd.Xc.length kc) (.slice aa nd.Xb.length ac)).toArray 41 (0,0)) (by simp))).trans rfl;have f0:w5.cell? ⟨g5,7,none⟩=some (.string nd.data):=(cell_of_row w5 _ _ _ _ _ (o5.box (g:=g5) (o:= .cells (nd.cells (.slice ka nd.Xc.length kc) (.slice aa nd.Xb.length ac)).toArray 41 (0,0)) (by simp))).trans rfl)
 have oM:=o5.perm (by simpa using(List.perm_append_comm (l₁:= [Xf.box g5 (.cells (nd.cells (.slice ka nd.Xc.length kc) (.slice aa nd.Xb.length ac)).toArray 41 (0,0)),.ints (.slice ka nd.Xc.length kc) nd.Xc,.atts (.slice aa nd.Xb.length ac) nd.Xb]) (l₂:= [Xf.arena b A])).append_right L)
 have HM:=Xqh (HMK.out _ _ oM)
 clear o5 oM HMK
 go_wp2_with fail
 refine HM.out.mono ?_
 rintro e w6⟨rfl,o6⟩
 clear HM q0 f0
 rw[←t0]at o6
 have q2:w6.cell? ⟨g5,2,none⟩=some (.slice ka nd.Xc.length kc):=(cell_of_row w6 _ _ _ _ _ (o6.box (g:=g5) (o:= .cells (nd.cells (.slice ka nd.Xc.length kc) (.slice aa nd.Xb.length ac)).toArray 41 (0,0)) (by simp))).trans rfl
 have HO6:=Xqh o6
 clear o6 t0 t1 t2 t3
 go_wp2
 go_loopw [134](fun i wr=>∃k:Nat,k≤nd.Xc.length∧i= .int .i64 k∧Hid (Own w0 B (.arena b (st k):: .box g5 (.cells (nd.cells (.slice ka nd.Xc.length kc) (.slice aa nd.Xb.length ac)).toArray 41 (0,0)):: .ints (.slice ka nd.Xc.length kc) nd.Xc:: .atts (.slice aa nd.Xb.length ac) nd.Xb::L) wr))(fun i _=>nd.Xc.length-(intOf i).toNat)
 case atStart=>exact⟨0,Nat.zero_le _,rfl,HO6⟩
 case round=>obtain⟨k,hk,rfl,hT⟩:=hrel;by_cases hlt:k<nd.Xc.length;·{obtain⟨x,hx⟩:∃x,nd.Xc[k]?=some x:=⟨_,List.getElem?_eq_getElem hlt⟩;have hri:Xy wr (.slice ka nd.Xc.length kc) nd.Xc:=hT.out.ints (by simp);obtain⟨b1,o1,rfl,-,hcs⟩:=hri.cells (by omega);have c1:=hcs k x hx;have HC:=Xqh (HCALL.out k x hx w0 B _ wr (fun a ha=>by simp[ha]) hT.out);have HP:=Xqh (HPUT.out k x hx);clear hri hcs hx hT;go_wp2_with fail;refine HC.out.mono ?_;rintro e w7⟨rfl,o7⟩;have HP7:=Xqh (HP.out w0 B _ _ o7);clear o7 HC HP;go_wp2_with fail;refine HP7.out.mono ?_;rintro e w8⟨⟨pv,rfl⟩,o8⟩;have HO8:=Xqh o8;clear o8 HP7 c1;go_wp2;go_roundw;(case rel=>exact⟨k+1,hlt,by go_num,HO8⟩);case measure=>simp[intOf];omega};·have hkl:k=nd.Xc.length:=by{omega};have o9:=hT.out;rw[hkl,HFINST.out]at o9;have HO9:=Xqh o9;clear o9 hT hkl;go_wp2;go_ret;rw[HF.out];exact⟨rfl,HO9.out.swap.drop.swap.drop.swap.drop⟩
theorem XmD {C:Ar}(hC:C.Inv)(hCs:C.ns.length≤300000){b bf m:Nat}(ih:Z7 C b bf m)(A:Ar)(d h:Int)(L:List Xf)(w0 w:World)(B:Nat)(hA:A.Inv)(hd:A.has d)(hk:(A.get d).Xa=1)(hh:C.has h)(hw:(C.Xi h).length≤m+1)(hsz:(if(C.get h).Xa=1 then A.ns.length+2 else A.cap d)+(C.Xi h).length+2≤300000)(hsrc:Src C b bf A L)(o:Own w0 B (.arena b A::L) w)(hkind:(C.get h).Xa=5):Calls Tryz.prog 107 #[.pointer (some ⟨b,0,none⟩),.int .i64 d,.pointer (some ⟨bf,0,none⟩),.int .i64 h,.bool false] w fun e w'=>e= .returned (.int .i64 (dupF C false (m+1) A d h).1)∧Own w0 B (.arena b (dupF C false (m+1) A d h).2::L) w':=by
 have h1:(C.get h).Xa≠1:=by omega
 rw[if_neg h1]at hsz
 have hwp:=YL hC hh
 have hcg:=Ar.Yv A d
 obtain⟨C',hm,hCi,hCl,hCh,hCg⟩:=hsrc.at' hA hC (by omega) hCs hh
 have hcont:(C.get h).Xg=0:=hC.YG h hh (.inr (fun q=>by have:=q.1;omega))
 obtain⟨s1,s2,s3,s4⟩:=Yr.Xj hA hC hd hk hh h1
 rw[if_neg (fun q=>q hcont)]at s1
 have hkk:=ZF hC hh hw
 have hkc:(C.get h).Xc≠ []→((A.Xj d (C.get h)).2.get (A.n+1)).Xa=1∨((A.Xj d (C.get h)).2.get (A.n+1)).Xa=2∨((A.Xj d (C.get h)).2.get (A.n+1)).Xa=4:=fun q=>by rw[s4];exact hC.ZB h hh q
 have hwl:=ZO hC hh
 have hkl:=Ar.Yz hC.wf hh
 have hdup:=Y8 C false m A d h
 have hmid:XH C false m (A.Xj d (C.get h)) d h=(A.Xj d (C.get h)).2:=by unfold XH;rw[if_neg (fun q=>q.2.2 hcont)]
 rw[hmid,if_neg h1]at hdup
 generalize hnd:C.get h=nd at*
 have HN:=Xqh (Jm (b:=bf) (A:=C') o hm (hCi.short (by omega)) hCh hCg)
 have hal:A.Xj d nd=((A.make d (Xs nd.data)).1.1,(A.make d (Xs nd.data)).2):=by unfold Ar.Xj;simp[hkind]
 have HMK:=Xqh (fun l' W(q:Own w0 B (.arena b A::l') W)=>q.call (fun ρ hA'=>Xbe A ρ b d nd.data W hA' (by omega)))
 unfold Xl at HMK
 rw[hal]at s1 s2 s3 s4 hkc hdup
 generalize A.make d (Xs nd.data)=R at*
 obtain⟨⟨c,er⟩,A2⟩:=R
 dsimp only at*
 rw[if_neg (by decide)]at hdup
 have HF:=Xqh hdup
 have e1:(nd.Xa==1)=false:=by simp[hkind]
 have e2:(nd.Xa==2)=false:=by simp[hkind]
 have e3:(nd.Xa==3)=false:=by simp[hkind]
 have e5:(nd.Xa==5)=true:=by simp[hkind]
 have e6:(nd.Xa==6)=false:=by simp[hkind]
 have e4:(nd.Xa==4)=false:=by simp[hkind]
 clear hd hk hh hw hsz hsrc o hwp hcg hm hCi hCl hCh hCg hcont s1 s2 s3 s4 hkk hkc hwl hdup hmid hal hkind h1 hnd
 go_enter Tryz.func107,Tryz.ntmps107
 go_wp2_with fail
 refine HN.out.mono ?_
 rintro e w2⟨ka,kc,aa,ac,rfl,o2⟩
 clear HN
 have HT:=Xqh (XV (w:=w2) nd ka kc aa ac nd.Xc.length nd.Xb.length)
 have o5:=o2.XU nd (.slice ka nd.Xc.length kc) (.slice aa nd.Xb.length ac)
 go_wp2_with((with_reducible refine wpList_store_mid ?_ 41 (.tmp 11) (.tmp 26) ?_ w2.heap.size 0 (nd.cells (.slice ka nd.Xc.length kc) (.slice aa nd.Xb.length ac)).toArray ?_ ?_ ?_ ?_ ?_ ?_);exact rfl;exact rfl;exact rfl;exact rfl;exact HT.out.1;exact XM _ _ _;exact all_oneCell_toArray HT.out.2;clear HT;generalize hw5:World.setCells _ _ _ _=w5 at o5⊢;generalize hg5:w2.heap.size=g5 at o5⊢;clear hw5 hg5;have q0:w5.cell? ⟨g5,0,none⟩=some (.int .i64 nd.Xa):=(cell_of_row w5 _ _ _ _ _ (o5.box (g:=g5) (o:= .cells (nd.cells (.slice ka nd.Xc.length kc) (.slice aa nd.Xb.length ac)).toArray 41 (0,0)) (by simp))).trans rfl;have f0:w5.cell? ⟨g5,7,none⟩=some (.string nd.data):=(cell_of_row w5 _ _ _ _ _ (o5.box (g:=g5) (o:= .cells (nd.cells (.slice ka nd.Xc.length kc) (.slice aa nd.Xb.length ac)).toArray 41 (0,0)) (by simp))).trans rfl)
 have oM:=o5.perm (by simpa using(List.perm_append_comm (l₁:= [Xf.box g5 (.cells (nd.cells (.slice ka nd.Xc.length kc) (.slice aa nd.Xb.length ac)).toArray 41 (0,0)),.ints (.slice ka nd.Xc.length kc) nd.Xc,.atts (.slice aa nd.Xb.length ac) nd.Xb]) (l₂:= [Xf.arena b A])).append_right L)
 have HM:=Xqh (HMK.out _ _ oM)
 clear o5 oM HMK
 go_wp2_with fail
 refine HM.out.mono ?_
 rintro e w6⟨rfl,o6⟩
 clear HM q0 f0
 have HO6:=Xqh o6
 clear o6
 go_wp2
 go_ret
 rw[HF.out]
 exact⟨rfl,HO6.out.swap.drop.swap.drop.swap.drop⟩
theorem XmE {C:Ar}(hC:C.Inv)(hCs:C.ns.length≤300000){b bf m:Nat}(ih:Z7 C b bf m)(A:Ar)(d h:Int)(L:List Xf)(w0 w:World)(B:Nat)(hA:A.Inv)(hd:A.has d)(hk:(A.get d).Xa=1)(hh:C.has h)(hw:(C.Xi h).length≤m+1)(hsz:(if(C.get h).Xa=1 then A.ns.length+2 else A.cap d)+(C.Xi h).length+2≤300000)(hsrc:Src C b bf A L)(o:Own w0 B (.arena b A::L) w)(hkind:(C.get h).Xa=6):Calls Tryz.prog 107 #[.pointer (some ⟨b,0,none⟩),.int .i64 d,.pointer (some ⟨bf,0,none⟩),.int .i64 h,.bool true] w fun e w'=>e= .returned (.int .i64 (dupF C true (m+1) A d h).1)∧Own w0 B (.arena b (dupF C true (m+1) A d h).2::L) w':=by
 have h1:(C.get h).Xa≠1:=by omega
 rw[if_neg h1]at hsz
 have hwp:=YL hC hh
 have hcg:=Ar.Yv A d
 obtain⟨C',hm,hCi,hCl,hCh,hCg⟩:=hsrc.at' hA hC (by omega) hCs hh
 have hcont:(C.get h).Xg=0:=hC.YG h hh (.inr (fun q=>by have:=q.1;omega))
 obtain⟨s1,s2,s3,s4⟩:=Yr.Xj hA hC hd hk hh h1
 rw[if_neg (fun q=>q hcont)]at s1
 have hkk:=ZF hC hh hw
 have hkc:(C.get h).Xc≠ []→((A.Xj d (C.get h)).2.get (A.n+1)).Xa=1∨((A.Xj d (C.get h)).2.get (A.n+1)).Xa=2∨((A.Xj d (C.get h)).2.get (A.n+1)).Xa=4:=fun q=>by rw[s4];exact hC.ZB h hh q
 have hwl:=ZO hC hh
 have hkl:=Ar.Yz hC.wf hh
 have hdup:=Y8 C true m A d h
 have hmid:XH C true m (A.Xj d (C.get h)) d h=(A.Xj d (C.get h)).2:=by unfold XH;rw[if_neg (fun q=>q.2.2 hcont)]
 rw[hmid,if_neg h1]at hdup
 generalize hnd:C.get h=nd at*
 have HN:=Xqh (Jm (b:=bf) (A:=C') o hm (hCi.short (by omega)) hCh hCg)
 have hal:A.Xj d nd=((A.make d (YZ nd.data)).1.1,(A.make d (YZ nd.data)).2):=by unfold Ar.Xj;simp[hkind]
 have HMK:=Xqh (fun l' W(q:Own w0 B (.arena b A::l') W)=>q.call (fun ρ hA'=>Xd7 A ρ b d nd.data W hA' (by omega)))
 unfold Xl at HMK
 rw[hal]at s1 s2 s3 s4 hkc hdup
 generalize A.make d (YZ nd.data)=R at*
 obtain⟨⟨c,er⟩,A2⟩:=R
 dsimp only at*
 rw[if_pos rfl]at hdup
 obtain⟨st,yv,ya,t0,t1,t2,t3⟩:=Xaz hC ih s1 (c:=c) (by rw[s2];exact JH) (by rw[s2];exact s3) nd.Xc (by rw[s2];exact hkc) hkk (by omega) hsrc
 have HFINST:=Xqh t1
 have HCALL:=Xqh t2
 have HPUT:=Xqh t3
 have HF:=Xqh hdup
 have hkl2:(nd.Xc.length:Int)≤300000:=by omega
 have e1:(nd.Xa==1)=false:=by simp[hkind]
 have e2:(nd.Xa==2)=false:=by simp[hkind]
 have e3:(nd.Xa==3)=false:=by simp[hkind]
 have e5:(nd.Xa==5)=false:=by simp[hkind]
 have e6:(nd.Xa==6)=true:=by simp[hkind]
 have e4:(nd.Xa==4)=false:=by simp[hkind]
 clear hd hk hh hw hsz hsrc o hwp hcg hm hCi hCl hCh hCg hcont s1 s2 s3 s4 hkk hkc hwl hdup hmid hal hkind h1 hnd
 go_enter Tryz.func107,Tryz.ntmps107
 go_wp2_with fail
 refine HN.out.mono ?_
 rintro e w2⟨ka,kc,aa,ac,rfl,o2⟩
 clear HN
 have HT:=Xqh (XV (w:=w2) nd ka kc aa ac nd.Xc.length nd.Xb.length)
 have o5:=o2.XU nd (.slice ka nd.Xc.length kc) (.slice aa nd.Xb.length ac)
 go_wp2_with((with_reducible refine wpList_store_mid ?_ 41 (.tmp 11) (.tmp 26) ?_ w2.heap.size 0 (nd.cells (.slice ka nd.Xc.length kc) (.slice aa nd.Xb.length ac)).toArray ?_ ?_ ?_ ?_ ?_ ?_);exact rfl;exact rfl;exact rfl;exact rfl;exact HT.out.1;exact XM _ _ _;exact all_oneCell_toArray HT.out.2;clear HT;generalize hw5:World.setCells _ _ _ _=w5 at o5⊢;generalize hg5:w2.heap.size=g5 at o5⊢;clear hw5 hg5;have q0:w5.cell? ⟨g5,0,none⟩=some (.int .i64 nd.Xa):=(cell_of_row w5 _ _ _ _ _ (o5.box (g:=g5) (o:= .cells (nd.cells (.slice ka nd.Xc.length kc) (.slice aa nd.Xb.length ac)).toArray 41 (0,0)) (by simp))).trans rfl;have f0:w5.cell? ⟨g5,7,none⟩=some (.string nd.data):=(cell_of_row w5 _ _ _ _ _ (o5.box (g:=g5) (o:= .cells (nd.cells (.slice ka nd.Xc.length kc) (.slice aa nd.Xb.length ac)).toArray 41 (0,0)) (by simp))).trans rfl)
 have oM:=o5.perm (by simpa using(List.perm_append_comm (l₁:= [Xf.box g5 (.cells (nd.cells (.slice ka nd.Xc.length kc) (.slice aa nd.Xb.length ac)).toArray 41 (0,0)),.ints (.slice ka nd.Xc.length kc) nd.Xc,.atts (.slice aa nd.Xb.length ac) nd.Xb]) (l₂:= [Xf.arena b A])).append_right L)
 have HM:=Xqh (HMK.out _ _ oM)
 clear o5 oM HMK
 go_wp2_with fail
 refine HM.out.mono ?_
 rintro e w6⟨rfl,o6⟩
 clear HM q0 f0
 rw[←t0]at o6
 have q2:w6.cell? ⟨g5,2,none⟩=some (.slice ka nd.Xc.length kc):=(cell_of_row w6 _ _ _ _ _ (o6.box (g:=g5) (o:= .cells (nd.cells (.slice ka nd.Xc.length kc) (.slice aa nd.Xb.length ac)).toArray 41 (0,0)) (by simp))).trans rfl
 have HO6:=Xqh o6
 clear o6 t0 t1 t2 t3
 go_wp2
 go_loopw [134](fun i wr=>∃k:Nat,k≤nd.Xc.length∧i= .int .i64 k∧Hid (Own w0 B (.arena b (st k):: .box g5 (.cells (nd.cells (.slice ka nd.Xc.length kc) (.slice aa nd.Xb.length ac)).toArray 41 (0,0)):: .ints (.slice ka nd.Xc.length kc) nd.Xc:: .atts (.slice aa nd.Xb.length ac) nd.Xb::L) wr))(fun i _=>nd.Xc.length-(intOf i).toNat)
 case atStart=>exact⟨0,Nat.zero_le _,rfl,HO6⟩
 case round=>obtain⟨k,hk,rfl,hT⟩:=hrel;by_cases hlt:k<nd.Xc.length;·{obtain⟨x,hx⟩:∃x,nd.Xc[k]?=some x:=⟨_,List.getElem?_eq_getElem hlt⟩;have hri:Xy wr (.slice ka nd.Xc.length kc) nd.Xc:=hT.out.ints (by simp);obtain⟨b1,o1,rfl,-,hcs⟩:=hri.cells (by omega);have c1:=hcs k x hx;have HC:=Xqh (HCALL.out k x hx w0 B _ wr (fun a ha=>by simp[ha]) hT.out);have HP:=Xqh (HPUT.out k x hx);clear hri hcs hx hT;go_wp2_with fail;refine HC.out.mono ?_;rintro e w7⟨rfl,o7⟩;have HP7:=Xqh (HP.out w0 B _ _ o7);clear o7 HC HP;go_wp2_with fail;refine HP7.out.mono ?_;rintro e w8⟨⟨pv,rfl⟩,o8⟩;have HO8:=Xqh o8;clear o8 HP7 c1;go_wp2;go_roundw;(case rel=>exact⟨k+1,hlt,by go_num,HO8⟩);case measure=>simp[intOf];omega};·have hkl:k=nd.Xc.length:=by{omega};have o9:=hT.out;rw[hkl,HFINST.out]at o9;have HO9:=Xqh o9;clear o9 hT hkl;go_wp2;go_ret;rw[HF.out];exact⟨rfl,HO9.out.swap.drop.swap.drop.swap.drop⟩
theorem XmF {C:Ar}(hC:C.Inv)(hCs:C.ns.length≤300000){b bf m:Nat}(ih:Z7 C b bf m)(A:Ar)(d h:Int)(L:List Xf)(w0 w:World)(B:Nat)(hA:A.Inv)(hd:A.has d)(hk:(A.get d).Xa=1)(hh:C.has h)(hw:(C.Xi h).length≤m+1)(hsz:(if(C.get h).Xa=1 then A.ns.length+2 else A.cap d)+(C.Xi h).length+2≤300000)(hsrc:Src C b bf A L)(o:Own w0 B (.arena b A::L) w)(hkind:(C.get h).Xa=6):Calls Tryz.prog 107 #[.pointer (some ⟨b,0,none⟩),.int .i64 d,.pointer (some ⟨bf,0,none⟩),.int .i64 h,.bool false] w fun e w'=>e= .returned (.int .i64 (dupF C false (m+1) A d h).1)∧Own w0 B (.arena b (dupF C false (m+1) A d h).2::L) w':=by
 have h1:(C.get h).Xa≠1:=by omega
 rw[if_neg h1]at hsz
 have hwp:=YL hC hh
 have hcg:=Ar.Yv A d
 obtain⟨C',hm,hCi,hCl,hCh,hCg⟩:=hsrc.at' hA hC (by omega) hCs hh
 have hcont:(C.get h).Xg=0:=hC.YG h hh (.inr (fun q=>by have:=q.1;omega))
 obtain⟨s1,s2,s3,s4⟩:=Yr.Xj hA hC hd hk hh h1
 rw[if_neg (fun q=>q hcont)]at s1
 have hkk:=ZF hC hh hw
 have hkc:(C.get h).Xc≠ []→((A.Xj d (C.get h)).2.get (A.n+1)).Xa=1∨((A.Xj d (C.get h)).2.get (A.n+1)).Xa=2∨((A.Xj d (C.get h)).2.get (A.n+1)).Xa=4:=fun q=>by rw[s4];exact hC.ZB h hh q
 have hwl:=ZO hC hh
 have hkl:=Ar.Yz hC.wf hh
 have hdup:=Y8 C false m A d h
 have hmid:XH C false m (A.Xj d (C.get h)) d h=(A.Xj d (C.get h)).2:=by unfold XH;rw[if_neg (fun q=>q.2.2 hcont)]
 rw[hmid,if_neg h1]at hdup
 generalize hnd:C.get h=nd at*
 have HN:=Xqh (Jm (b:=bf) (A:=C') o hm (hCi.short (by omega)) hCh hCg)
 have hal:A.Xj d nd=((A.make d (YZ nd.data)).1.1,(A.make d (YZ nd.data)).2):=by unfold Ar.Xj;simp[hkind]
 have HMK:=Xqh (fun l' W(q:Own w0 B (.arena b A::l') W)=>q.call (fun ρ hA'=>Xd7 A ρ b d nd.data W hA' (by omega)))
 unfold Xl at HMK
 rw[hal]at s1 s2 s3 s4 hkc hdup
 generalize A.make d (YZ nd.data)=R at*
 obtain⟨⟨c,er⟩,A2⟩:=R
 dsimp only at*
 rw[if_neg (by decide)]at hdup
 have HF:=Xqh hdup
 have e1:(nd.Xa==1)=false:=by simp[hkind]
 have e2:(nd.Xa==2)=false:=by simp[hkind]
 have e3:(nd.Xa==3)=false:=by simp[hkind]
 have e5:(nd.Xa==5)=false:=by simp[hkind]
 have e6:(nd.Xa==6)=true:=by simp[hkind]
 have e4:(nd.Xa==4)=false:=by simp[hkind]
 clear hd hk hh hw hsz hsrc o hwp hcg hm hCi hCl hCh hCg hcont s1 s2 s3 s4 hkk hkc hwl hdup hmid hal hkind h1 hnd
 go_enter Tryz.func107,Tryz.ntmps107
 go_wp2_with fail
 refine HN.out.mono ?_
 rintro e w2⟨ka,kc,aa,ac,rfl,o2⟩
 clear HN
 have HT:=Xqh (XV (w:=w2) nd ka kc aa ac nd.Xc.length nd.Xb.length)
 have o5:=o2.XU nd (.slice ka nd.Xc.length kc) (.slice aa nd.Xb.length ac)
 go_wp2_with((with_reducible refine wpList_store_mid ?_ 41 (.tmp 11) (.tmp 26) ?_ w2.heap.size 0 (nd.cells (.slice ka nd.Xc.length kc) (.slice aa nd.Xb.length ac)).toArray ?_ ?_ ?_ ?_ ?_ ?_);exact rfl;exact rfl;exact rfl;exact rfl;exact HT.out.1;exact XM _ _ _;exact all_oneCell_toArray HT.out.2;clear HT;generalize hw5:World.setCells _ _ _ _=w5 at o5⊢;generalize hg5:w2.heap.size=g5 at o5⊢;clear hw5 hg5;have q0:w5.cell? ⟨g5,0,none⟩=some (.int .i64 nd.Xa):=(cell_of_row w5 _ _ _ _ _ (o5.box (g:=g5) (o:= .cells (nd.cells (.slice ka nd.Xc.length kc) (.slice aa nd.Xb.length ac)).toArray 41 (0,0)) (by simp))).trans rfl;have f0:w5.cell? ⟨g5,7,none⟩=some (.string nd.data):=(cell_of_row w5 _ _ _ _ _ (o5.box (g:=g5) (o:= .cells (nd.cells (.slice ka nd.Xc.length kc) (.slice aa nd.Xb.length ac)).toArray 41 (0,0)) (by simp))).trans rfl)
 have oM:=o5.perm (by simpa using(List.perm_append_comm (l₁:= [Xf.box g5 (.cells (nd.cells (.slice ka nd.Xc.length kc) (.slice aa nd.Xb.length ac)).toArray 41 (0,0)),.ints (.slice ka nd.Xc.length kc) nd.Xc,.atts (.slice aa nd.Xb.length ac) nd.Xb]) (l₂:= [Xf.arena b A])).append_right L)
 have HM:=Xqh (HMK.out _ _ oM)
 clear o5 oM HMK
 go_wp2_with fail
 refine HM.out.mono ?_
 rintro e w6⟨rfl,o6⟩
 clear HM q0 f0
 have HO6:=Xqh o6
 clear o6
 go_wp2
 go_ret
 rw[HF.out]
 exact⟨rfl,HO6.out.swap.drop.swap.drop.swap.drop⟩
theorem XmG {C:Ar}(hC:C.Inv)(hCs:C.ns.length≤300000){b bf m:Nat}(ih:Z7 C b bf m)(A:Ar)(d h:Int)(L:List Xf)(w0 w:World)(B:Nat)(hA:A.Inv)(hd:A.has d)(hk:(A.get d).Xa=1)(hh:C.has h)(hw:(C.Xi h).length≤m+1)(hsz:(if(C.get h).Xa=1 then A.ns.length+2 else A.cap d)+(C.Xi h).length+2≤300000)(hsrc:Src C b bf A L)(o:Own w0 B (.arena b A::L) w)(hkind:(C.get h).Xa=1):Calls Tryz.prog 107 #[.pointer (some ⟨b,0,none⟩),.int .i64 d,.pointer (some ⟨bf,0,none⟩),.int .i64 h,.bool true] w fun e w'=>e= .returned (.int .i64 (dupF C true (m+1) A d h).1)∧Own w0 B (.arena b (dupF C true (m+1) A d h).2::L) w':=by
 rw[if_pos hkind]at hsz
 obtain⟨C',hm,hCi,hCl,hCh,hCg⟩:=hsrc.at' hA hC (by omega) hCs hh
 have hcont:(C.get h).Xg=0:=hC.YG h hh (.inr (fun q=>by have:=q.1;omega))
 obtain⟨s1,s3,s4⟩:=Yr.Xn hA (C.get h).XI
 have hkk:=ZF hC hh hw
 have hwl:=ZO hC hh
 have hkl:=Ar.Yz hC.wf hh
 have hdup:=Y8 C true m A d h
 have hal:A.Xj d (C.get h)=(A.n+1,A.Xn (C.get h).XI):=by unfold Ar.Xj;rw[if_pos hkind]
 have hmid:XH C true m (A.Xj d (C.get h)) d h=(A.Xj d (C.get h)).2:=by unfold XH;rw[if_neg (fun q=>q.2.2 hcont)]
 rw[hmid,if_pos hkind,hal]at hdup
 generalize hnd:C.get h=nd at*
 have HN:=Xqh (Jm (b:=bf) (A:=C') o hm (hCi.short (by omega)) hCh hCg)
 have HMK:=Xqh (fun l' W(q:Own w0 B (.arena b A::l') W)=>q.call (fun ρ hA'=>XbO A ρ b nd.XI W hA' (by omega)))
 have hnn:¬A.has (A.n+1):=JH
 generalize A.Xn nd.XI=A2 at*
 generalize A.n+1=c at*
 dsimp only at hdup
 rw[if_pos rfl]at hdup
 obtain⟨st,yv,ya,t0,t1,t2,t3⟩:=Xaz hC ih s1 (c:=c) hnn s3 nd.Xc (fun _=> .inl s4) hkk (by omega) hsrc
 have HFINST:=Xqh t1
 have HCALL:=Xqh t2
 have HPUT:=Xqh t3
 have HF:=Xqh hdup
 have hkl2:(nd.Xc.length:Int)≤300000:=by omega
 have e1:(nd.Xa==1)=true:=by simp[hkind]
 have e2:(nd.Xa==2)=false:=by simp[hkind]
 have e3:(nd.Xa==3)=false:=by simp[hkind]
 have e5:(nd.Xa==5)=false:=by simp[hkind]
 have e6:(nd.Xa==6)=false:=by simp[hkind]
 have e4:(nd.Xa==4)=false:=by simp[hkind]
 clear hd hk hh hw hsz hsrc o hm hCi hCl hCh hCg hcont s1 s3 s4 hkk hwl hdup hmid hal hkind hnd hnn
 go_enter Tryz.func107,Tryz.ntmps107
 go_wp2_with fail
 refine HN.out.mono ?_
 rintro e w2⟨ka,kc,aa,ac,rfl,o2⟩
 clear HN
 have HT:=Xqh (XV (w:=w2) nd ka kc aa ac nd.Xc.length nd.Xb.length)
 have o5:=o2.XU nd (.slice ka nd.Xc.length kc) (.slice aa nd.Xb.length ac)
 go_wp2_with((with_reducible refine wpList_store_mid ?_ 41 (.tmp 11) (.tmp 26) ?_ w2.heap.size 0 (nd.cells (.slice ka nd.Xc.length kc) (.slice aa nd.Xb.length ac)).toArray ?_ ?_ ?_ ?_ ?_ ?_);exact rfl;exact rfl;exact rfl;exact rfl;exact HT.out.1;exact XM _ _ _;exact all_oneCell_toArray HT.out.2;clear HT;generalize hw5:World.setCells _ _ _ _=w5 at o5⊢;generalize hg5:w2.heap.size=g5 at o5⊢;clear hw5 hg5;have q0:w5.cell? ⟨g5,0,none⟩=some (.int .i64 nd.Xa):=(cell_of_row w5 _ _ _ _ _ (o5.box (g:=g5) (o:= .cells (nd.cells (.slice ka nd.Xc.length kc) (.slice aa nd.Xb.length ac)).toArray 41 (0,0)) (by simp))).trans rfl;have f0:w5.cell? ⟨g5,10,none⟩=some (.bool nd.XI):=(cell_of_row w5 _ _ _ _ _ (o5.box (g:=g5) (o:= .cells (nd.cells (.slice ka nd.Xc.length kc) (.slice aa nd.Xb.length ac)).toArray 41 (0,0)) (by simp))).trans rfl)
 have oM:=o5.perm (by simpa using(List.perm_append_comm (l₁:= [Xf.box g5 (.cells (nd.cells (.slice ka nd.Xc.length kc) (.slice aa nd.Xb.length ac)).toArray 41 (0,0)),.ints (.slice ka nd.Xc.length kc) nd.Xc,.atts (.slice aa nd.Xb.length ac) nd.Xb]) (l₂:= [Xf.arena b A])).append_right L)
 have HM:=Xqh (HMK.out _ _ oM)
 clear o5 oM HMK
 go_wp2_with fail
 refine HM.out.mono ?_
 rintro e w6⟨rfl,o6⟩
 clear HM q0 f0
 rw[←t0]at o6
 have q2:w6.cell? ⟨g5,2,none⟩=some (.slice ka nd.Xc.length kc):=(cell_of_row w6 _ _ _ _ _ (o6.box (g:=g5) (o:= .cells (nd.cells (.slice ka nd.Xc.length kc) (.slice aa nd.Xb.length ac)).toArray 41 (0,0)) (by simp))).trans rfl
 have HO6:=Xqh o6
 clear o6 t0 t1 t2 t3
 go_wp2
 go_loopw [134](fun i wr=>∃k:Nat,k≤nd.Xc.length∧i= .int .i64 k∧Hid (Own w0 B (.arena b (st k):: .box g5 (.cells (nd.cells (.slice ka nd.Xc.length kc) (.slice aa nd.Xb.length ac)).toArray 41 (0,0)):: .ints (.slice ka nd.Xc.length kc) nd.Xc:: .atts (.slice aa nd.Xb.length ac) nd.Xb::L) wr))(fun i _=>nd.Xc.length-(intOf i).toNat)
 case atStart=>exact⟨0,Nat.zero_le _,rfl,HO6⟩
 case round=>obtain⟨k,hk,rfl,hT⟩:=hrel;by_cases hlt:k<nd.Xc.length;·{obtain⟨x,hx⟩:∃x,nd.Xc[k]?=some x:=⟨_,List.getElem?_eq_getElem hlt⟩;have hri:Xy wr (.slice ka nd.Xc.length kc) nd.Xc:=hT.out.ints (by simp);obtain⟨b1,o1,rfl,-,hcs⟩:=hri.cells (by omega);have c1:=hcs k x hx;have HC:=Xqh (HCALL.out k x hx w0 B _ wr (fun a ha=>by simp[ha]) hT.out);have HP:=Xqh (HPUT.out k x hx);clear hri hcs hx hT;go_wp2_with fail;refine HC.out.mono ?_;rintro e w7⟨rfl,o7⟩;have HP7:=Xqh (HP.out w0 B _ _ o7);clear o7 HC HP;go_wp2_with fail;refine HP7.out.mono ?_;rintro e w8⟨⟨pv,rfl⟩,o8⟩;have HO8:=Xqh o8;clear o8 HP7 c1;go_wp2;go_roundw;(case rel=>exact⟨k+1,hlt,by go_num,HO8⟩);case measure=>simp[intOf];omega};·have hkl:k=nd.Xc.length:=by{omega};have o9:=hT.out;rw[hkl,HFINST.out]at o9;have HO9:=Xqh o9;clear o9 hT hkl;go_wp2;go_ret;rw[HF.out];exact⟨rfl,HO9.out.swap.drop.swap.drop.swap.drop⟩
theorem XmH {C:Ar}(hC:C.Inv)(hCs:C.ns.length≤300000){b bf m:Nat}(ih:Z7 C b bf m)(A:Ar)(d h:Int)(L:List Xf)(w0 w:World)(B:Nat)(hA:A.Inv)(hd:A.has d)(hk:(A.get d).Xa=1)(hh:C.has h)(hw:(C.Xi h).length≤m+1)(hsz:(if(C.get h).Xa=1 then A.ns.length+2 else A.cap d)+(C.Xi h).length+2≤300000)(hsrc:Src C b bf A L)(o:Own w0 B (.arena b A::L) w)(hkind:(C.get h).Xa=1):Calls Tryz.prog 107 #[.pointer (some ⟨b,0,none⟩),.int .i64 d,.pointer (some ⟨bf,0,none⟩),.int .i64 h,.bool false] w fun e w'=>e= .returned (.int .i64 (dupF C false (m+1) A d h).1)∧Own w0 B (.arena b (dupF C false (m+1) A d h).2::L) w':=by
 rw[if_pos hkind]at hsz
 obtain⟨C',hm,hCi,hCl,hCh,hCg⟩:=hsrc.at' hA hC (by omega) hCs hh
 have hcont:(C.get h).Xg=0:=hC.YG h hh (.inr (fun q=>by have:=q.1;omega))
 obtain⟨s1,s3,s4⟩:=Yr.Xn hA (C.get h).XI
 have hkk:=ZF hC hh hw
 have hwl:=ZO hC hh
 have hkl:=Ar.Yz hC.wf hh
 have hdup:=Y8 C false m A d h
 have hal:A.Xj d (C.get h)=(A.n+1,A.Xn (C.get h).XI):=by unfold Ar.Xj;rw[if_pos hkind]
 have hmid:XH C false m (A.Xj d (C.get h)) d h=(A.Xj d (C.get h)).2:=by unfold XH;rw[if_neg (fun q=>q.2.2 hcont)]
 rw[hmid,if_pos hkind,hal]at hdup
 generalize hnd:C.get h=nd at*
 have HN:=Xqh (Jm (b:=bf) (A:=C') o hm (hCi.short (by omega)) hCh hCg)
 have HMK:=Xqh (fun l' W(q:Own w0 B (.arena b A::l') W)=>q.call (fun ρ hA'=>XbO A ρ b nd.XI W hA' (by omega)))
 have hnn:¬A.has (A.n+1):=JH
 generalize A.Xn nd.XI=A2 at*
 generalize A.n+1=c at*
 dsimp only at hdup
 rw[if_neg (by decide)]at hdup
 have HF:=Xqh hdup
 have e1:(nd.Xa==1)=true:=by simp[hkind]
 have e2:(nd.Xa==2)=false:=by simp[hkind]
 have e3:(nd.Xa==3)=false:=by simp[hkind]
 have e5:(nd.Xa==5)=false:=by simp[hkind]
 have e6:(nd.Xa==6)=false:=by simp[hkind]
 have e4:(nd.Xa==4)=false:=by simp[hkind]
 clear hd hk hh hw hsz hsrc o hm hCi hCl hCh hCg hcont s1 s3 s4 hkk hwl hdup hmid hal hkind hnd hnn
 go_enter Tryz.func107,Tryz.ntmps107
 go_wp2_with fail
 refine HN.out.mono ?_
 rintro e w2⟨ka,kc,aa,ac,rfl,o2⟩
 clear HN
 have HT:=Xqh (XV (w:=w2) nd ka kc aa ac nd.Xc.length nd.Xb.length)
 have o5:=o2.XU nd (.slice ka nd.Xc.length kc) (.slice aa nd.Xb.length ac)
 go_wp2_with((with_reducible refine wpList_store_mid ?_ 41 (.tmp 11) (.tmp 26) ?_ w2.heap.size 0 (nd.cells (.slice ka nd.Xc.length kc) (.slice aa nd.Xb.length ac)).toArray ?_ ?_ ?_ ?_ ?_ ?_);exact rfl;exact rfl;exact rfl;exact rfl;exact HT.out.1;exact XM _ _ _;exact all_oneCell_toArray HT.out.2;clear HT;generalize hw5:World.setCells _ _ _ _=w5 at o5⊢;generalize hg5:w2.heap.size=g5 at o5⊢;clear hw5 hg5;have q0:w5.cell? ⟨g5,0,none⟩=some (.int .i64 nd.Xa):=(cell_of_row w5 _ _ _ _ _ (o5.box (g:=g5) (o:= .cells (nd.cells (.slice ka nd.Xc.length kc) (.slice aa nd.Xb.length ac)).toArray 41 (0,0)) (by simp))).trans rfl;have f0:w5.cell? ⟨g5,10,none⟩=some (.bool nd.XI):=(cell_of_row w5 _ _ _ _ _ (o5.box (g:=g5) (o:= .cells (nd.cells (.slice ka nd.Xc.length kc) (.slice aa nd.Xb.length ac)).toArray 41 (0,0)) (by simp))).trans rfl)
 have oM:=o5.perm (by simpa using(List.perm_append_comm (l₁:= [Xf.box g5 (.cells (nd.cells (.slice ka nd.Xc.length kc) (.slice aa nd.Xb.length ac)).toArray 41 (0,0)),.ints (.slice ka nd.Xc.length kc) nd.Xc,.atts (.slice aa nd.Xb.length ac) nd.Xb]) (l₂:= [Xf.arena b A])).append_right L)
 have HM:=Xqh (HMK.out _ _ oM)
 clear o5 oM HMK
 go_wp2_with fail
 refine HM.out.mono ?_
 rintro e w6⟨rfl,o6⟩
 clear HM q0 f0
 have HO6:=Xqh o6
 clear o6
 go_wp2
 go_ret
 rw[HF.out]
 exact⟨rfl,HO6.out.swap.drop.swap.drop.swap.drop⟩
theorem XmI {C:Ar}(hC:C.Inv)(hCs:C.ns.length≤300000){b bf m:Nat}(ih:Z7 C b bf m)(A:Ar)(d h:Int)(L:List Xf)(w0 w:World)(B:Nat)(hA:A.Inv)(hd:A.has d)(hk:(A.get d).Xa=1)(hh:C.has h)(hw:(C.Xi h).length≤m+1)(hsz:(if(C.get h).Xa=1 then A.ns.length+2 else A.cap d)+(C.Xi h).length+2≤300000)(hsrc:Src C b bf A L)(o:Own w0 B (.arena b A::L) w)(hkind:(C.get h).Xa=4):Calls Tryz.prog 107 #[.pointer (some ⟨b,0,none⟩),.int .i64 d,.pointer (some ⟨bf,0,none⟩),.int .i64 h,.bool false] w fun e w'=>e= .returned (.int .i64 (dupF C false (m+1) A d h).1)∧Own w0 B (.arena b (dupF C false (m+1) A d h).2::L) w':=by
 have h1:(C.get h).Xa≠1:=by omega
 rw[if_neg h1]at hsz
 have hwp:=YL hC hh
 have hcg:=Ar.Yv A d
 obtain⟨C',hm,hCi,hCl,hCh,hCg⟩:=hsrc.at' hA hC (by omega) hCs hh
 obtain⟨s1,s2,s3,s4⟩:=Yr.Xj hA hC hd hk hh h1
 have hdup:=Y8 C false m A d h
 have hmid:XH C false m (A.Xj d (C.get h)) d h=(A.Xj d (C.get h)).2:=by unfold XH;rw[if_neg (fun q=>absurd q.2.1 (by decide))]
 rw[hmid,if_neg (by decide)]at hdup
 generalize hnd:C.get h=nd at*
 have HN:=Xqh (Jm (b:=bf) (A:=C') o hm (hCi.short (by omega)) hCh hCg)
 have hal:A.Xj d nd=((A.element d nd.space nd.name nd.Xb).1.1,(A.element d nd.space nd.name nd.Xb).2):=by unfold Ar.Xj;simp[hkind]
 have hat3:nd.Xb.length≤1000:=by rw[←hnd];exact(hC.loc h hh).at3
 have HMK:=Xqh (fun v l' W(hm:Xf.atts v nd.Xb∈l')(q:Own w0 B (.arena b A::l') W)=>q.call (fun ρ hA'=>XaO A ρ b d nd.space nd.name v nd.Xb W hA' (q.atts (by simp[hm])) (by omega) (by omega)))
 unfold Xl at HMK
 rw[hal]at s1 s2 s3 s4 hdup
 generalize A.element d nd.space nd.name nd.Xb=R at*
 obtain⟨⟨c,er⟩,A2⟩:=R
 dsimp only at*
 have HF:=Xqh hdup
 have e1:(nd.Xa==1)=false:=by simp[hkind]
 have e2:(nd.Xa==2)=false:=by simp[hkind]
 have e3:(nd.Xa==3)=false:=by simp[hkind]
 have e5:(nd.Xa==5)=false:=by simp[hkind]
 have e6:(nd.Xa==6)=false:=by simp[hkind]
 have e4:(nd.Xa==4)=true:=by simp[hkind]
 clear hd hk hh hw hsz hsrc o hwp hcg hm hCi hCl hCh hCg s1 s2 s3 s4 hal hkind h1 hnd hat3 hdup hmid
 go_enter Tryz.func107,Tryz.ntmps107
 go_wp2_with fail
 refine HN.out.mono ?_
 rintro e w2⟨ka,kc,aa,ac,rfl,o2⟩
 clear HN
 have HT:=Xqh (XV (w:=w2) nd ka kc aa ac nd.Xc.length nd.Xb.length)
 have o5:=o2.XU nd (.slice ka nd.Xc.length kc) (.slice aa nd.Xb.length ac)
 go_wp2_with((with_reducible refine wpList_store_mid ?_ 41 (.tmp 11) (.tmp 26) ?_ w2.heap.size 0 (nd.cells (.slice ka nd.Xc.length kc) (.slice aa nd.Xb.length ac)).toArray ?_ ?_ ?_ ?_ ?_ ?_);exact rfl;exact rfl;exact rfl;exact rfl;exact HT.out.1;exact XM _ _ _;exact all_oneCell_toArray HT.out.2;clear HT;generalize hw5:World.setCells _ _ _ _=w5 at o5⊢;generalize hg5:w2.heap.size=g5 at o5⊢;clear hw5 hg5;have q0:w5.cell? ⟨g5,0,none⟩=some (.int .i64 nd.Xa):=(cell_of_row w5 _ _ _ _ _ (o5.box (g:=g5) (o:= .cells (nd.cells (.slice ka nd.Xc.length kc) (.slice aa nd.Xb.length ac)).toArray 41 (0,0)) (by simp))).trans rfl;have f0:w5.cell? ⟨g5,4,none⟩=some (.int .i64 nd.space):=(cell_of_row w5 _ _ _ _ _ (o5.box (g:=g5) (o:= .cells (nd.cells (.slice ka nd.Xc.length kc) (.slice aa nd.Xb.length ac)).toArray 41 (0,0)) (by simp))).trans rfl;have f1:w5.cell? ⟨g5,5,none⟩=some (.string nd.name):=(cell_of_row w5 _ _ _ _ _ (o5.box (g:=g5) (o:= .cells (nd.cells (.slice ka nd.Xc.length kc) (.slice aa nd.Xb.length ac)).toArray 41 (0,0)) (by simp))).trans rfl;have f2:w5.cell? ⟨g5,6,none⟩=some (.slice aa nd.Xb.length ac):=(cell_of_row w5 _ _ _ _ _ (o5.box (g:=g5) (o:= .cells (nd.cells (.slice ka nd.Xc.length kc) (.slice aa nd.Xb.length ac)).toArray 41 (0,0)) (by simp))).trans rfl)
 have oM:=o5.perm (by simpa using(List.perm_append_comm (l₁:= [Xf.box g5 (.cells (nd.cells (.slice ka nd.Xc.length kc) (.slice aa nd.Xb.length ac)).toArray 41 (0,0)),.ints (.slice ka nd.Xc.length kc) nd.Xc,.atts (.slice aa nd.Xb.length ac) nd.Xb]) (l₂:= [Xf.arena b A])).append_right L)
 have HM:=Xqh (HMK.out (.slice aa nd.Xb.length ac) _ _ (by simp) oM)
 clear o5 oM HMK
 go_wp2_with fail
 refine HM.out.mono ?_
 rintro e w6⟨rfl,o6⟩
 clear HM q0 f0 f1 f2
 have HO6:=Xqh o6
 clear o6
 go_wp2
 go_ret
 rw[HF.out]
 exact⟨rfl,HO6.out.swap.drop.swap.drop.swap.drop⟩
theorem XmJ {C:Ar}(hC:C.Inv)(hCs:C.ns.length≤300000){b bf m:Nat}(ih:Z7 C b bf m)(A:Ar)(d h:Int)(L:List Xf)(w0 w:World)(B:Nat)(hA:A.Inv)(hd:A.has d)(hk:(A.get d).Xa=1)(hh:C.has h)(hw:(C.Xi h).length≤m+1)(hsz:(if(C.get h).Xa=1 then A.ns.length+2 else A.cap d)+(C.Xi h).length+2≤300000)(hsrc:Src C b bf A L)(o:Own w0 B (.arena b A::L) w)(hkind:(C.get h).Xa=4)(hcont:(C.get h).Xg=0):Calls Tryz.prog 107 #[.pointer (some ⟨b,0,none⟩),.int .i64 d,.pointer (some ⟨bf,0,none⟩),.int .i64 h,.bool true] w fun e w'=>e= .returned (.int .i64 (dupF C true (m+1) A d h).1)∧Own w0 B (.arena b (dupF C true (m+1) A d h).2::L) w':=by
 have h1:(C.get h).Xa≠1:=by omega
 rw[if_neg h1]at hsz
 have hwp:=YL hC hh
 have hcg:=Ar.Yv A d
 obtain⟨C',hm,hCi,hCl,hCh,hCg⟩:=hsrc.at' hA hC (by omega) hCs hh
 obtain⟨s1,s2,s3,s4⟩:=Yr.Xj hA hC hd hk hh h1
 rw[if_neg (fun q=>q hcont)]at s1
 have hkk:=ZF hC hh hw
 have hwl:=ZO hC hh
 have hkl:=Ar.Yz hC.wf hh
 have hdup:=Y8 C true m A d h
 have hmid:XH C true m (A.Xj d (C.get h)) d h=(A.Xj d (C.get h)).2:=by unfold XH;rw[if_neg (fun q=>q.2.2 hcont)]
 rw[hmid,if_neg h1,if_pos rfl]at hdup
 generalize hnd:C.get h=nd at*
 have HN:=Xqh (Jm (b:=bf) (A:=C') o hm (hCi.short (by omega)) hCh hCg)
 have hal:A.Xj d nd=((A.element d nd.space nd.name nd.Xb).1.1,(A.element d nd.space nd.name nd.Xb).2):=by unfold Ar.Xj;simp[hkind]
 have hat3:nd.Xb.length≤1000:=by rw[←hnd];exact(hC.loc h hh).at3
 have HMK:=Xqh (fun v l' W(hm:Xf.atts v nd.Xb∈l')(q:Own w0 B (.arena b A::l') W)=>q.call (fun ρ hA'=>XaO A ρ b d nd.space nd.name v nd.Xb W hA' (q.atts (by simp[hm])) (by omega) (by omega)))
 unfold Xl at HMK
 rw[hal]at s1 s2 s3 s4 hdup
 generalize A.element d nd.space nd.name nd.Xb=R at*
 obtain⟨⟨c,er⟩,A2⟩:=R
 dsimp only at*
 obtain⟨st,yv,ya,t0,t1,t2,t3⟩:=Xaz hC ih s1 (c:=c) (by rw[s2];exact JH) (by rw[s2];exact s3) nd.Xc (fun _=> .inr (.inr (by rw[s2,s4];exact hkind))) hkk (by omega) hsrc
 have HFINST:=Xqh t1
 have HCALL:=Xqh t2
 have HPUT:=Xqh t3
 have HF:=Xqh hdup
 have hkl2:(nd.Xc.length:Int)≤300000:=by omega
 have ec:(nd.Xg !=0)=false:=by simp[hcont]
 have e1:(nd.Xa==1)=false:=by simp[hkind]
 have e2:(nd.Xa==2)=false:=by simp[hkind]
 have e3:(nd.Xa==3)=false:=by simp[hkind]
 have e5:(nd.Xa==5)=false:=by simp[hkind]
 have e6:(nd.Xa==6)=false:=by simp[hkind]
 have e4:(nd.Xa==4)=true:=by simp[hkind]
 clear hd hk hh hw hsz hsrc o hwp hcg hm hCi hCl hCh hCg s1 s2 s3 s4 hal hkind h1 hnd hat3 hdup hmid hkk hwl hcont
 go_enter Tryz.func107,Tryz.ntmps107
 go_wp2_with fail
 refine HN.out.mono ?_
 rintro e w2⟨ka,kc,aa,ac,rfl,o2⟩
 clear HN
 have HT:=Xqh (XV (w:=w2) nd ka kc aa ac nd.Xc.length nd.Xb.length)
 have o5:=o2.XU nd (.slice ka nd.Xc.length kc) (.slice aa nd.Xb.length ac)
 go_wp2_with((with_reducible refine wpList_store_mid ?_ 41 (.tmp 11) (.tmp 26) ?_ w2.heap.size 0 (nd.cells (.slice ka nd.Xc.length kc) (.slice aa nd.Xb.length ac)).toArray ?_ ?_ ?_ ?_ ?_ ?_);exact rfl;exact rfl;exact rfl;exact rfl;exact HT.out.1;exact XM _ _ _;exact all_oneCell_toArray HT.out.2;clear HT;generalize hw5:World.setCells _ _ _ _=w5 at o5⊢;generalize hg5:w2.heap.size=g5 at o5⊢;clear hw5 hg5;have q0:w5.cell? ⟨g5,0,none⟩=some (.int .i64 nd.Xa):=(cell_of_row w5 _ _ _ _ _ (o5.box (g:=g5) (o:= .cells (nd.cells (.slice ka nd.Xc.length kc) (.slice aa nd.Xb.length ac)).toArray 41 (0,0)) (by simp))).trans rfl;have f0:w5.cell? ⟨g5,4,none⟩=some (.int .i64 nd.space):=(cell_of_row w5 _ _ _ _ _ (o5.box (g:=g5) (o:= .cells (nd.cells (.slice ka nd.Xc.length kc) (.slice aa nd.Xb.length ac)).toArray 41 (0,0)) (by simp))).trans rfl;have f1:w5.cell? ⟨g5,5,none⟩=some (.string nd.name):=(cell_of_row w5 _ _ _ _ _ (o5.box (g:=g5) (o:= .cells (nd.cells (.slice ka nd.Xc.length kc) (.slice aa nd.Xb.length ac)).toArray 41 (0,0)) (by simp))).trans rfl;have f2:w5.cell? ⟨g5,6,none⟩=some (.slice aa nd.Xb.length ac):=(cell_of_row w5 _ _ _ _ _ (o5.box (g:=g5) (o:= .cells (nd.cells (.slice ka nd.Xc.length kc) (.slice aa nd.Xb.length ac)).toArray 41 (0,0)) (by simp))).trans rfl)
 have oM:=o5.perm (by simpa using(List.perm_append_comm (l₁:= [Xf.box g5 (.cells (nd.cells (.slice ka nd.Xc.length kc) (.slice aa nd.Xb.length ac)).toArray 41 (0,0)),.ints (.slice ka nd.Xc.length kc) nd.Xc,.atts (.slice aa nd.Xb.length ac) nd.Xb]) (l₂:= [Xf.arena b A])).append_right L)
 have HM:=Xqh (HMK.out (.slice aa nd.Xb.length ac) _ _ (by simp) oM)
 clear o5 oM HMK
 go_wp2_with fail
 refine HM.out.mono ?_
 rintro e w6⟨rfl,o6⟩
 clear HM q0 f0 f1 f2
 rw[←t0]at o6
 have q2:w6.cell? ⟨g5,2,none⟩=some (.slice ka nd.Xc.length kc):=(cell_of_row w6 _ _ _ _ _ (o6.box (g:=g5) (o:= .cells (nd.cells (.slice ka nd.Xc.length kc) (.slice aa nd.Xb.length ac)).toArray 41 (0,0)) (by simp))).trans rfl
 have q11:w6.cell? ⟨g5,11,none⟩=some (.int .i64 nd.Xg):=(cell_of_row w6 _ _ _ _ _ (o6.box (g:=g5) (o:= .cells (nd.cells (.slice ka nd.Xc.length kc) (.slice aa nd.Xb.length ac)).toArray 41 (0,0)) (by simp))).trans rfl
 have HO6:=Xqh o6
 clear o6 t0 t1 t2 t3
 go_wp2
 go_loopw [134](fun i wr=>∃k:Nat,k≤nd.Xc.length∧i= .int .i64 k∧Hid (Own w0 B (.arena b (st k):: .box g5 (.cells (nd.cells (.slice ka nd.Xc.length kc) (.slice aa nd.Xb.length ac)).toArray 41 (0,0)):: .ints (.slice ka nd.Xc.length kc) nd.Xc:: .atts (.slice aa nd.Xb.length ac) nd.Xb::L) wr))(fun i _=>nd.Xc.length-(intOf i).toNat)
 case atStart=>exact⟨0,Nat.zero_le _,rfl,HO6⟩
 case round=>obtain⟨k,hk,rfl,hT⟩:=hrel;by_cases hlt:k<nd.Xc.length;·{obtain⟨x,hx⟩:∃x,nd.Xc[k]?=some x:=⟨_,List.getElem?_eq_getElem hlt⟩;have hri:Xy wr (.slice ka nd.Xc.length kc) nd.Xc:=hT.out.ints (by simp);obtain⟨b1,o1,rfl,-,hcs⟩:=hri.cells (by omega);have c1:=hcs k x hx;have HC:=Xqh (HCALL.out k x hx w0 B _ wr (fun a ha=>by simp[ha]) hT.out);have HP:=Xqh (HPUT.out k x hx);clear hri hcs hx hT;go_wp2_with fail;refine HC.out.mono ?_;rintro e w7⟨rfl,o7⟩;have HP7:=Xqh (HP.out w0 B _ _ o7);clear o7 HC HP;go_wp2_with fail;refine HP7.out.mono ?_;rintro e w8⟨⟨pv,rfl⟩,o8⟩;have HO8:=Xqh o8;clear o8 HP7 c1;go_wp2;go_roundw;(case rel=>exact⟨k+1,hlt,by go_num,HO8⟩);case measure=>simp[intOf];omega};·have hkl:k=nd.Xc.length:=by{omega};have o9:=hT.out;rw[hkl,HFINST.out]at o9;have HO9:=Xqh o9;clear o9 hT hkl;go_wp2;go_ret;rw[HF.out];exact⟨rfl,HO9.out.swap.drop.swap.drop.swap.drop⟩
theorem XmK {C:Ar}(hC:C.Inv)(hCs:C.ns.length≤300000){b bf m:Nat}(ih:Z7 C b bf m)(A:Ar)(d h:Int)(L:List Xf)(w0 w:World)(B:Nat)(hA:A.Inv)(hd:A.has d)(hk:(A.get d).Xa=1)(hh:C.has h)(hw:(C.Xi h).length≤m+1)(hsz:(if(C.get h).Xa=1 then A.ns.length+2 else A.cap d)+(C.Xi h).length+2≤300000)(hsrc:Src C b bf A L)(o:Own w0 B (.arena b A::L) w)(hkind:(C.get h).Xa=4)(hcont:(C.get h).Xg≠0):Calls Tryz.prog 107 #[.pointer (some ⟨b,0,none⟩),.int .i64 d,.pointer (some ⟨bf,0,none⟩),.int .i64 h,.bool true] w fun e w'=>e= .returned (.int .i64 (dupF C true (m+1) A d h).1)∧Own w0 B (.arena b (dupF C true (m+1) A d h).2::L) w':=by
 have h1:(C.get h).Xa≠1:=by omega
 rw[if_neg h1]at hsz
 have hwp:=YL hC hh
 have hcg:=Ar.Yv A d
 obtain⟨C',hm,hCi,hCl,hCh,hCg⟩:=hsrc.at' hA hC (by omega) hCs hh
 obtain⟨s1,s2,s3,s4⟩:=Yr.Xj hA hC hd hk hh h1
 rw[if_pos hcont]at s1
 have hkk:=ZF hC hh hw
 have hkl:=Ar.Yz hC.wf hh
 have hdup:=Y8 C true m A d h
 rw[if_neg h1,if_pos rfl]at hdup
 have ht:XN (C.get h):=Classical.byContradiction fun q=>hcont (hC.YG h hh (.inr q))
 obtain⟨k1,k2,k3⟩:=hC.cont h hh (by have:=hh.1;omega) ht
 have hkc1:=Ar.Yz hC.wf k1
 have hwc:=XcR hC hh hcont
 have hkk1:=ZF (m:=m) hC k1 (by omega)
 have hwl1:=ZO hC k1
 have hwlen:2+((C.get (C.get h).Xg).Xc.flatMap C.Xi).length+((C.get h).Xc.flatMap C.Xi).length≤(C.Xi h).length:=by rw[Ym hC hh,if_pos hcont];simp only[List.length_cons,List.length_append];omega
 obtain⟨-,-,n3⟩:=Xbu hA hC hd hk hh h1
 obtain⟨cc,c1,c2,c3,-,-,-,c4,-⟩:=(n3.resolve_left (fun q=>hcont q.1)).2
 obtain⟨-,-,a3⟩:=Xbs hA hC hd hk hh h1
 have hia:=a3 ht
 generalize hnd:C.get h=nd at*
 have HN:=Xqh (Jm (b:=bf) (A:=C') o hm (hCi.short (by omega)) hCh hCg)
 have hal:A.Xj d nd=((A.element d nd.space nd.name nd.Xb).1.1,(A.element d nd.space nd.name nd.Xb).2):=by unfold Ar.Xj;simp[hkind]
 have hat3:nd.Xb.length≤1000:=by rw[←hnd];exact(hC.loc h hh).at3
 have HMK:=Xqh (fun v l' W(hm:Xf.atts v nd.Xb∈l')(q:Own w0 B (.arena b A::l') W)=>q.call (fun ρ hA'=>XaO A ρ b d nd.space nd.name v nd.Xb W hA' (q.atts (by simp[hm])) (by omega) (by omega)))
 unfold Xl at HMK
 rw[hal]at s1 s2 s3 s4 c1 c3 c4 hia hdup
 generalize A.element d nd.space nd.name nd.Xb=R at*
 obtain⟨⟨c,er⟩,A2⟩:=R
 dsimp only at*
 rw[←s2]at c1 s3 s4
 have hof:=J6 s1.has s1.Xa
 have hic:=Xb8 hof hia
 obtain⟨i1,i2,i3,i4⟩:=s1.inv.Xh d hia
 have hdmid:XH C true m (c,A2) d h=(C.get nd.Xg).Xc.foldl (XP (fun B k=>dupF C true m B (A2.Xu d) k) (A2.get c).Xg) A2:=by unfold XH;rw[hnd,if_pos ⟨hkind,rfl,hcont⟩,hic]
 rw[hdmid]at hdup
 have sI:Yr A A2 (A2.Xu d) (A.cap d+2):=⟨s1.inv,i2,i3,s1.old,by have h5:=s1.cap;rw[Jw hia]at h5;rw[Jw (by rw[i4];exact hia)];exact h5⟩
 obtain⟨dn,hdn⟩:∃dn,A2.get c=dn:=⟨_,rfl⟩
 rw[hdn]at c1 s4 hdup
 have hccn:¬A.has cc:=fun q=>by have:=q.2;omega
 obtain⟨kn,hkn⟩:∃kn,C.get nd.Xg=kn:=⟨_,rfl⟩
 rw[hkn]at hkk1 hwl1 hkc1 hwlen hdup
 obtain⟨st1,yv1,ya1,u0,u1,u2,u3⟩:=Xaz hC ih sI (c:=cc) hccn c3 kn.Xc (fun _=> .inr (.inl c4)) hkk1 (by omega) hsrc
 rw[←c1]at u1 u3
 rw[←u1]at hdup
 have hfold:=Yr.fold hC sI hccn c3 kn.Xc (fun _=> .inr (.inl c4)) hkk1 kn.Xc.length (Nat.le_refl _)
 obtain⟨g1,g2⟩:=Xat (C:=C) (rec:=fun B k=>dupF C true m B (A2.Xu d) k) (d:=A2.Xu d) (c:=cc) kn.Xc (A:=A2) (fun B' k' hk' hB hd' hkd=>Jf hC m true hB hd' hkd (hkk1 k' hk').1 (hkk1 k' hk').2.1 (hkk1 k' hk').2.2.2) sI.inv sI.has sI.Xa
 rw[List.take_length,←c1,←u1]at hfold
 rw[←c1,←u1]at g1
 obtain⟨f1,-,-,f4⟩:=hfold
 have sM:Yr A (st1 kn.Xc.length) d (A.cap d+2+(kn.Xc.flatMap C.Xi).length):=⟨f1.inv,g1.has d s1.has,(g1.Xa d s1.has).trans s1.Xa,f1.old,by have h5:=f1.cap;rw[Jw (f4 _ (by rw[i4];exact hia))]at h5;rw[Jw (f4 d hia)];exact h5⟩
 obtain⟨st,yv,ya,t0,t1,t2,t3⟩:=Xaz hC ih sM (c:=c) (by rw[s2];exact JH) (g1.has c s3) nd.Xc (fun _=> .inr (.inr (by rw[g1.Xa c s3,hdn,s4];exact hkind))) hkk (by omega) hsrc
 have HFINST:=Xqh t1
 have HCALL:=Xqh t2
 have HPUT:=Xqh t3
 have HCALL1:=Xqh u2
 have HPUT1:=Xqh u3
 have HF:=Xqh hdup
 have hkl2:(nd.Xc.length:Int)≤300000:=by omega
 have hkl3:(kn.Xc.length:Int)≤300000:=by omega
 have ec:(nd.Xg !=0)=true:=by simp[hcont]
 have hA2s:A2.ns.length≤300000:=by have:=Ar.Yv A2 d;have:=s1.cap;omega
 have HND:=Xqh (fun l' W(q:Own w0 B (.arena b A2::l') W)=>JZ (b:=b) (A:=A2) q (by simp) (s1.inv.short (by omega)) s3 hdn)
 have HINE:=Xqh (fun l' W(q:Own w0 B (.arena b A2::l') W)=>q.call (fun ρ hA'=>Xel A2 ρ b d W hA' (by omega)))
 rw[hic]at HINE
 unfold Xl at HINE
 have HKD:=Xqh (fun l' W(hl:∀a∈L,a∈l')(q:Own w0 B (.arena b A2::l') W)=>(let⟨C2,hm2,hi2,hl2,hh2,hg2⟩:=(hsrc.grow s1.old hl).at' s1.inv hC hA2s hCs k1;have e:C2.YN nd.Xg=kn.Xc:=(if_pos hh2).trans (by rw[hg2,hkn]);by have:=Xap (b:=bf) (A:=C2) (h:=nd.Xg) q hm2 (hi2.short (by omega));rw[e]at this;exact this:Calls Tryz.prog 27 #[.pointer (some ⟨bf,0,none⟩),.int .i64 nd.Xg] W fun e w'=>∃va vc,e= .returned (.slice va kn.Xc.length vc)∧Own w0 B (.ints (.slice va kn.Xc.length vc) kn.Xc:: .arena b A2::l') w'))
 have U0:=Xqh u0
 have T0:=Xqh t0
 generalize A2.Xu d=ii at*
 have e1:(nd.Xa==1)=false:=by simp[hkind]
 have e2:(nd.Xa==2)=false:=by simp[hkind]
 have e3:(nd.Xa==3)=false:=by simp[hkind]
 have e5:(nd.Xa==5)=false:=by simp[hkind]
 have e6:(nd.Xa==6)=false:=by simp[hkind]
 have e4:(nd.Xa==4)=true:=by simp[hkind]
 clear hd hk hh hw hsz hsrc o hwp hcg hm hCi hCl hCh hCg s1 s2 s3 s4 hal hkind h1 hnd hat3 hdup hkk hcont ht k1 k2 k3 hkc1 hwc hkk1 hwl1 hwlen n3 c1 c2 c3 c4 a3 hia hof hic i1 i2 i3 i4 hdmid sI hdn hccn hkn u0 u1 u2 u3 g1 g2 f1 f4 sM t0 t1 t2 t3 hA2s
 go_enter Tryz.func107,Tryz.ntmps107
 go_wp2_with fail
 refine HN.out.mono ?_
 rintro e w2⟨ka,kc,aa,ac,rfl,o2⟩
 clear HN
 have HT:=Xqh (XV (w:=w2) nd ka kc aa ac nd.Xc.length nd.Xb.length)
 have o5:=o2.XU nd (.slice ka nd.Xc.length kc) (.slice aa nd.Xb.length ac)
 go_wp2_with((with_reducible refine wpList_store_mid ?_ 41 (.tmp 11) (.tmp 26) ?_ w2.heap.size 0 (nd.cells (.slice ka nd.Xc.length kc) (.slice aa nd.Xb.length ac)).toArray ?_ ?_ ?_ ?_ ?_ ?_);exact rfl;exact rfl;exact rfl;exact rfl;exact HT.out.1;exact XM _ _ _;exact all_oneCell_toArray HT.out.2;clear HT;generalize hw5:World.setCells _ _ _ _=w5 at o5⊢;generalize hg5:w2.heap.size=g5 at o5⊢;clear hw5 hg5;have q0:w5.cell? ⟨g5,0,none⟩=some (.int .i64 nd.Xa):=(cell_of_row w5 _ _ _ _ _ (o5.box (g:=g5) (o:= .cells (nd.cells (.slice ka nd.Xc.length kc) (.slice aa nd.Xb.length ac)).toArray 41 (0,0)) (by simp))).trans rfl;have f0:w5.cell? ⟨g5,4,none⟩=some (.int .i64 nd.space):=(cell_of_row w5 _ _ _ _ _ (o5.box (g:=g5) (o:= .cells (nd.cells (.slice ka nd.Xc.length kc) (.slice aa nd.Xb.length ac)).toArray 41 (0,0)) (by simp))).trans rfl;have f1:w5.cell? ⟨g5,5,none⟩=some (.string nd.name):=(cell_of_row w5 _ _ _ _ _ (o5.box (g:=g5) (o:= .cells (nd.cells (.slice ka nd.Xc.length kc) (.slice aa nd.Xb.length ac)).toArray 41 (0,0)) (by simp))).trans rfl;have f2:w5.cell? ⟨g5,6,none⟩=some (.slice aa nd.Xb.length ac):=(cell_of_row w5 _ _ _ _ _ (o5.box (g:=g5) (o:= .cells (nd.cells (.slice ka nd.Xc.length kc) (.slice aa nd.Xb.length ac)).toArray 41 (0,0)) (by simp))).trans rfl)
 have oM:=o5.perm (by simpa using(List.perm_append_comm (l₁:= [Xf.box g5 (.cells (nd.cells (.slice ka nd.Xc.length kc) (.slice aa nd.Xb.length ac)).toArray 41 (0,0)),.ints (.slice ka nd.Xc.length kc) nd.Xc,.atts (.slice aa nd.Xb.length ac) nd.Xb]) (l₂:= [Xf.arena b A])).append_right L)
 have HM:=Xqh (HMK.out (.slice aa nd.Xb.length ac) _ _ (by simp) oM)
 clear o5 oM HMK
 go_wp2_with fail
 refine HM.out.mono ?_
 rintro e w6⟨rfl,o6⟩
 clear HM q0 f0 f1 f2
 have q11:w6.cell? ⟨g5,11,none⟩=some (.int .i64 nd.Xg):=(cell_of_row w6 _ _ _ _ _ (o6.box (g:=g5) (o:= .cells (nd.cells (.slice ka nd.Xc.length kc) (.slice aa nd.Xb.length ac)).toArray 41 (0,0)) (by simp))).trans rfl
 have HN7:=Xqh (HND.out _ _ o6)
 clear o6 HND
 go_wp2_with fail
 refine HN7.out.mono ?_
 rintro e w7⟨ka7,kl7,kc7,aa7,al7,ac7,rfl,o7,-⟩
 clear HN7 q11
 have HT:=Xqh (XV (w:=w7) dn ka7 kc7 aa7 ac7 kl7 al7)
 have o8:=o7.XU dn (.slice ka7 kl7 kc7) (.slice aa7 al7 ac7)
 go_wp2_with((with_reducible refine wpList_store_mid ?_ 41 (.tmp 14) (.tmp 103) ?_ w7.heap.size 0 (dn.cells (.slice ka7 kl7 kc7) (.slice aa7 al7 ac7)).toArray ?_ ?_ ?_ ?_ ?_ ?_);exact rfl;exact rfl;exact rfl;exact rfl;exact HT.out.1;exact XM _ _ _;exact all_oneCell_toArray HT.out.2;clear HT;generalize hw5:World.setCells _ _ _ _=w8 at o8⊢;generalize hg5:w7.heap.size=g14 at o8⊢;clear hw5 hg5;skip)
 have HI9:=Xqh (HINE.out _ _ o8.swap)
 clear o8 HINE
 go_wp2_with fail
 refine HI9.out.mono ?_
 rintro e w9⟨rfl,o9⟩
 have q11:w9.cell? ⟨g5,11,none⟩=some (.int .i64 nd.Xg):=(cell_of_row w9 _ _ _ _ _ (o9.box (g:=g5) (o:= .cells (nd.cells (.slice ka nd.Xc.length kc) (.slice aa nd.Xb.length ac)).toArray 41 (0,0)) (by simp))).trans rfl
 have HK10:=Xqh (HKD.out _ _ (fun a ha=>by simp[ha]) o9)
 clear HI9 o9 HKD
 go_wp2_with fail
 refine HK10.out.mono ?_
 rintro e w10⟨va,vc,rfl,o10⟩
 have o11:=o10.swap
 rw[←U0.out]at o11
 have HO11:=Xqh o11
 clear o10 o11 HK10 q11 U0
 go_wp2
 go_loopw [116](fun i wr=>∃k:Nat,k≤kn.Xc.length∧i= .int .i64 k∧Hid (Own w0 B (.arena b (st1 k):: .ints (.slice va kn.Xc.length vc) kn.Xc:: .box g14 (.cells (dn.cells (.slice ka7 kl7 kc7) (.slice aa7 al7 ac7)).toArray 41 (0,0)):: .box g5 (.cells (nd.cells (.slice ka nd.Xc.length kc) (.slice aa nd.Xb.length ac)).toArray 41 (0,0)):: .ints (.slice ka nd.Xc.length kc) nd.Xc:: .atts (.slice aa nd.Xb.length ac) nd.Xb::L) wr))(fun i _=>kn.Xc.length-(intOf i).toNat)
 case atStart=>exact⟨0,Nat.zero_le _,rfl,HO11⟩
 case round=>obtain⟨k,hk,rfl,hT⟩:=hrel;clear HO11;by_cases hlt:k<kn.Xc.length;·{obtain⟨x,hx⟩:∃x,kn.Xc[k]?=some x:=⟨_,List.getElem?_eq_getElem hlt⟩;have hri:Xy wr (.slice va kn.Xc.length vc) kn.Xc:=hT.out.ints (by simp);obtain⟨b1,o1,rfl,-,hcs⟩:=hri.cells (by omega);have c1:=hcs k x hx;have h11:wr.cell? ⟨g14,11,none⟩=some (.int .i64 dn.Xg):=(cell_of_row wr _ _ _ _ _ (hT.out.box (g:=g14) (o:=(.cells (dn.cells (.slice ka7 kl7 kc7) (.slice aa7 al7 ac7)).toArray 41 (0,0))) (by simp))).trans rfl;have hC1:=HCALL1.out k x hx w0 B _ wr.drew (fun a ha=>by simp[ha]) (hT.out.read (Below.drew (Below.refl _ _)));have HP:=Xqh (HPUT1.out k x hx);clear hri hcs hx hT;go_upto_region 23 with fail;go_region_held3(fun w'=>w'.cell? ⟨g14,11,none⟩=some (.int .i64 dn.Xg))(first|(exact h11)|(exact k11)|(exact p11))(first|((go_at_call 107;(with_reducible refine hC1.mono ?_);rintro e w12⟨rfl,o12⟩;have k11:w12.cell? ⟨g14,11,none⟩=some (.int .i64 dn.Xg):=(cell_of_row w12 _ _ _ _ _ (o12.box (g:=g14) (o:=(.cells (dn.cells (.slice ka7 kl7 kc7) (.slice aa7 al7 ac7)).toArray 41 (0,0))) (by simp))).trans rfl;have hP1:=HP.out w0 B _ _ o12))|((go_at_call 59;(with_reducible refine hP1.mono ?_);rintro e w13⟨⟨pv,rfl⟩,o13⟩;have p11:w13.cell? ⟨g14,11,none⟩=some (.int .i64 dn.Xg):=(cell_of_row w13 _ _ _ _ _ (o13.box (g:=g14) (o:=(.cells (dn.cells (.slice ka7 kl7 kc7) (.slice aa7 al7 ac7)).toArray 41 (0,0))) (by simp))).trans rfl))|(fail));all_goals have HO13:=Xqh o13;clear o12 o13 hC1 hP1 HP k11 p11 h11 c1;go_wp2;go_roundw;(case rel=>exact⟨k+1,hlt,by go_num,HO13⟩);case measure=>simp[intOf];omega};·have hkl:k=kn.Xc.length:=by{omega};have o14:=hT.out;rw[hkl,←T0.out]at o14;have o6:=o14.swap.drop.swap.drop;have q2:wr.cell? ⟨g5,2,none⟩=some (.slice ka nd.Xc.length kc):=(cell_of_row wr _ _ _ _ _ (o6.box (g:=g5) (o:= .cells (nd.cells (.slice ka nd.Xc.length kc) (.slice aa nd.Xb.length ac)).toArray 41 (0,0)) (by simp))).trans rfl;have HO6:=Xqh o6;clear o14 o6 hT hkl;go_wp2;go_loopw [134](fun i wr=>∃k:Nat,k≤nd.Xc.length∧i= .int .i64 k∧Hid (Own w0 B (.arena b (st k):: .box g5 (.cells (nd.cells (.slice ka nd.Xc.length kc) (.slice aa nd.Xb.length ac)).toArray 41 (0,0)):: .ints (.slice ka nd.Xc.length kc) nd.Xc:: .atts (.slice aa nd.Xb.length ac) nd.Xb::L) wr))(fun i _=>nd.Xc.length-(intOf i).toNat);(case atStart=>exact⟨0,Nat.zero_le _,rfl,HO6⟩);case round=>obtain⟨k,hk,rfl,hT⟩:=hrel;by_cases hlt:k<nd.Xc.length;·{obtain⟨x,hx⟩:∃x,nd.Xc[k]?=some x:=⟨_,List.getElem?_eq_getElem hlt⟩;have hri:Xy wr (.slice ka nd.Xc.length kc) nd.Xc:=hT.out.ints (by simp);obtain⟨b1,o1,rfl,-,hcs⟩:=hri.cells (by omega);have c1:=hcs k x hx;have HC:=Xqh (HCALL.out k x hx w0 B _ wr (fun a ha=>by simp[ha]) hT.out);have HP:=Xqh (HPUT.out k x hx);clear hri hcs hx hT;go_wp2_with fail;refine HC.out.mono ?_;rintro e w7⟨rfl,o7⟩;have HP7:=Xqh (HP.out w0 B _ _ o7);clear o7 HC HP;go_wp2_with fail;refine HP7.out.mono ?_;rintro e w8⟨⟨pv,rfl⟩,o8⟩;have HO8:=Xqh o8;clear o8 HP7 c1;go_wp2;go_roundw;(case rel=>exact⟨k+1,hlt,by go_num,HO8⟩);case measure=>simp[intOf];omega};·have hkl:k=nd.Xc.length:=by{omega};have o9:=hT.out;rw[hkl,HFINST.out]at o9;have HO9:=Xqh o9;clear o9 hT hkl;go_wp2;go_ret;rw[HF.out];exact⟨rfl,HO9.out.swap.drop.swap.drop.swap.drop⟩
theorem Xfx {C:Ar}(hC:C.Inv)(hCs:C.ns.length≤300000){b bf:Nat}:∀m,Z7 C b bf m
 |0=>fun deep A d h L w0 w B hA hd hk hh hw _ _ _=>by{have:=YL hC hh;omega}
 |m+1=>fun deep A d h L w0 w B hA hd hk hh hw hsz hsrc o=>by{have ih:=Xfx hC hCs (b:=b) (bf:=bf) m;have k1:=(hC.loc h hh).k1;have k6:=(hC.loc h hh).k6;obtain q|q|q|q|q|q:(C.get h).Xa=1∨(C.get h).Xa=2∨(C.get h).Xa=3∨(C.get h).Xa=4∨(C.get h).Xa=5∨(C.get h).Xa=6:=by{omega};·{cases deep with|true=>{exact XmG hC hCs ih A d h L w0 w B hA hd hk hh hw hsz hsrc o q}|false=>exact XmH hC hCs ih A d h L w0 w B hA hd hk hh hw hsz hsrc o q};·{cases deep with|true=>{exact Xmy hC hCs ih A d h L w0 w B hA hd hk hh hw hsz hsrc o q}|false=>exact Xmz hC hCs ih A d h L w0 w B hA hd hk hh hw hsz hsrc o q};·{cases deep with|true=>{exact XmA hC hCs ih A d h L w0 w B hA hd hk hh hw hsz hsrc o q}|false=>exact XmB hC hCs ih A d h L w0 w B hA hd hk hh hw hsz hsrc o q};·{cases deep with|true=>{by_cases hc:(C.get h).Xg=0;·{exact XmJ hC hCs ih A d h L w0 w B hA hd hk hh hw hsz hsrc o q hc};·exact XmK hC hCs ih A d h L w0 w B hA hd hk hh hw hsz hsrc o q hc}|false=>exact XmI hC hCs ih A d h L w0 w B hA hd hk hh hw hsz hsrc o q};·{cases deep with|true=>{exact XmC hC hCs ih A d h L w0 w B hA hd hk hh hw hsz hsrc o q}|false=>exact XmD hC hCs ih A d h L w0 w B hA hd hk hh hw hsz hsrc o q};·cases deep with|true=>{exact XmE hC hCs ih A d h L w0 w B hA hd hk hh hw hsz hsrc o q}|false=>exact XmF hC hCs ih A d h L w0 w B hA hd hk hh hw hsz hsrc o q}
end
end Go.Proofs.YtpicinjcmjaogaaGreatDoor
