import Derived.Test.YtpicinjcmjaogaaGreatDoorW34
set_option maxRecDepth 100000
set_option maxHeartbeats 4000000
set_option linter.unusedVariables false
namespace Go.Proofs.YtpicinjcmjaogaaGreatDoor
section
/-- The kinds of a document's children. -/
def RowOK (K : List Int) : Prop := 5 ∉ K ∧ K.count 4 ≤ 1 ∧ K.count 3 ≤ 1 ∧ K.Pairwise (fun a b => ¬ (a = 4 ∧ b = 3))
def Ar.rowP (A : Ar) (p : Int) : Prop := ((A.get p).Xa = 1 → RowOK (A.XbY p)) ∧ ((A.get p).Xa ≠ 1 → 3 ∉ A.XbY p)
structure P5 (A : Ar) : Prop where
  kc : KC A
  row : ∀ p, A.has p → A.rowP p
theorem RowOK.sub {K K':List Int}(h:RowOK K)(hs:K'.Sublist K):RowOK K':=⟨fun q=>h.1 (hs.subset q),Nat.le_trans (hs.count_le 4) h.2.1,Nat.le_trans (hs.count_le 3) h.2.2.1,h.2.2.2.sublist hs⟩
theorem count_zero' {K:List Int}{a:Int}(h:a∉K):K.count a=0:=List.count_eq_zero.2 h
theorem row_mid0 {K1 L K2:List Int}(h:RowOK (K1++K2))(h3:3∉L)(h4:4∉L)(h5:5∉L):RowOK (K1++L++K2):=by
 obtain⟨a,b,c,d⟩:=h
 refine⟨?_,?_,?_,?_⟩
 ·simp only[List.mem_append,not_or]at a⊢;exact⟨⟨a.1,h5⟩,a.2⟩
 ·simp only[List.count_append]at b⊢;rw[count_zero' h4];omega
 ·simp only[List.count_append]at c⊢;rw[count_zero' h3];omega
 ·rw[List.pairwise_append]at d;rw[List.append_assoc,List.pairwise_append,List.pairwise_append];refine⟨d.1,⟨?_,d.2.1,fun x hx y hy q=>h4 (q.1▸hx)⟩,fun x hx y hy q=>?_⟩;·{exact List.pairwise_of_forall_mem_list (fun x hx y hy q=>h4 (q.1▸hx))};·rcases List.mem_append.1 hy with hy|hy;·{exact h3 (q.2▸hy)};·exact d.2.2 x hx y hy q
theorem row_mid4 {K1 L K2:List Int}(h:RowOK (K1++K2))(k1:4∉K1)(k2:4∉K2)(k3:3∉K2)(h3:3∉L)(h4:L.count 4≤1)(h5:5∉L):RowOK (K1++L++K2):=by
 obtain⟨a,b,c,d⟩:=h
 refine⟨?_,?_,?_,?_⟩
 ·simp only[List.mem_append,not_or]at a⊢;exact⟨⟨a.1,h5⟩,a.2⟩
 ·simp only[List.count_append];rw[count_zero' k1,count_zero' k2];omega
 ·simp only[List.count_append]at c⊢;rw[count_zero' h3];omega
 ·rw[List.pairwise_append]at d;rw[List.append_assoc,List.pairwise_append,List.pairwise_append];refine⟨d.1,⟨?_,d.2.1,fun x hx y hy q=>k3 (q.2▸hy)⟩,fun x hx y hy q=>k1 (q.1▸hx)⟩;exact List.pairwise_of_forall_mem_list (fun x hx y hy q=>h3 (q.2▸hy))
theorem row_mid3 {K1 K2:List Int}(h:RowOK (K1++K2))(k1:4∉K1)(k2:3∉K1)(k3:3∉K2):RowOK (K1++ [3]++K2):=by
 obtain⟨a,b,c,d⟩:=h
 refine⟨?_,?_,?_,?_⟩
 ·simp only[List.mem_append,not_or]at a⊢;exact⟨⟨a.1,by decide⟩,a.2⟩
 ·simp only[List.count_append]at b⊢;rw[count_zero' (show(4:Int)∉ [3]by decide)];omega
 ·simp only[List.count_append];rw[count_zero' k2,count_zero' k3];decide
 ·rw[List.pairwise_append]at d;rw[List.append_assoc,List.pairwise_append,List.pairwise_append];refine⟨d.1,⟨by simp,d.2.1,fun x hx y hy q=>k3 (q.2▸hy)⟩,fun x hx y hy q=>k1 (q.1▸hx)⟩
theorem row_sub {A B:Ar}{p:Int}(hk:(B.get p).Xa=(A.get p).Xa)(hs:(B.XbY p).Sublist (A.XbY p))(h:A.rowP p):B.rowP p:=⟨fun q=>(h.1 (hk.symm.trans q)).sub hs,fun q z=>h.2 (fun e=>q (hk.trans e)) (hs.subset z)⟩
theorem kinds_sub {A B:Ar}{p:Int}(hkk:∀k∈(B.get p).Xc,(B.get k).Xa=(A.get k).Xa)(hs:((B.get p).Xc).Sublist (A.get p).Xc):(B.XbY p).Sublist (A.XbY p):=by
 have e:B.XbY p=(B.get p).Xc.map (fun k=>(A.get k).Xa):=List.map_congr_left hkk
 rw[e]
 exact hs.map _
theorem rows_less {A B:Ar}(h:∀p,A.has p→A.rowP p)(hn:∀x,B.has x→¬A.has x→(B.get x).Xc= [])(hk:∀x,A.has x→(B.get x).Xa=(A.get x).Xa)(hkid:∀p,A.has p→∀k∈(A.get p).Xc,A.has k)(hs:∀p,A.has p→((B.get p).Xc).Sublist (A.get p).Xc):∀p,B.has p→B.rowP p:=fun p hp=>by{by_cases q:A.has p;·{exact row_sub (hk p q) (kinds_sub (fun k hkk=>hk k (hkid p q k ((hs p q).subset hkk))) (hs p q)) (h p q)};·have e:B.XbY p= []:=by{unfold Ar.XbY;rw[hn p hp q];rfl};refine⟨fun _=>by rw[e];exact⟨by simp,by simp,by simp,List.Pairwise.nil⟩,fun _=>by rw[e];simp⟩}
theorem kid_has {A:Ar}(hI:A.Inv):∀p,A.has p→∀k∈(A.get p).Xc,A.has k:=fun p hp k hk=>(XF hI hp hk).1
theorem p5_cut {A:Ar}(hI:A.Inv)(h:P5 A){x:Int}(hx:A.has x):P5 (A.cut x):=⟨kc_cut hI h.kc hx,rows_less h.row (fun y hy q=>absurd ((Ar.X5 _ _ _).1 hy) q) (fun y hy=>by rw[XdB hI hx hy]<;>rfl) (kid_has hI) (fun y hy=>by rw[XdB hI hx hy];exact List.filter_sublist)⟩
theorem kc_puts {d p c:Int}:∀(l:List Int){B:Ar},B.Inv→KC B→B.has p→B.has d→(B.get d).Xa=1→(B.get p).doc=d→(∀x∈l,B.has x∧(B.get x).Xa≠1∧(B.get x).Xa≠2∧p∉B.Xi x)→KC (l.foldl (Yd d p c) B)∧(∀y,(l.foldl (Yd d p c) B).has y→¬B.has y→((l.foldl (Yd d p c) B).get y).Xc= [])∧∀y,B.has y→(l.foldl (Yd d p c) B).has y∧(y≠p→∀k∈((l.foldl (Yd d p c) B).get y).Xc,k∈(B.get y).Xc)
 | [],B,hI,hK,hp,hd,hk,hpd,hl=>⟨hK,fun y hy q=>absurd hy q,fun y hy=>⟨hy,fun _ k hk=>hk⟩⟩
 |x::l,B,hI,hK,hp,hd,hk,hpd,hl=>by{obtain⟨x1,x2,x3,x4⟩:=hl x (by simp);have hho:(B.get x).host=0:=Classical.not_not.1 (fun q=>x3 (hI.host x x1 q).1);have R:=kc_adopt hI hK x1 x2 hho hd hk;have hC:(B.cut x).Inv:=Ar.XC.cut hI x1;have hget:∀y,B.has y→(B.YM x d).has y∧((B.YM x d).get y).Xa=(B.get y).Xa∧((B.YM x d).get y).Xg=(B.get y).Xg∧((B.YM x d).get y).Xc=XQ (B.get y).Xc x:=fun y hy=>by{have hyC:(B.cut x).has y:=(Ar.X5 _ _ _).2 hy;refine⟨R.tree.has hyC,?_,?_,?_⟩;·{rw[R.tree.Xa hyC,XdB hI x1 hy]<;>rfl};·{rw[R.tree.Xg hyC,XdB hI x1 hy]<;>rfl};·rw[R.tree.Xc hyC,XdB hI x1 hy]<;>rfl};have hpo:((B.YM x d).get p).doc=d:=by{rw[R.out p hp x4];exact hpd};have hKp:KC ((B.YM x d).put p x c).2:=kc_put R.inv R.kc (fun _ _=>by rw[R.self,hpo]);have hI1:((B.YM x d).put p x c).2.Inv:=Ar.Inv.put R.inv p x c;rw[List.foldl_cons];have hst:Yd d p c B x=((B.YM x d).put p x c).2:=rfl;rw[hst];have pg:=fun y(hy:B.has y)=>XcT R.inv p x c (hget y hy).1;have hsh:∀u,B.has u→u≠p→((B.YM x d).put p x c).2.has u∧(∀k∈(((B.YM x d).put p x c).2.get u).Xc,k∈(B.get u).Xc)∧(((B.YM x d).put p x c).2.get u).Xg=(B.get u).Xg:=fun u hu hup=>by{obtain⟨g1,g2,g3,g4⟩:=hget u hu;refine⟨(pg u hu).1,?_⟩;by_cases q:(B.YM x d).allowed p x c ((B.YM x d).contains x p)≠0;·{have e:((B.YM x d).put p x c).2=B.YM x d:=by{unfold Ar.put;rw[if_pos q]};rw[e,g3,g4];exact⟨fun k hkk=>(XiF.1 hkk).1,rfl⟩};·have e:((B.YM x d).put p x c).2=(B.YM x d).place p x c:=by{unfold Ar.put;rw[if_neg q]};have hne:p≠x:=fun z=>x4 (by rw[z];exact XfH hI x1);obtain⟨h1,h2,-⟩:=Xem (Classical.not_not.1 q);rw[e,Ar.Xcy h1 h2 g1 hne,XdB R.inv h2 g1];refine⟨fun k hkk=>?_,g3⟩;have hk2:k∈XQ ((B.YM x d).get u).Xc x:=by{simpa[hup,Nd.re]using hkk};have:=(XiF.1 hk2).1;rw[g4]at this;exact(XiF.1 this).1};have hnew:∀y,((B.YM x d).put p x c).2.has y→¬B.has y→(((B.YM x d).put p x c).2.get y).Xc= []:=fun y hy hn=>by{have hy1:(B.YM x d).has y:=by{have:=(JO (B.YM x d) p x c).2;unfold Ar.has Ar.n at hy⊢;rw[this]at hy;exact hy};have hb:=(R.new y hy1 hn).1;by_cases q:(B.YM x d).allowed p x c ((B.YM x d).contains x p)≠0;·{have e:((B.YM x d).put p x c).2=B.YM x d:=by{unfold Ar.put;rw[if_pos q]};rw[e,hb]};·have e:((B.YM x d).put p x c).2=(B.YM x d).place p x c:=by{unfold Ar.put;rw[if_neg q]};have hne:p≠x:=fun z=>x4 (by rw[z];exact XfH hI x1);obtain⟨h1,h2,-⟩:=Xem (Classical.not_not.1 q);rw[e,Ar.Xcy h1 h2 hy1 hne,XdB R.inv h2 hy1];have hyp:y≠p:=fun z=>hn (z▸hp);show(if y=p then _ else XQ ((B.YM x d).get y).Xc x)= [];rw[if_neg hyp,hb];rfl};have r:=kc_puts (d:=d) (p:=p) (c:=c) l (B:=((B.YM x d).put p x c).2) hI1 hKp (pg p hp).1 (pg d hd).1 ?_ ?_ (fun z hz=>?_);·{obtain⟨r1,r2,r3⟩:=r;refine⟨r1,fun y hy hn=>?_,fun y hy=>⟨(r3 y (pg y hy).1).1,fun hyp k hkk=>(hsh y hy hyp).2.1 k ((r3 y (pg y hy).1).2 hyp k hkk)⟩⟩;by_cases q:((B.YM x d).put p x c).2.has y;·{have h0:=(r3 y q).2 (fun z=>hn (z▸hp));rw[hnew y q hn]at h0;exact List.eq_nil_iff_forall_not_mem.2 (fun k hkk=>by cases h0 k hkk)};·exact r2 y hy q};·{rw[(pg d hd).2.1,(hget d hd).2.1];exact hk};·{rw[(pg p hp).2.2];exact hpo};·obtain⟨z1,z2,z3,z4⟩:=hl z (by simp[hz]);refine⟨(pg z z1).1,?_,?_,fun q=>z4 (XnU hI hI1 hsh z z1 z4 p q)⟩;·{rw[(pg z z1).2.1,(hget z z1).2.1];exact z2};·rw[(pg z z1).2.1,(hget z z1).2.1];exact z3}
theorem p5_puts {d p c:Int}{l K1 K2:List Int}{A:Ar}(hI:A.Inv)(h:P5 A)(hp:A.has p)(hd:A.has d)(hk:(A.get d).Xa=1)(hkp:(A.get p).Xa=1∨(A.get p).Xa=2∨(A.get p).Xa=4)(hpd:(A.get p).doc=d)(hl:∀x∈l,A.has x∧(A.get x).Xa≠1∧(A.get x).Xa≠2∧p∉A.Xi x)(hn:l.Nodup)(hkids:(A.get p).Xc=K1++ []++K2)(hc:(c=0∧K2= [])∨∃t,K2=c::t∧c≠0∧c∉l)(hr:(A.get p).Xa=1→RowOK ((K1.filter (fun z=>z∉l)++l++K2.filter (fun z=>z∉l)).map (fun k=>(A.get k).Xa)))(hdt:(A.get p).Xa≠1→3∉l.map (fun k=>(A.get k).Xa)):P5 (l.foldl (Yd d p c) A):=by
 obtain⟨R1,R2,R3⟩:=puts_fold (d:=d) (p:=p) (c:=c) l hI hp hd hk hkp hl hn hkids (fun x _ q=>by simp at q) hc
 obtain⟨k1,k2,k3⟩:=kc_puts (d:=d) (p:=p) (c:=c) l hI h.kc hp hd hk hpd hl
 generalize l.foldl (Yd d p c) A=B at*
 refine⟨k1,fun y hy=>?_⟩
 have kk:∀x,A.has x→(B.get x).Xa=(A.get x).Xa:=fun x hx=>by obtain⟨-,e,he⟩:=R3 x hx;exact(congrArg Nd.Xa he).trans rfl
 by_cases q:A.has y
 ·obtain⟨-,e,he⟩:=R3 y q;have hkid:=congrArg Nd.Xc he;by_cases z:y=p;·{subst z;have hkid:(B.get y).Xc=K1.filter (fun z=>z∉l)++l++K2.filter (fun z=>z∉l):=by{rw[hkid];show(if y=y then K1.filter (fun z=>z∉l)++ []++l++K2.filter (fun z=>z∉l)else _)=_;rw[if_pos rfl,List.append_nil]};have hin:∀k∈(B.get y).Xc,A.has k:=fun k hkk=>by{rw[hkid]at hkk;rcases List.mem_append.1 hkk with hkk|hkk;·{rcases List.mem_append.1 hkk with hkk|hkk;·{exact(XF hI q (k:=k) (by rw[hkids];simp[(List.mem_filter.1 hkk).1])).1};·exact(hl k hkk).1};·exact(XF hI q (k:=k) (by rw[hkids];simp[(List.mem_filter.1 hkk).1])).1};have eK:B.XbY y=(K1.filter (fun z=>z∉l)++l++K2.filter (fun z=>z∉l)).map (fun k=>(A.get k).Xa):=by{unfold Ar.XbY;rw[List.map_congr_left (fun k hkk=>kk k (hin k hkk)),hkid]};refine⟨fun z=>?_,fun z=>?_⟩;·{rw[eK];exact hr (by rw[←kk y q];exact z)};·rw[kk y q]at z;have old:=(h.row y q).2 z;have e0:A.XbY y=(K1++K2).map (fun k=>(A.get k).Xa):=by{unfold Ar.XbY;rw[hkids,List.append_nil]};rw[e0,List.map_append,List.mem_append]at old;rw[eK,List.map_append,List.map_append,List.mem_append,List.mem_append];rintro((u|u)|u);·{obtain⟨k,k1,k2⟩:=List.mem_map.1 u;exact old (.inl (List.mem_map.2 ⟨k,(List.mem_filter.1 k1).1,k2⟩))};·{exact hdt z u};·obtain⟨k,k1,k2⟩:=List.mem_map.1 u;exact old (.inr (List.mem_map.2 ⟨k,(List.mem_filter.1 k1).1,k2⟩))};·have hkid:(B.get y).Xc=(A.get y).Xc.filter (fun z=>z∉l):=by{rw[hkid];show(if y=p then _ else(A.get y).Xc.filter (fun z=>z∉l))=_;rw[if_neg z]};have hsub:((B.get y).Xc).Sublist (A.get y).Xc:=by{rw[hkid];exact List.filter_sublist};exact row_sub (kk y q) (kinds_sub (fun k hkk=>kk k (XF hI q (hsub.subset hkk)).1) hsub) (h.row y q)
 ·have e:B.XbY y= []:=by{unfold Ar.XbY;rw[k2 y hy q];rfl};exact⟨fun _=>by rw[e];exact⟨by simp,by simp,by simp,List.Pairwise.nil⟩,fun _=>by rw[e];simp⟩
end
section
theorem split_no {A:Ar}{p c:Int}(h:c∉(A.get p).Xc):A.Zn p c=((A.get p).Xc.map (fun x=>(A.get x).Xa),[]):=by
 unfold Ar.Zn
 rw[XfD _ _ _ h]
 simp
theorem split_at' {A:Ar}{p c:Int}{K1 K2:List Int}(hk:(A.get p).Xc=K1++c::K2)(hn:(A.get p).Xc.Nodup):A.Zn p c=(K1.map (fun x=>(A.get x).Xa),K2.map (fun x=>(A.get x).Xa)):=by
 have hn':=hn
 rw[hk,List.nodup_append]at hn'
 have h1:c∉K1:=fun q=>hn'.2.2 c q c (by simp) rfl
 have h2:c∉K2:=(List.nodup_cons.1 hn'.2.1).1
 unfold Ar.Zn
 rw[hk,List.foldl_append,XfD _ _ _ h1,List.foldl_cons]
 have:Zf A c (false,[]++K1.map (fun x=>(A.get x).Xa),[]) c=(true,[]++K1.map (fun x=>(A.get x).Xa),[]):=by unfold Zf;rw[if_pos rfl]
 rw[this,XiC _ _ _ h2]
 simp
theorem row_new {A:Ar}(hI:A.Inv)(h:P5 A){p n:Int}{M1 M2:List Int}(hp:A.has p)(hk:(A.get p).Xa=1)(hn:A.has n)(hkids:(A.get p).Xc=M1++M2)(hE:((A.get n).Xa=4∨((A.get n).Xa=2∧(A.XbY n).count 4=1))→4∉M1.map (fun x=>(A.get x).Xa)∧4∉M2.map (fun x=>(A.get x).Xa)∧3∉M2.map (fun x=>(A.get x).Xa))(hD:(A.get n).Xa=3→3∉M1.map (fun x=>(A.get x).Xa)∧3∉M2.map (fun x=>(A.get x).Xa)∧4∉M1.map (fun x=>(A.get x).Xa))(hF:(A.get n).Xa=2→5∉A.XbY n∧(A.XbY n).count 4≤1)(h5:(A.get n).Xa≠5):RowOK ((M1.filter (fun z=>z∉A.X7 n)++A.X7 n++M2.filter (fun z=>z∉A.X7 n)).map (fun k=>(A.get k).Xa)):=by
 have h0:RowOK ((M1.filter (fun z=>z∉A.X7 n)).map (fun k=>(A.get k).Xa)++(M2.filter (fun z=>z∉A.X7 n)).map (fun k=>(A.get k).Xa)):=by refine((h.row p hp).1 hk).sub ?_;have:A.XbY p=M1.map (fun k=>(A.get k).Xa)++M2.map (fun k=>(A.get k).Xa):=by{unfold Ar.XbY;rw[hkids,List.map_append]};rw[this];exact List.Sublist.append (List.filter_sublist.map _) (List.filter_sublist.map _)
 have sub:∀(M:List Int)(a:Int),a∉M.map (fun x=>(A.get x).Xa)→a∉(M.filter (fun z=>z∉A.X7 n)).map (fun x=>(A.get x).Xa):=fun M a q z=>q ((List.filter_sublist.map _).subset z)
 rw[List.map_append,List.map_append]
 by_cases k2:(A.get n).Xa=2
 ·have hl:(A.X7 n).map (fun k=>(A.get k).Xa)=A.XbY n:=by{unfold Ar.X7 Ar.XbY;rw[if_pos k2]};have h3:3∉A.XbY n:=(h.row n hn).2 (by rw[k2];decide);obtain⟨f1,f2⟩:=hF k2;rw[hl];by_cases q:(A.XbY n).count 4=1;·{obtain⟨e1,e2,e3⟩:=hE (.inr ⟨k2,q⟩);exact row_mid4 h0 (sub _ _ e1) (sub _ _ e2) (sub _ _ e3) h3 f2 f1};·exact row_mid0 h0 h3 (List.count_eq_zero.1 (by omega)) f1
 ·have hl:(A.X7 n).map (fun k=>(A.get k).Xa)= [(A.get n).Xa]:=by{unfold Ar.X7;rw[if_neg k2];rfl};rw[hl];by_cases k4:(A.get n).Xa=4;·{obtain⟨e1,e2,e3⟩:=hE (.inl k4);rw[k4];exact row_mid4 h0 (sub _ _ e1) (sub _ _ e2) (sub _ _ e3) (by decide) (by decide) (by decide)};·by_cases k3:(A.get n).Xa=3;·{obtain⟨e1,e2,e3⟩:=hD k3;rw[k3];exact row_mid3 h0 (sub _ _ e3) (sub _ _ e1) (sub _ _ e2)};·exact row_mid0 h0 (by simp;exact fun e=>k3 e.symm) (by simp;exact fun e=>k4 e.symm) (by simp;exact fun e=>h5 e.symm)
theorem refused_row {A:Ar}{p n c:Int}{r:Bool}(h:A.Ya p n c r=0):((A.get p).Xa=1→(A.get n).Xa≠5∧((A.get n).Xa=2→¬A.JB p n c r)∧((A.get n).Xa=4→¬A.Zu p c r)∧((A.get n).Xa=3→¬A.Jd p c r))∧((A.get p).Xa≠1→(A.get n).Xa≠3):=by
 rw[XnM]at h
 split at h
 ·exact absurd h (by decide)
 ·split at h;·{exact absurd h (by decide)};·split at h;·{exact absurd h (by decide)};·split at h;·{exact absurd h (by decide)};·split at h;·{exact absurd h (by decide)};·rename_i q;split at h;·{exact absurd h (by decide)};·rename_i z;unfold Ar.Xan at z;refine⟨fun k=>⟨fun e=>q (.inl ⟨k,e⟩),fun e b=>z ⟨k,.inl ⟨e,b⟩⟩,fun e b=>z ⟨k,.inr (.inl ⟨e,b⟩)⟩,fun e b=>z ⟨k,.inr (.inr ⟨e,b⟩)⟩⟩,fun k e=>q (.inr ⟨k,e⟩)⟩
theorem bad_rows {A:Ar}{p c:Int}{r:Bool}{K1 K2:List Int}(hs:A.Zn p c=(K1.map (fun x=>(A.get x).Xa),K2.map (fun x=>(A.get x).Xa))):(¬A.Zu p c r→4∉K1.map (fun x=>(A.get x).Xa)∧4∉K2.map (fun x=>(A.get x).Xa)∧3∉K2.map (fun x=>(A.get x).Xa))∧(¬A.Jd p c r→3∉K1.map (fun x=>(A.get x).Xa)∧3∉K2.map (fun x=>(A.get x).Xa)∧4∉K1.map (fun x=>(A.get x).Xa)):=by
 unfold Ar.Zu Ar.Jd
 rw[hs]
 exact⟨fun q=>⟨fun z=>q (.inl z),fun z=>q (.inr (.inl z)),fun z=>q (.inr (.inr (.inl z)))⟩,fun q=>⟨fun z=>q (.inl z),fun z=>q (.inr (.inl z)),fun z=>q (.inr (.inr (.inl z)))⟩⟩
theorem p5_insert {A:Ar}(hI:A.Inv)(hP:P5 A){p n c:Int}:P5 (A.XX p n c).2:=by
 unfold Ar.XX
 by_cases hv:A.Y4 p n c≠0
 ·rw[if_pos hv];exact hP
 rw[if_neg hv]
 have hv:=Classical.not_not.1 hv
 have hh:A.has p∧A.has n∧(c≠0→A.has c):=by unfold Ar.Y4 at hv;by_cases q:A.has p∧A.has n∧(c≠0→A.has c);·{exact q};·rw[if_neg q]at hv;exact absurd hv (by decide)
 have hr:A.Ya p n c false=0:=by unfold Ar.Y4 at hv;rw[if_pos hh]at hv;exact hv
 obtain⟨hp,hn,hc⟩:=hh
 obtain⟨r1,r2,r3,r4⟩:=XiI hr
 obtain⟨w1,w2⟩:=refused_row hr
 obtain⟨nf,nnd⟩:=XnP hI hp hn r4 r2
 have hpn:p≠n:=fun e=>by have:p∉A.Xi n:=by{rw[J0 hI]at r2;exact of_decide_eq_false r2};exact this (by rw[Ym hI hn,e];simp)
 have hnd:=hI.wf.nodup p hp
 have hin:∀k∈(A.get p).Xc,(k∈A.X7 n↔k=n):=fun k hkk=>by obtain⟨q1,q2,q3⟩:=XF hI hp hkk;refine⟨fun q=>?_,fun q=>?_⟩;·{rcases(nf k q).2.2.2.2 with z|z;·{exact z};·exact absurd (q3.symm.trans z) hpn};·subst q;have:=(hI.par k q1 (by rw[q3];exact Xa6 hp)).2;unfold Ar.X7;rw[if_neg this];simp
 obtain⟨d1,d2⟩:=hI.ZV p hp
 have hF:(A.get p).Xa=1→(A.get n).Xa=2→5∉A.XbY n∧(A.XbY n).count 4≤1:=fun k1 k2=>by have:=(w1 k1).2.1 k2;unfold Ar.JB at this;exact⟨fun z=>this (.inl z),by rcases Nat.lt_or_ge 1 ((A.XbY n).count 4)with q|q;·{exact absurd (.inr (.inl q)) this};·exact q⟩
 have hEb:(A.get p).Xa=1→((A.get n).Xa=4∨((A.get n).Xa=2∧(A.XbY n).count 4=1))→¬A.Zu p c false:=fun k1 q=>by rcases q with q|⟨q,q2⟩;·{exact(w1 k1).2.2.1 q};·intro z;refine(w1 k1).2.1 q ?_;unfold Ar.JB;exact .inr (.inr ⟨q2,z⟩)
 have hsplit:∃M1 M2:List Int,(A.get p).Xc=M1++ []++M2∧(((if c=n then A.next n else c)=0∧M2= [])∨∃t,M2=(if c=n then A.next n else c)::t∧(if c=n then A.next n else c)≠0∧(if c=n then A.next n else c)∉A.X7 n)∧((A.get p).Xa=1→RowOK ((M1.filter (fun z=>z∉A.X7 n)++A.X7 n++M2.filter (fun z=>z∉A.X7 n)).map (fun k=>(A.get k).Xa))):=by by_cases e:c=n;·{rw[if_pos e];subst e;have hcp:=r3 (Xa6 hn);obtain⟨K1,K2,k1,k2⟩:=XfG hI hn (by rw[hcp];exact Xa6 hp);rw[hcp]at k1;refine⟨K1++ [c],K2,by rw[k1];simp,?_,fun hk1=>?_⟩;·{cases K2 with|nil=>{exact .inl ⟨k2,rfl⟩}|cons z K3=>have ez:A.next c=z:=k2;have hz:z∈(A.get p).Xc:=by{rw[k1];simp};refine .inr ⟨K3,by rw[ez],by rw[ez];exact Xa6 (XF hI hp hz).1,fun q=>?_⟩;rw[ez]at q;have:=(hin z hz).1 q;subst this;rw[k1]at hnd;have h2:=(List.nodup_cons.1 (List.nodup_append.1 hnd).2.1).1;simp at h2};·have hc2:(A.get c).Xa≠2:=(hI.par c hn (by rw[hcp];exact Xa6 hp)).2;have hc4:(A.get c).Xa≠4:=fun q=>(w1 hk1).2.2.1 q (by unfold Ar.Zu;exact .inr (.inr (.inr ⟨rfl,Xa6 hn,.inl q⟩)));have hc3:(A.get c).Xa≠3:=fun q=>(w1 hk1).2.2.2 q (by unfold Ar.Jd;exact .inr (.inr (.inr ⟨rfl,Xa6 hn,q⟩)));exact row_new hI hP hp hk1 hn (by rw[k1];simp) (fun q=>q.elim (fun q=>absurd q hc4) (fun q=>absurd q.1 hc2)) (fun q=>absurd q hc3) (fun q=>absurd q hc2) (w1 hk1).1};·rw[if_neg e];by_cases h0:c=0;·{refine⟨(A.get p).Xc,[],by simp,.inl ⟨h0,rfl⟩,fun hk1=>?_⟩;have hs:A.Zn p c=((A.get p).Xc.map (fun x=>(A.get x).Xa),([]:List Int).map (fun x=>(A.get x).Xa)):=by{rw[split_no (fun q=>Xa6 (XF hI hp q).1 h0)];rfl};obtain⟨b1,b2⟩:=bad_rows (r:=false) hs;exact row_new hI hP hp hk1 hn (by simp) (fun q=>b1 (hEb hk1 q)) (fun q=>b2 ((w1 hk1).2.2.2 q)) (hF hk1) (w1 hk1).1};·have hcp:=r3 h0;obtain⟨K1,K2,k1,k2⟩:=XfG hI (hc h0) (by rw[hcp];exact Xa6 hp);rw[hcp]at k1;refine⟨K1,c::K2,by rw[k1];simp,.inr ⟨K2,rfl,h0,fun q=>e ((hin c (by rw[k1];simp)).1 q)⟩,fun hk1=>?_⟩;have hs:=split_at' k1 hnd;obtain⟨b1,b2⟩:=bad_rows (r:=false) hs;refine row_new hI hP hp hk1 hn k1 (fun q=>?_) (fun q=>?_) (hF hk1) (w1 hk1).1;·{have hb:=hEb hk1 q;obtain⟨a1,a2,a3⟩:=b1 hb;unfold Ar.Zu at hb;refine⟨a1,?_,?_⟩;·{rw[List.map_cons,List.mem_cons,not_or];exact⟨fun z=>hb (.inr (.inr (.inr ⟨rfl,h0,.inl z.symm⟩))),a2⟩};·rw[List.map_cons,List.mem_cons,not_or];exact⟨fun z=>hb (.inr (.inr (.inr ⟨rfl,h0,.inr z.symm⟩))),a3⟩};·have hb:=(w1 hk1).2.2.2 q;obtain⟨a1,a2,a3⟩:=b2 hb;unfold Ar.Jd at hb;refine⟨a1,?_,a3⟩;rw[List.map_cons,List.mem_cons,not_or];exact⟨fun z=>hb (.inr (.inr (.inr ⟨rfl,h0,z.symm⟩))),a2⟩
 generalize(if c=n then A.next n else c)=c' at*
 obtain⟨M1,M2,m1,m2,m3⟩:=hsplit
 have hl:∀x∈A.X7 n,A.has x∧(A.get x).Xa≠1∧(A.get x).Xa≠2∧p∉A.Xi x:=fun x hx=>⟨(nf x hx).1,(nf x hx).2.1,(nf x hx).2.2.1,(nf x hx).2.2.2.1⟩
 refine p5_puts hI hP hp d1 d2 r1 rfl hl nnd m1 m2 m3 (fun k1=>?_)
 have hk3:=w2 k1
 unfold Ar.X7
 by_cases k2:(A.get n).Xa=2
 ·rw[if_pos k2];exact(hP.row n hn).2 (by rw[k2];decide)
 ·rw[if_neg k2];simp;exact fun q=>hk3 q.symm
end
end Go.Proofs.YtpicinjcmjaogaaGreatDoor
