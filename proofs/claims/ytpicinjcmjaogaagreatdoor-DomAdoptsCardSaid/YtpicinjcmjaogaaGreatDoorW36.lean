import Derived.Test.YtpicinjcmjaogaaGreatDoorW35
set_option maxRecDepth 100000
set_option maxHeartbeats 4000000
set_option linter.unusedVariables false
namespace Go.Proofs.YtpicinjcmjaogaaGreatDoor
section
theorem kinds_cut {A:Ar}(hI:A.Inv){c n:Int}(hc:A.has c)(hn:A.has n)(h:c∉(A.get n).Xc):(A.cut c).XbY n=A.XbY n:=by
 unfold Ar.XbY
 rw[XdB hI hc hn]
 show(XQ (A.get n).Xc c).map _=_
 rw[XiE h]
 exact List.map_congr_left (fun k hk=>by rw[XdB hI hc (XF hI hn hk).1]<;>rfl)
theorem p5_replace {A:Ar}(hI:A.Inv)(hP:P5 A){p n c:Int}:P5 (A.YU p n c).2:=by
 unfold Ar.YU
 by_cases hh:A.has p∧A.has n∧A.has c
 case neg=>rw[if_neg hh];exact hP
 rw[if_pos hh]
 obtain⟨hp,hn,hc⟩:=hh
 by_cases hr:A.Ya p n c true≠0
 ·rw[if_pos hr];exact hP
 rw[if_neg hr]
 have hr:=Classical.not_not.1 hr
 obtain⟨r1,r2,r3,r4⟩:=XiI hr
 obtain⟨w1,w2⟩:=refused_row hr
 have hcp:=r3 (Xa6 hc)
 have hcp0:(A.get c).Xd≠0:=by rw[hcp];exact Xa6 hp
 obtain⟨K1,K2,hk,hnx⟩:=XfG hI hc hcp0
 rw[hcp]at hk
 have hnd:=hI.wf.nodup p hp
 obtain⟨nf,nnd⟩:=XnP hI hp hn r4 r2
 have hpn:p≠n:=fun e=>by have:p∉A.Xi n:=by{rw[J0 hI]at r2;exact of_decide_eq_false r2};exact this (by rw[Ym hI hn,e];simp)
 have hC:(A.cut c).Inv:=Ar.XC.cut hI hc
 have hasC:∀y,A.has y→(A.cut c).has y:=fun y hy=>(Ar.X5 _ _ _).2 hy
 have hin:∀k∈(A.get p).Xc,(k∈A.X7 n↔k=n):=fun k hkk=>by obtain⟨q1,q2,q3⟩:=XF hI hp hkk;refine⟨fun q=>?_,fun q=>?_⟩;·{rcases(nf k q).2.2.2.2 with z|z;·{exact z};·exact absurd (q3.symm.trans z) hpn};·subst q;have:=(hI.par k q1 (by rw[q3];exact Xa6 hp)).2;unfold Ar.X7;rw[if_neg this];simp
 have hck:c∈(A.get p).Xc:=by rw[hk];simp
 have hno:∀k∈K1++K2,k≠c:=fun k q e=>by subst e;rw[hk]at hnd;have:=List.nodup_append.1 hnd;rcases List.mem_append.1 q with q|q;·{exact this.2.2 k q k (by simp) rfl};·exact(List.nodup_cons.1 this.2.1).1 q
 have hsub:∀k∈K1++K2,k∈(A.get p).Xc:=fun k q=>by rw[hk];rcases List.mem_append.1 q with q|q<;>simp[q]
 have hnc:c∉(A.get n).Xc:=fun q=>hpn ((XF hI hn q).2.2.symm.trans hcp).symm
 have hnodes:(A.cut c).X7 n=A.X7 n:=by unfold Ar.X7;rw[XdB hI hc hn];show(if(A.get n).Xa=2 then XQ (A.get n).Xc c else [n])=_;rw[XiE hnc]
 have hkC:((A.cut c).get p).Xc=K1++K2:=by rw[XdB hI hc hp];show XQ (A.get p).Xc c=_;rw[hk,without_app];unfold XQ;rw[List.filter_cons,if_neg (by simp)];rw[List.filter_eq_self.2 (fun y hy=>by simp;exact hno y (by simp[hy])),List.filter_eq_self.2 (fun y hy=>by simp;exact hno y (by simp[hy]))]
 have kC:∀y,A.has y→((A.cut c).get y).Xa=(A.get y).Xa:=fun y hy=>by rw[XdB hI hc hy]<;>rfl
 have hl:∀x∈A.X7 n,(A.cut c).has x∧((A.cut c).get x).Xa≠1∧((A.cut c).get x).Xa≠2∧p∉(A.cut c).Xi x:=fun x hx=>by obtain⟨a1,a2,a3,a4,-⟩:=nf x hx;exact⟨hasC x a1,by rw[kC x a1];exact a2,by rw[kC x a1];exact a3,fun q=>a4 (XiJ hI hc x (hasC x a1) p q)⟩
 obtain⟨hd1,hd2⟩:=hC.ZV p (hasC p hp)
 have hsplit:∃M1 M2:List Int,((A.cut c).get p).Xc=M1++ []++M2∧M1.filter (fun z=>z∉A.X7 n)=K1.filter (fun z=>z∉A.X7 n)∧M2.filter (fun z=>z∉A.X7 n)=K2.filter (fun z=>z∉A.X7 n)∧(((if A.next c=n then A.next n else A.next c)=0∧M2= [])∨∃t,M2=(if A.next c=n then A.next n else A.next c)::t∧(if A.next c=n then A.next n else A.next c)≠0∧(if A.next c=n then A.next n else A.next c)∉A.X7 n):=by cases K2 with|nil=>{have:A.next c=0:=hnx;have h0:¬A.next c=n:=by{rw[this];exact fun e=>Xa6 hn e.symm};rw[if_neg h0];exact⟨K1,[],by rw[hkC];simp,rfl,rfl,.inl ⟨this,rfl⟩⟩}|cons y K3=>have hy:A.next c=y:=hnx;have hyk:y∈(A.get p).Xc:=hsub y (by simp);by_cases e:A.next c=n;·{rw[if_pos e];have eyn:y=n:=hy.symm.trans e;subst eyn;have hyp:=(XF hI hp hyk).2.2;obtain⟨L1,L2,e1,e2⟩:=XfG hI hn (by rw[hyp];exact Xa6 hp);rw[hyp,hk]at e1;have e1':(K1++ [c])++y::K3=L1++y::L2:=by{rw[←e1];simp};obtain⟨-,rfl⟩:=XiK (by rw[hk]at hnd;simpa using hnd) e1';have hyl:y∈A.X7 y:=(hin y hyk).2 rfl;refine⟨K1++ [y],K3,by rw[hkC];simp,by rw[List.filter_append];simp[hyl],by rw[List.filter_cons,if_neg (by simp[hyl])],?_⟩;cases K3 with|nil=>{exact .inl ⟨e2,rfl⟩}|cons z K4=>have ez:A.next y=z:=e2;have hzk:z∈(A.get p).Xc:=hsub z (by simp);refine .inr ⟨K4,by rw[ez],by rw[ez];exact Xa6 (XF hI hp hzk).1,fun q=>?_⟩;rw[ez]at q;have:=(hin z hzk).1 q;subst this;rw[hk]at hnd;have h2:=(List.nodup_cons.1 (List.nodup_append.1 hnd).2.1).2;simp at h2};·rw[if_neg e];refine⟨K1,y::K3,by rw[hkC];simp,rfl,rfl,.inr ⟨K3,by rw[hy],by rw[hy];exact Xa6 (XF hI hp hyk).1,fun q=>?_⟩⟩;rw[hy]at q;exact e (hy.trans ((hin y hyk).1 q))
 obtain⟨M1,M2,m1,m2,m3,m4⟩:=hsplit
 have hPC:=p5_cut hI hP hc
 have kpC:=kC p hp
 have knC:=kC n hn
 have kkC:=kinds_cut hI hc hn hnc
 have emap:∀M:List Int,(∀k∈M,A.has k)→M.map (fun k=>((A.cut c).get k).Xa)=M.map (fun k=>(A.get k).Xa):=fun M hM=>List.map_congr_left (fun k hk=>kC k (hM k hk))
 have hK1:∀k∈K1,A.has k:=fun k hkk=>(XF hI hp (hsub k (by simp[hkk]))).1
 have hK2:∀k∈K2,A.has k:=fun k hkk=>(XF hI hp (hsub k (by simp[hkk]))).1
 unfold Ar.YD
 rw[hnodes]
 refine p5_puts hC hPC (hasC p hp) hd1 hd2 (by rw[kpC];exact r1) rfl hl nnd m1 m4 (fun k1=>?_) (fun k1=>?_)
 ·rw[m2,m3];rw[kpC]at k1;have hs:=split_at' hk hnd;obtain⟨b1,b2⟩:=bad_rows (r:=true) hs;have:=row_new hC hPC (p:=p) (n:=n) (M1:=K1) (M2:=K2) (hasC p hp) (by rw[kpC];exact k1) (hasC n hn) hkC ?_ ?_ ?_ (by rw[knC];exact(w1 k1).1);·{rw[hnodes]at this;exact this};·{rw[knC,kkC,emap K1 hK1,emap K2 hK2];intro q;refine b1 ?_;rcases q with q|⟨q,q2⟩;·{exact(w1 k1).2.2.1 q};·intro z;refine(w1 k1).2.1 q ?_;unfold Ar.JB;exact .inr (.inr ⟨q2,z⟩)};·{rw[knC,emap K1 hK1,emap K2 hK2];exact fun q=>b2 ((w1 k1).2.2.2 q)};·rw[knC,kkC];intro k2;have:=(w1 k1).2.1 k2;unfold Ar.JB at this;exact⟨fun z=>this (.inl z),by rcases Nat.lt_or_ge 1 ((A.XbY n).count 4)with q|q;·{exact absurd (.inr (.inl q)) this};·exact q⟩
 ·rw[kpC]at k1;have hk3:=w2 k1;rw[emap (A.X7 n) (fun k hkk=>(nf k hkk).1)];unfold Ar.X7;by_cases k2:(A.get n).Xa=2;·{rw[if_pos k2];exact(hP.row n hn).2 (by rw[k2];decide)};·rw[if_neg k2];simp;exact fun q=>hk3 q.symm
theorem p5_cutCall {A:Ar}(hI:A.Inv)(hP:P5 A)(x:Int):P5 (A.XR x).2:=by
 unfold Ar.XR
 split
 ·rename_i q;exact p5_cut hI hP q
 ·exact hP
theorem p5_remove {A:Ar}(hI:A.Inv)(hP:P5 A)(p c:Int):P5 (A.Zo p c).2:=by
 unfold Ar.Zo
 split
 ·rename_i q;split;·{exact hP};·exact p5_cut hI hP q.2
 ·exact hP
theorem p5_empty {A:Ar}(hI:A.Inv)(hP:P5 A){p:Int}(hp:A.has p):(A.empty p).Inv∧P5 (A.empty p):=by
 have:=Ze (f:=fun(B:Ar)k=>B.cut k) (l:=(A.get p).Xc) (b:=A) (P:=fun B:Ar=>B.n=A.n∧B.Inv∧P5 B) ⟨rfl,hI,hP⟩ ?_
 ·exact this.2
 rintro B x hx⟨b0,b1,b2⟩
 have hxB:B.has x:=by have:=(XF hI hp hx).1;unfold Ar.has at this⊢;rw[b0];exact this
 exact⟨(Ar.XaG B x).trans b0,Ar.XC.cut b1 hxB,p5_cut b1 b2 hxB⟩
theorem p5_adopt {A:Ar}(hI:A.Inv)(hP:P5 A){h d:Int}(hh:A.has h)(hkh:(A.get h).Xa≠1)(hho:(A.get h).host=0)(hd:A.has d)(hk:(A.get d).Xa=1):P5 (A.YM h d):=by
 have R:=kc_adopt hI hP.kc hh hkh hho hd hk
 have hg:∀y,A.has y→((A.YM h d).get y).Xa=(A.get y).Xa∧((A.YM h d).get y).Xc=XQ (A.get y).Xc h:=fun y hy=>by have hyC:(A.cut h).has y:=(Ar.X5 _ _ _).2 hy;refine⟨?_,?_⟩;·{rw[R.tree.Xa hyC,XdB hI hh hy]<;>rfl};·rw[R.tree.Xc hyC,XdB hI hh hy]<;>rfl
 exact⟨R.kc,rows_less hP.row (fun y hy q=>(R.new y hy q).1) (fun y hy=>(hg y hy).1) (kid_has hI) (fun y hy=>by rw[(hg y hy).2];exact List.filter_sublist)⟩
theorem p5_adoptCall {A:Ar}(hI:A.Inv)(hP:P5 A)(n d:Int):P5 (A.YV n d).2:=by
 unfold Ar.YV
 split
 ·rename_i q;split;·{exact hP};·rename_i z;have z1:(A.get d).Xa=1:=Classical.not_not.1 (fun e=>z (.inl e));have z2:(A.get n).Xa≠1:=fun e=>z (.inr (.inl e));have z3:(A.get n).host=0:=Classical.not_not.1 (fun e=>z (.inr (.inr e)));exact p5_adopt hI hP q.1 z2 z3 q.2 z1
 ·exact hP
end
section
theorem p5_replaceAll {A:Ar}(hI:A.Inv)(hP:P5 A)(p n:Int):P5 (A.Yq p n).2:=by
 unfold Ar.Yq
 by_cases hh:A.has p∧(n≠0→A.has n)
 case neg=>rw[if_neg hh];exact hP
 rw[if_pos hh]
 by_cases q1:(A.get p).Xa≠4∧(A.get p).Xa≠2
 ·rw[if_pos q1];exact hP
 rw[if_neg q1]
 by_cases q2:n≠0∧((A.get n).Xa≠2∨A.contains n p=true)
 ·rw[if_pos q2];exact hP
 rw[if_neg q2]
 obtain⟨e1,e2⟩:=p5_empty hI hP hh.1
 by_cases h0:n≠0
 case neg=>rw[if_neg h0];exact e2
 rw[if_pos h0]
 have hn:=hh.2 h0
 have kn:(A.get n).Xa=2:=Classical.not_not.1 (fun e=>q2 ⟨h0,.inl e⟩)
 have hct:A.contains n p=false:=by cases z:A.contains n p with|false=>{rfl}|true=>exact absurd ⟨h0,.inr z⟩ q2
 have kp:(A.get p).Xa=4∨(A.get p).Xa=2:=by omega
 obtain⟨c1,c2,c3,c4⟩:=XnX hI (l:=(A.get p).Xc) (fun x hx=>(XF hI hh.1 hx).1) hn
 have e:(A.get p).Xc.foldl (fun B k=>B.cut k) A=A.empty p:=rfl
 rw[e]at c1 c2 c3 c4
 have hkE:=empty_kids hI hh.1
 generalize A.empty p=E at*
 obtain⟨hpE,kpE⟩:=c3 p hh.1
 obtain⟨hnE,knE⟩:=c3 n hn
 have hctE:E.contains n p=false:=by rw[J0 c1];rw[J0 hI]at hct;exact decide_eq_false (fun q=>of_decide_eq_false hct (c4 p q))
 obtain⟨nf,nnd⟩:=XnP c1 hpE hnE (by rw[knE,kn];decide) hctE
 obtain⟨d1,d2⟩:=c1.ZV p hpE
 have hl:∀x∈E.X7 n,E.has x∧(E.get x).Xa≠1∧(E.get x).Xa≠2∧p∉E.Xi x:=fun x hx=>⟨(nf x hx).1,(nf x hx).2.1,(nf x hx).2.2.1,(nf x hx).2.2.2.1⟩
 unfold Ar.YD
 refine p5_puts (K1:= []) (K2:= []) c1 e2 hpE d1 d2 (by rw[kpE];omega) rfl hl nnd (by rw[hkE];rfl) (.inl ⟨rfl,rfl⟩) (fun k1=>absurd k1 (by rw[kpE];omega)) (fun _=>?_)
 unfold Ar.X7
 rw[if_pos (by rw[knE];exact kn)]
 exact(e2.row n hnE).2 (by rw[knE,kn];decide)
theorem p5_add {A:Ar}(hI:A.Inv)(hP:P5 A){n:Nd}(h1:n.Xc= [])(h2:n.Xg=0):P5 (A.add n):=⟨kc_add hI hP.kc h1 h2,rows_less hP.row (fun x hx hq=>by rcases(Ar.XO _ _ _).1 hx with q|q;·{exact absurd q hq};·rw[q,Ar.YS];exact h1) (fun x hx=>by rw[Ar.Zb _ hx]) (kid_has hI) (fun x hx=>by rw[Ar.Zb _ hx];exact List.Sublist.refl _)⟩
theorem p5_mod {A:Ar}(hI:A.Inv)(hP:P5 A){x:Int}(hx:A.has x){f:Nd→Nd}(h1:∀n,(f n).doc=n.doc)(h2:∀n,(f n).Xg=n.Xg)(h3:∀n,(f n).Xc=n.Xc)(h4:∀n,(f n).Xa=n.Xa):P5 (A.mod x f):=⟨kc_mod hI hP.kc hx h1 h2 h3,rows_less hP.row (fun y hy q=>absurd ((Ar.ZU _ _ _ _).1 hy) q) (fun y hy=>by rw[Ar.Zr _ hx hy];by_cases q:y=x;·{rw[if_pos q,h4,q]};·rw[if_neg q]) (kid_has hI) (fun y hy=>by rw[Ar.Zr _ hx hy];by_cases q:y=x;·{rw[if_pos q,h3,q];exact List.Sublist.refl _};·rw[if_neg q];exact List.Sublist.refl _)⟩
theorem p5_inertOf {A:Ar}(hI:A.Inv)(hP:P5 A){d:Int}(hd:A.has d):P5 (A.Xq d).2:=⟨kc_inertOf hI hP.kc hd,rows_less hP.row (fun x hx hq=>(Xl2 hI.wf.Xh hx hq).1) (fun x hx=>by rw[(Ar.JS hx).1]) (kid_has hI) (fun x hx=>by rw[(Ar.JS hx).1];exact List.Sublist.refl _)⟩
theorem ofDoc_has' {A:Ar}{d:Int}(h:A.XA d=0):A.has d∧(A.get d).Xa=1:=by
 unfold Ar.XA at h
 by_cases z:A.has d
 ·rw[if_neg (fun q=>q z)]at h;by_cases y:(A.get d).Xa=1;·{exact⟨z,y⟩};·rw[if_pos y]at h;exact absurd h (by decide)
 ·rw[if_pos z]at h;exact absurd h (by decide)
theorem p5_inertCall {A:Ar}(hI:A.Inv)(hP:P5 A)(d:Int):P5 (A.YA d).2:=by
 unfold Ar.YA
 split
 ·exact hP
 ·rename_i q;exact p5_inertOf hI hP (ofDoc_has' (Classical.not_not.1 q)).1
theorem p5_document {A:Ar}(hI:A.Inv)(hP:P5 A)(q:Bool):P5 (A.Xn q):=p5_add hI hP rfl rfl
theorem p5_make {A:Ar}(hI:A.Inv)(hP:P5 A){d:Int}{n:Nd}(h1:n.Xc= [])(h2:n.Xg=0):P5 (A.make d n).2:=by
 unfold Ar.make
 split
 ·exact hP
 ·exact p5_add hI hP h1 h2
theorem p5_element {A:Ar}(hI:A.Inv)(hP:P5 A){d s:Int}{name:ByteArray}{l:List Xm}(hl:l.length≤1000):P5 (A.element d s name l).2:=by
 by_cases he:A.XA d=0
 case neg=>unfold Ar.element;rw[if_pos he];exact hP
 by_cases hs:XS s∧Ys l
 case neg=>unfold Ar.element;rw[if_neg (fun h=>h he),if_pos hs];exact hP
 by_cases ht:XN (XJ d s name l)
 case neg=>rw[XaM he hs ht];exact p5_add hI hP rfl rfl
 have hinv:=Ar.Inv.element hI d s name l hl
 rw[XaN he hs ht]at hinv⊢
 obtain⟨hd,hk⟩:=ofDoc_has' he
 have hx:Ar.XC (A.add (XJ d s name l)) (A.n+1)∨True:= .inr trivial
 have hl1:(A.add (XJ d s name l)).Xh.length=(A.add (XJ d s name l)).ns.length+1:=by simp[Ar.add,hI.wf.Xh]
 have hd1:(A.add (XJ d s name l)).has d:=(Ar.XO _ _ _).2 (.inl hd)
 have k1:A.KI (A.add (XJ d s name l)):=Xci hI.wf.Xh _
 have k2:(A.add (XJ d s name l)).KI ((A.add (XJ d s name l)).Xq d).2:=Xl9 hl1 hd1
 obtain⟨v1,v2⟩:=XbV hd1 hl1
 have hn1:(A.add (XJ d s name l)).has (A.n+1):=(Ar.XO _ _ _).2 (.inr rfl)
 have g1:(A.add (XJ d s name l)).get (A.n+1)=XJ d s name l:=Ar.YS _ _
 have old1:∀x,A.has x→(A.add (XJ d s name l)).has x∧(A.add (XJ d s name l)).get x=A.get x:=fun x hx=>⟨(Ar.XO _ _ _).2 (.inl hx),Ar.Zb _ hx⟩
 have new1:∀x,(A.add (XJ d s name l)).has x→¬A.has x→x=A.n+1:=fun x hx hn=>((Ar.XO _ _ _).1 hx).resolve_left hn
 have old2:∀x,(A.add (XJ d s name l)).has x→((A.add (XJ d s name l)).Xq d).2.has x∧((A.add (XJ d s name l)).Xq d).2.get x=(A.add (XJ d s name l)).get x:=fun x hx=>⟨(Ar.JS hx).2,(Ar.JS hx).1⟩
 have new2:∀x,((A.add (XJ d s name l)).Xq d).2.has x→¬(A.add (XJ d s name l)).has x→Blank (((A.add (XJ d s name l)).Xq d).2.get x):=fun x hx hn=>Xl2 hl1 hx hn
 have hl2:((A.add (XJ d s name l)).Xq d).2.Xh.length=((A.add (XJ d s name l)).Xq d).2.ns.length+1:=by have:=hinv.wf.Xh;simp[Ar.mod,Ar.add]at this;exact this
 have hnk:(XJ d s name l).Xc= []∧(XJ d s name l).doc=d:=⟨rfl,rfl⟩
 generalize XJ d s name l=nd at*
 generalize A.add nd=A1 at*
 rw[v1]at*
 generalize(A1.Xq d).2=A2 at*
 generalize hi:A2.Xu d=i at*
 have hc:(Y7 (A.n+1) i).Xc= []∧(Y7 (A.n+1) i).Xg=0∧(Y7 (A.n+1) i).doc=i:=⟨rfl,rfl,rfl⟩
 generalize Y7 (A.n+1) i=cn at*
 have k3:A2.KI (A2.add cn):=Xci hl2 _
 have i3:(A2.add cn).Xu d=i:=(k3 d (by rw[hi];exact v2)).trans hi
 have hn2:=(old2 _ hn1).1
 have hn3:(A2.add cn).has (A.n+1):=(Ar.XO _ _ _).2 (.inl hn2)
 have hf3:(A2.add cn).has (A2.n+1):=(Ar.XO _ _ _).2 (.inr rfl)
 have g3:(A2.add cn).get (A2.n+1)=cn:=Ar.YS _ _
 have hne:A2.n+1≠A.n+1:=fun e=>by have:=hn2.2;omega
 have get:∀x,(A2.add cn).has x→((A2.add cn).mod (A.n+1) (fun x=>{x with Xg:=A2.n+1})).get x=if x=A.n+1 then{(A2.add cn).get (A.n+1)with Xg:=A2.n+1}else(A2.add cn).get x:=fun x hx=>Ar.Zr _ hn3 hx
 have gA:∀x,A.has x→(A2.add cn).has x∧(A2.add cn).get x=A.get x:=fun x hx=>by have a:=old1 x hx;have b:=old2 x a.1;exact⟨(Ar.XO _ _ _).2 (.inl b.1),by rw[Ar.Zb _ b.1,b.2,a.2]⟩
 have gn:(A2.add cn).get (A.n+1)=nd:=by rw[Ar.Zb _ hn2,(old2 _ hn1).2,g1]
 have hB:∀x,((A2.add cn).mod (A.n+1) (fun x=>{x with Xg:=A2.n+1})).has x→(A2.add cn).has x:=fun x hx=>(Ar.ZU _ _ _ _).1 hx
 have cases':∀x,(A2.add cn).has x→¬A.has x→x=A.n+1∨x=A2.n+1∨Blank ((A2.add cn).get x):=fun x hx hn=>by rcases(Ar.XO _ _ _).1 hx with q|q;·{by_cases z:A1.has x;·{exact .inl (new1 x z hn)};·right;right;rw[Ar.Zb _ q];exact new2 x q z};·exact .inr (.inl q)
 have kiB:A.KI ((A2.add cn).mod (A.n+1) (fun x=>{x with Xg:=A2.n+1})):=((k1.trans k2).trans k3).trans (Xl8 _ _ _)
 have iB:∀z,((A2.add cn).mod (A.n+1) (fun x=>{x with Xg:=A2.n+1})).Xu z=(A2.add cn).Xu z:=fun z=>rfl
 have hne1:∀x,A.has x→x≠A.n+1:=fun x hx e=>by have:=hx.2;omega
 have gB:∀x,A.has x→((A2.add cn).mod (A.n+1) (fun x=>{x with Xg:=A2.n+1})).get x=A.get x:=fun x hx=>by rw[get x (gA x hx).1,if_neg (hne1 x hx),(gA x hx).2]
 have kB:∀x,(A2.add cn).has x→¬A.has x→(((A2.add cn).mod (A.n+1) (fun x=>{x with Xg:=A2.n+1})).get x).Xc= []:=fun x hx hn=>by rw[get x hx];by_cases q:x=A.n+1;·{rw[if_pos q,gn];exact hnk.1};·rw[if_neg q];rcases cases' x hx hn with z|z|z;·{exact absurd z q};·{rw[z,g3];exact hc.1};·exact z.1
 refine⟨⟨fun p hp k hk=>?_,fun p hp hz=>?_⟩,rows_less hP.row (fun x hx hq=>kB x (hB x hx) hq) (fun x hx=>by rw[gB x hx]) (kid_has hI) (fun x hx=>by rw[gB x hx];exact List.Sublist.refl _)⟩
 ·by_cases q:A.has p;·{rw[gB p q]at hk⊢;rw[gB k (XF hI q hk).1];exact hP.kc.kid p q k hk};·rw[kB p (hB p hp) q]at hk;cases hk
 ·by_cases q:A.has p;·{rw[gB p q]at hz⊢;obtain⟨c1,c2⟩:=hP.kc.con p q hz;rw[kiB _ c1,gB _ (ZL hI q hz).1];exact⟨c1,c2⟩};·rw[get p (hB p hp)]at hz⊢;by_cases e:p=A.n+1;·{rw[if_pos e]at hz⊢;show _≠0∧(((A2.add cn).mod (A.n+1) (fun x=>{x with Xg:=A2.n+1})).get (A2.n+1)).doc=_;rw[get _ hf3,if_neg hne,g3,gn];show((A2.add cn).mod (A.n+1) (fun x=>{x with Xg:=A2.n+1})).Xu nd.doc≠0∧cn.doc=_;rw[iB,hnk.2,hc.2.2,i3];exact⟨v2,rfl⟩};·rw[if_neg e]at hz;rcases cases' p (hB p hp) q with z|z|z;·{exact absurd z e};·{rw[z,g3]at hz;exact absurd hc.2.1 hz};·exact absurd z.2.1 hz
end
section
theorem p5_same {A B:Ar}(hI:A.Inv)(hP:P5 A)(hn:∀x,B.has x→A.has x)(hi:B.Xh=A.Xh)(hg:∀x,A.has x→(B.get x).doc=(A.get x).doc∧(B.get x).Xg=(A.get x).Xg∧(B.get x).Xa=(A.get x).Xa∧((B.get x).Xc).Sublist (A.get x).Xc):P5 B:=⟨kc_same hI hP.kc hn hi (fun x hx=>⟨(hg x hx).1,(hg x hx).2.1,fun k hk=>(hg x hx).2.2.2.subset hk⟩),rows_less hP.row (fun x hx q=>absurd (hn x hx) q) (fun x hx=>(hg x hx).2.2.1) (kid_has hI) (fun x hx=>(hg x hx).2.2.2)⟩
theorem jk_sublist {B:Ar}:∀(l:List Int)(f:Int)(d:ByteArray),((jk B f d l).1).Sublist l
 | [],f,d=>by{unfold jk;exact List.Sublist.refl _}
 |k::l,f,d=>by{unfold jk;split;·{exact(jk_sublist l 0 ByteArray.empty).cons_cons k};·split;·{exact(jk_sublist l k (B.get k).data).cons_cons k};·exact(jk_sublist l f (d++(B.get k).data)).cons k}
theorem p5_join {A:Ar}(hI:A.Inv)(hP:P5 A){h:Int}(hh:A.has h):P5 (A.join h):=by
 obtain⟨j1,j2,j3,j4⟩:=Xav hI hh
 refine p5_same hI hP (fun x hx=>by unfold Ar.has Ar.n at hx⊢;rw[j2]at hx;exact hx) j3 (fun x hx=>?_)
 rw[j4 x hx]
 refine⟨rfl,rfl,rfl,?_⟩
 show(if x=h then _ else(A.get x).Xc).Sublist _
 by_cases q:x=h
 ·rw[if_pos q,q];exact jk_sublist _ _ _
 ·rw[if_neg q];exact List.Sublist.refl _
theorem p5_normalize {A:Ar}(hI:A.Inv)(hP:P5 A)(h:Int):P5 (A.normalize h).2:=by
 unfold Ar.normalize
 split
 ·rename_i hh;obtain⟨j1,j2,j3,j4⟩:=Xav hI hh;have hB:(A.join h).has h:=by{unfold Ar.has Ar.n at hh⊢;rw[j2];exact hh};have:=Ze (f:=Ar.join) (l:=(A.join h).below h) (b:=A.join h) (P:=fun B:Ar=>B.n=A.n∧B.Inv∧P5 B) ⟨by unfold Ar.n;rw[j2],j1,p5_join hI hP hh⟩ ?_;·{exact this.2.2};rintro B x hx⟨b0,b1,b2⟩;have hxJ:=(Zt j1 h hB x hx).1;have hxB:B.has x:=by{unfold Ar.has at hxJ⊢;rw[b0];unfold Ar.n at hxJ⊢;rw[j2]at hxJ;exact hxJ};obtain⟨k1,k2,-,-⟩:=Xav b1 hxB;exact⟨by unfold Ar.n at b0⊢;rw[k2];exact b0,k1,p5_join b1 b2 hxB⟩
 ·exact hP
theorem p5_setData {A:Ar}(hI:A.Inv)(hP:P5 A)(h:Int)(s:ByteArray):P5 (A.XG h s).2:=by
 unfold Ar.XG
 split
 ·exact hP
 ·rename_i q;split;·{exact hP};·exact p5_mod hI hP (Classical.not_not.1 q) (fun _=>rfl) (fun _=>rfl) (fun _=>rfl) (fun _=>rfl)
theorem p5_setAttrs {A:Ar}(hI:A.Inv)(hP:P5 A)(h:Int)(l:List Xm):P5 (A.X0 h l).2:=by
 unfold Ar.X0
 split
 ·exact hP
 ·rename_i q;split;·{exact hP};·split;·{exact hP};·exact p5_mod hI hP (Classical.not_not.1 q) (fun _=>rfl) (fun _=>rfl) (fun _=>rfl) (fun _=>rfl)
theorem p5_setAttr {A:Ar}(hI:A.Inv)(hP:P5 A)(el s:Int)(name val:ByteArray):P5 (A.YO el s name val).2:=by
 unfold Ar.YO
 split
 ·exact hP
 ·split;·{exact hP};·exact p5_setAttrs hI hP _ _
theorem p5_removeAttr {A:Ar}(hI:A.Inv)(hP:P5 A)(el s:Int)(name:ByteArray):P5 (A.Yy el s name).2:=by
 unfold Ar.Yy
 split
 ·exact hP
 ·split;·{exact hP};·exact p5_setAttrs hI hP _ _
theorem p5_createElement {A:Ar}(hI:A.Inv)(hP:P5 A)(d:Int)(name:ByteArray):P5 (A.Y0 d name).2:=by
 unfold Ar.Y0
 split
 ·exact hP
 ·split;·{exact hP};·exact p5_element hI hP (by simp)
theorem p5_put {A:Ar}(hI:A.Inv)(hP:P5 A){p x c:Int}(hd:(A.get x).doc=(A.get p).doc)(hk:(A.get p).Xa≠1)(hx3:(A.get x).Xa≠3):P5 (A.put p x c).2:=by
 refine⟨kc_put hI hP.kc (fun _ _=>hd),?_⟩
 by_cases q:A.allowed p x c (A.contains x p)≠0
 ·have e:(A.put p x c).2=A:=by{unfold Ar.put;rw[if_pos q]};rw[e];exact hP.row
 ·have e:(A.put p x c).2=A.place p x c:=by{unfold Ar.put;rw[if_neg q]};obtain⟨h1,h2,h3,h4,h5,h6⟩:=Xem (Classical.not_not.1 q);have hne:p≠x:=fun e=>by{subst e;have:A.contains p p=true:=by{simp[Ar.contains,h1,Xcx (hI.wf.Zs h1) h1]};rw[this]at h6;exact absurd h6 (by simp)};have hn:(A.place p x c).n=A.n:=Ar.XaI A p x c;rw[e];have hg:∀y,A.has y→((A.place p x c).get y).Xa=(A.get y).Xa∧((A.place p x c).get y).Xc=if y=p then YK (XQ (A.get y).Xc x) x c else XQ (A.get y).Xc x:=fun y hy=>by{rw[Ar.Xcy h1 h2 hy hne,XdB hI h2 hy];exact⟨rfl,rfl⟩};intro y hy;have hyA:A.has y:=by{unfold Ar.has at hy⊢;rw[hn]at hy;exact hy};obtain⟨g1,g2⟩:=hg y hyA;by_cases z:y=p;·{subst z;refine⟨fun k=>absurd (g1.symm.trans k) hk,fun _ u=>?_⟩;obtain⟨k,k1,k2⟩:=List.mem_map.1 u;rw[g2,if_pos rfl]at k1;rcases putIn_mem k1 with r|r;·{rw[r,(hg x h2).1]at k2;exact hx3 k2};·have r':=(XiF.1 r).1;rw[(hg k (XF hI hyA r').1).1]at k2;exact(hP.row y hyA).2 hk (List.mem_map.2 ⟨k,r',k2⟩)};·have hsub:(((A.place p x c).get y).Xc).Sublist (A.get y).Xc:=by{rw[g2,if_neg z];exact List.filter_sublist};exact row_sub g1 (kinds_sub (fun k hkk=>(hg k (XF hI hyA (hsub.subset hkk)).1).1) hsub) (hP.row y hyA)
theorem p5_setText {A:Ar}(hI:A.Inv)(hP:P5 A)(h:Int)(s:ByteArray):P5 (A.YE h s).2:=by
 unfold Ar.YE
 split
 ·exact hP
 ·rename_i hh;have hh:=Classical.not_not.1 hh;split;·{exact p5_setData hI hP h s};·split;·{rename_i hk;obtain⟨e1,e2⟩:=p5_empty hI hP hh;obtain⟨-,n2,n3,n4⟩:=Xcg hI hh;split;·{exact e2};·have hhE:(A.empty h).has h:=by{unfold Ar.has;rw[n2];exact hh};obtain⟨d1,d2⟩:=e1.ZV h hhE;have hkE:((A.empty h).get h).Xa=4∨((A.empty h).get h).Xa=2:=by{rw[(n4 h hh).1];exact hk};have hm:=Xb7 (A:=A.empty h) (d:=((A.empty h).get h).doc) (Xs s) (J6 d1 d2);have hI2:((A.empty h).make ((A.empty h).get h).doc (Xs s)).2.Inv:=e1.make rfl rfl rfl rfl (JX _) (by simp[Xs]) (by simp[Xs]);have hP2:P5 ((A.empty h).make ((A.empty h).get h).doc (Xs s)).2:=p5_make e1 e2 rfl rfl;rw[hm]at hI2 hP2⊢;dsimp only at hI2 hP2⊢;refine p5_put hI2 hP2 ?_ ?_ ?_;·{rw[Ar.YS,Ar.Zb _ hhE]};·{rw[Ar.Zb _ hhE];omega};·rw[Ar.YS];show(5:Int)≠3;decide};·exact hP
theorem p5_split {A:Ar}(hI:A.Inv)(hP:P5 A)(h at':Int):P5 (A.split h at').2:=by
 unfold Ar.split
 split
 ·exact hP
 ·rename_i hh;have hh:=Classical.not_not.1 hh;split;·{exact hP};·rename_i hk;have hk:=Classical.not_not.1 hk;split;·{exact hP};·obtain⟨d1,d2⟩:=hI.ZV h hh;dsimp only;have hm:=Xb7 (A:=A) (d:=(A.get h).doc) (Xs ⟨((A.get h).data.toList.drop at'.toNat).toArray⟩) (J6 d1 d2);have hI2:(A.make (A.get h).doc (Xs ⟨((A.get h).data.toList.drop at'.toNat).toArray⟩)).2.Inv:=hI.make rfl rfl rfl rfl (JX _) (by simp[Xs]) (by simp[Xs]);have hP2:P5 (A.make (A.get h).doc (Xs ⟨((A.get h).data.toList.drop at'.toNat).toArray⟩)).2:=p5_make hI hP rfl rfl;have hnew:∀n:Nd,∀x,A.has x→(A.add n).has x∧(A.add n).get x=A.get x:=fun n x hx=>⟨(Ar.XO _ _ _).2 (.inl hx),Ar.Zb _ hx⟩;rw[hm]at hI2 hP2⊢;dsimp only at hI2 hP2⊢;have gn:(A.add {Xs ⟨((A.get h).data.toList.drop at'.toNat).toArray⟩with doc:=(A.get h).doc}).get (A.n+1)={Xs ⟨((A.get h).data.toList.drop at'.toNat).toArray⟩with doc:=(A.get h).doc}:=Ar.YS _ _;have hn1:(A.add {Xs ⟨((A.get h).data.toList.drop at'.toNat).toArray⟩with doc:=(A.get h).doc}).has (A.n+1):=(Ar.XO _ _ _).2 (.inr rfl);have old:=hnew {Xs ⟨((A.get h).data.toList.drop at'.toNat).toArray⟩with doc:=(A.get h).doc};have hnd:({Xs ⟨((A.get h).data.toList.drop at'.toNat).toArray⟩with doc:=(A.get h).doc}:Nd).Xa=5∧({Xs ⟨((A.get h).data.toList.drop at'.toNat).toArray⟩with doc:=(A.get h).doc}:Nd).doc=(A.get h).doc:=⟨rfl,rfl⟩;generalize({Xs ⟨((A.get h).data.toList.drop at'.toNat).toArray⟩with doc:=(A.get h).doc}:Nd)=nd at*;generalize A.add nd=F at*;generalize(⟨((A.get h).data.toList.take at'.toNat).toArray⟩:ByteArray)=s at*;have hI3:(F.XG h s).2.Inv:=Ar.Inv.XG hI2 h s;have hP3:=p5_setData hI2 hP2 h s;have hh2:=(old h hh).1;have hk2:(F.get h).Xa=5:=by{rw[(old h hh).2];exact hk};have g3:∀x,F.has x→((F.XG h s).2.get x).doc=(F.get x).doc∧((F.XG h s).2.get x).Xa=(F.get x).Xa:=fun x hx=>by{rw[Xe1 hh2 hk2 hx];exact⟨rfl,rfl⟩};split;·{rename_i hp;obtain⟨l1,l2,-⟩:=hI.wf.link h hh hp;have hp2:=(old _ l1).1;refine p5_put hI3 hP3 ?_ ?_ ?_;·{rw[(g3 _ hn1).1,(g3 _ hp2).1,gn,(old _ l1).2,hnd.2];exact hP.kc.kid _ l1 h l2};·{rw[(g3 _ hp2).2,(old _ l1).2];intro e;exact((hP.row _ l1).1 e).1 (List.mem_map.2 ⟨h,l2,hk⟩)};·rw[(g3 _ hn1).2,gn,hnd.1];decide};·exact hP3
end
section
theorem p5_alone {A C:Ar}(hI:A.Inv)(hP:P5 A)(hC:C.Inv){d h:Int}(hh:C.has h):P5 (A.Xj d (C.get h)).2:=by
 unfold Ar.Xj
 split
 ·exact p5_document hI hP _
 ·split;·{exact p5_make hI hP rfl rfl};·split;·{exact p5_make hI hP rfl rfl};·split;·{exact p5_element hI hP (hC.loc h hh).at3};·split;·{exact p5_make hI hP rfl rfl};·split;·{exact p5_make hI hP rfl rfl};·exact hP
theorem p5_copies {C:Ar}{rec:Ar→Int→Int×Ar}{d c:Int}:∀(ks:List Int){B:Ar},(∀(B':Ar)k,k∈ks→B'.Inv→P5 B'→B'.has d→(B'.get d).Xa=1→P5 (rec B' k).2∧Xa0 C B' (rec B' k).2 k d (rec B' k).1)→B.Inv→P5 B→B.has d→(B.get d).Xa=1→B.has c→(B.get c).doc=d→((B.get c).Xa=1∨(B.get c).Xa=2∨(B.get c).Xa=4)→(∀k∈ks,(C.get k).Xa≠1∧(C.get k).Xa≠2)→((B.get c).Xa≠1→∀k∈ks,(C.get k).Xa≠3)→((B.get c).Xa=1→RowOK (B.XbY c++ks.map (fun k=>(C.get k).Xa)))→(ks.foldl (XP rec c) B).Inv∧P5 (ks.foldl (XP rec c) B)∧∀x,B.has x→(ks.foldl (XP rec c) B).has x∧((ks.foldl (XP rec c) B).get x).Xa=(B.get x).Xa∧((ks.foldl (XP rec c) B).get x).doc=(B.get x).doc∧(x≠c→((ks.foldl (XP rec c) B).get x).Xc=(B.get x).Xc)
 | [],B,hr,hI,hP,hd,hdk,hc,hcd,hck,hk12,hk3,hrow=>⟨hI,hP,fun x hx=>⟨hx,rfl,rfl,fun _=>rfl⟩⟩
 |k::ks,B,hr,hI,hP,hd,hdk,hc,hcd,hck,hk12,hk3,hrow=>by{obtain⟨p1,R⟩:=hr B k (by simp) hI hP hd hdk;obtain⟨k1,k2⟩:=hk12 k (by simp);rw[List.foldl_cons];have hst:XP rec c B k=((rec B k).2.put c (rec B k).1 0).2:=rfl;rw[hst];have hkind:((rec B k).2.get (rec B k).1).Xa=(C.get k).Xa:=R.alk.inv.2.2.1.1.symm;have hydoc:=R.doc;have hyhas:=R.has;have hypar:=R.Xd;have hI1:=R.inv;have hold:=R.old;have hge:=R.ge;generalize(rec B k).1=y at*;generalize(rec B k).2=B1 at*;obtain⟨c1,c2⟩:=hold c hc;have hcy:c∉B1.Xi y:=fun q=>by{have:=hge c q;have:=hc.2;omega};have hne:c≠y:=fun e=>hcy (by rw[e];exact XfH hI1 hyhas);obtain⟨f1,f2⟩:=Xl3 hI1 c1 hyhas (by rw[c2];exact hck) (by rw[hkind];exact⟨k1,k2⟩) hypar hcy;have hkc:KC (B1.put c y 0).2:=kc_put hI1 p1.kc (fun _ _=>by rw[hydoc,c2,hcd]);have hlen:(B1.put c y 0).2.ns.length=B1.ns.length:=(JO B1 c y 0).2;generalize(B1.put c y 0).2=B2 at*;have hb:∀x,B2.has x→B1.has x:=fun x hx=>by{unfold Ar.has Ar.n at hx⊢;rw[hlen]at hx;exact hx};have g2:∀x,B1.has x→(B2.get x).Xa=(B1.get x).Xa∧(B2.get x).doc=(B1.get x).doc∧(x≠c→(B2.get x).Xc=(B1.get x).Xc):=fun x hx=>by{rw[(f2 x hx).2];exact⟨rfl,rfl,fun q=>by show(if x=c then _ else(B1.get x).Xc)=_;rw[if_neg q]⟩};have gc:(B2.get c).Xc=(B.get c).Xc++ [y]:=by{rw[(f2 c c1).2];show(if c=c then(B1.get c).Xc++ [y]else _)=_;rw[if_pos rfl,c2]};have hbk:∀z∈(B.get c).Xc,B.has z:=fun z hz=>(XF hI hc hz).1;have ekc:B2.XbY c=B.XbY c++ [(C.get k).Xa]:=by{unfold Ar.XbY;rw[gc,List.map_append];congr 1;·{refine List.map_congr_left (fun z hz=>?_);obtain⟨z1,z2⟩:=hold z (hbk z hz);rw[(g2 z z1).1,z2]};·simp only[List.map_cons,List.map_nil];rw[(g2 y hyhas).1,hkind]};have hP2:P5 B2:=by{refine⟨hkc,fun x hx=>?_⟩;have hx1:=hb x hx;by_cases q:x=c;·{subst q;have hk':(B2.get x).Xa=(B.get x).Xa:=by{rw[(g2 x hx1).1,c2]};refine⟨fun e=>?_,fun e=>?_⟩;·{rw[ekc];refine(hrow (by rw[←hk'];exact e)).sub ?_;rw[List.map_cons];exact List.Sublist.append (List.Sublist.refl _) ((List.nil_sublist _).cons_cons _)};·rw[ekc,List.mem_append,not_or];refine⟨(hP.row x hc).2 (by rw[←hk'];exact e),?_⟩;simp;exact fun z=>hk3 (by rw[←hk'];exact e) k (by simp) z.symm};·have ek:B2.XbY x=B1.XbY x:=by{unfold Ar.XbY;rw[(g2 x hx1).2.2 q];exact List.map_congr_left (fun z hz=>(g2 z (XF hI1 hx1 hz).1).1)};have:=p1.row x hx1;unfold Ar.rowP at this⊢;rw[ek,(g2 x hx1).1];exact this};obtain⟨d1,d2⟩:=hold d hd;have r:=p5_copies (C:=C) (rec:=rec) (d:=d) (c:=c) ks (B:=B2) (fun B' k' hk'=>hr B' k' (by simp[hk'])) f1 hP2 (f2 d d1).1 (by rw[(g2 d d1).1,d2];exact hdk) (f2 c c1).1 (by rw[(g2 c c1).2.1,c2];exact hcd) (by rw[(g2 c c1).1,c2];exact hck) (fun k' hk'=>hk12 k' (by simp[hk'])) (fun e k' hk'=>hk3 (by rw[(g2 c c1).1,c2]at e;exact e) k' (by simp[hk'])) (fun e=>by rw[ekc];have:=hrow (by rw[(g2 c c1).1,c2]at e;exact e);rw[List.map_cons]at this;simpa using this);refine⟨r.1,r.2.1,fun x hx=>?_⟩;obtain⟨x1,x2⟩:=hold x hx;obtain⟨r1,r2,r3,r4⟩:=r.2.2 x (f2 x x1).1;exact⟨r1,by rw[r2,(g2 x x1).1,x2],by rw[r3,(g2 x x1).2.1,x2],fun q=>by rw[r4 q,(g2 x x1).2.2 q,x2]⟩}
theorem p5_dupF {C:Ar}(hC:C.Inv)(hPC:P5 C):∀(m:Nat)(deep:Bool){A:Ar}{d h:Int},A.Inv→P5 A→A.has d→(A.get d).Xa=1→C.has h→(C.Xi h).length≤m→P5 (dupF C deep m A d h).2
 |0,deep,A,d,h,hI,hP,hd,hk,hh,hw=>by{have:=YL hC hh;omega}
 |m+1,deep,A,d,h,hI,hP,hd,hk,hh,hw=>by{rw[Y8];dsimp only;have hPa:=p5_alone (d:=d) hI hP hC hh;have hwe:=Ym hC hh;have hkid:∀k∈(C.get h).Xc,C.has k∧(C.get k).Xa≠1∧(C.get k).Xa≠2∧(C.Xi k).length≤m:=fun k hkk=>by{obtain⟨q1,q2,q3⟩:=XF hC hh hkk;have:=hC.par k q1 (by rw[q3];exact Xa6 hh);refine⟨q1,this.1,this.2,?_⟩;obtain⟨s,t,e⟩:=List.append_of_mem hkk;rw[hwe,e]at hw;simp at hw;omega};have rec':∀dd(B':Ar)k,k∈(C.get h).Xc→B'.Inv→P5 B'→B'.has dd→(B'.get dd).Xa=1→P5 (dupF C true m B' dd k).2∧Xa0 C B' (dupF C true m B' dd k).2 k dd (dupF C true m B' dd k).1:=fun dd B' k hkk b1 b2 b3 b4=>by{obtain⟨q1,q2,q3,q4⟩:=hkid k hkk;exact⟨p5_dupF hC hPC m true b1 b2 b3 b4 q1 q4,Xaw hC m b1 b3 b4 q1 q2 q4⟩};have hkidk:=hC.ZB h hh;by_cases h1:(C.get h).Xa=1;·{have hmid:XH C deep m (A.Xj d (C.get h)) d h=(A.Xj d (C.get h)).2:=by{unfold XH;rw[if_neg (fun q=>by rw[h1]at q;exact absurd q.1 (by decide))]};have ha:A.Xj d (C.get h)=(A.n+1,A.Xn (C.get h).XI):=by{unfold Ar.Xj;rw[if_pos h1]};have hPa:P5 (A.Xn (C.get h).XI):=by{rw[ha]at hPa;exact hPa};rw[hmid,ha];rw[if_pos h1];dsimp only;cases deep with|false=>{exact hPa}|true=>rw[if_pos rfl];have gD:(A.Xn (C.get h).XI).get (A.n+1)={XL with Xa:=1,XI:=(C.get h).XI,doc:=A.n+1}:=Ar.YS _ _;have hD:(A.Xn (C.get h).XI).has (A.n+1):=(Ar.XO _ _ _).2 (.inr rfl);have hkD:((A.Xn (C.get h).XI).get (A.n+1)).Xa=1:=by{rw[gD]};have hdD:((A.Xn (C.get h).XI).get (A.n+1)).doc=A.n+1:=by{rw[gD]};have hrD:(A.Xn (C.get h).XI).XbY (A.n+1)= []:=by{unfold Ar.XbY;rw[gD];rfl};refine(p5_copies (C:=C) (C.get h).Xc (rec' (A.n+1)) (Ar.XC.Xn hI _) hPa hD hkD hD hdD (.inl hkD) (fun k hkk=>⟨(hkid k hkk).2.1,(hkid k hkk).2.2.1⟩) (fun e=>absurd hkD e) (fun _=>?_)).2.1;rw[hrD,List.nil_append];exact(hPC.row h hh).1 h1};·rw[if_neg h1];obtain⟨a1,-,a3⟩:=Xbs hI hC hd hk hh h1;obtain⟨n1,n2,n3⟩:=Xbu hI hC hd hk hh h1;have hn2k:((A.Xj d (C.get h)).2.get (A.n+1)).Xa=(C.get h).Xa:=n2.Xcc.1.symm;have hdr:=(n2.old d hd).1;have hkr:((A.Xj d (C.get h)).2.get d).Xa=1:=by{rw[(n2.old d hd).2];exact hk};rw[n1];have mid:(XH C deep m (A.Xj d (C.get h)) d h).Inv∧P5 (XH C deep m (A.Xj d (C.get h)) d h)∧∀x,(A.Xj d (C.get h)).2.has x→(XH C deep m (A.Xj d (C.get h)) d h).has x∧((XH C deep m (A.Xj d (C.get h)) d h).get x).Xa=((A.Xj d (C.get h)).2.get x).Xa∧((XH C deep m (A.Xj d (C.get h)) d h).get x).doc=((A.Xj d (C.get h)).2.get x).doc∧(x=A.n+1→((XH C deep m (A.Xj d (C.get h)) d h).get x).Xc=((A.Xj d (C.get h)).2.get x).Xc):=by{unfold XH;by_cases hq:(C.get h).Xa=4∧deep=true∧(C.get h).Xg≠0;(case neg=>rw[if_neg hq];exact⟨a1.inv,hPa,fun x hx=>⟨hx,rfl,rfl,fun _=>rfl⟩⟩);rw[if_pos hq];obtain⟨h4,hdp,hcont⟩:=hq;have n3:=n3.resolve_left (fun q=>hcont q.1);obtain⟨-,cc,e1,e2,e3,-,e4,e5,e6,-⟩:=n3;have ht:XN (C.get h):=Classical.not_not.1 (fun hn=>hcont (hC.YG h hh (.inr hn)));have hia:=a3 ht;rw[n1,e1];have hn0:0≤A.n:=by{unfold Ar.n;omega};have hcon:=hPa.kc.con (A.n+1) n2.has (by rw[e1];omega);rw[n2.doc,e1]at hcon;rw[Xb8 (J6 hdr hkr) hia];obtain⟨i1,i2,i3,i4⟩:=Ar.XC.Xh a1.inv d hia;dsimp only;obtain⟨cA,cU,cP⟩:=ZL hC hh hcont;have hckid:∀k∈(C.get (C.get h).Xg).Xc,C.has k∧(C.get k).Xa≠1∧(C.get k).Xa≠2∧(C.Xi k).length≤m:=fun k hkk=>by{obtain⟨q1,q2,q3⟩:=XF hC cA hkk;have:=hC.par k q1 (by rw[q3];exact Xa6 cA);refine⟨q1,this.1,this.2,?_⟩;have l1:=walk_le hC _ cA k (walk_kid hC cA hkk);have l2:=XcR hC hh hcont;omega};have hc2:=(hC.cont h hh (by have:=hh.1;omega) ht).2.1;have r:=p5_copies (C:=C) (rec:=fun B k=>dupF C true m B ((A.Xj d (C.get h)).2.Xu d) k) (d:=(A.Xj d (C.get h)).2.Xu d) (c:=cc) (C.get (C.get h).Xg).Xc (B:=(A.Xj d (C.get h)).2) (fun B' k hkk b1 b2 b3 b4=>by obtain⟨q1,q2,q3,q4⟩:=hckid k hkk;exact⟨p5_dupF hC hPC m true b1 b2 b3 b4 q1 q4,Xaw hC m b1 b3 b4 q1 q2 q4⟩) a1.inv hPa i2 i3 e3 hcon.2 (.inr (.inl e6)) (fun k hkk=>⟨(hckid k hkk).2.1,(hckid k hkk).2.2.1⟩) (fun _ k hkk e=>(hPC.row _ cA).2 (by rw[hc2];decide) (List.mem_map.2 ⟨k,hkk,e⟩)) (fun e=>absurd e (by rw[e6];decide));refine⟨r.1,r.2.1,fun x hx=>?_⟩;obtain⟨r1,r2,r3,r4⟩:=r.2.2 x hx;exact⟨r1,r2,r3,fun q=>r4 (fun z=>by omega)⟩};obtain⟨m1,m2,m3⟩:=mid;generalize XH C deep m (A.Xj d (C.get h)) d h=M at*;cases deep with|false=>{exact m2}|true=>rw[if_pos rfl];obtain⟨c1,c2,c3,-⟩:=m3 _ n2.has;obtain⟨d1,d2,d3,-⟩:=m3 d hdr;by_cases hks:(C.get h).Xc= [];·{rw[hks];exact m2};refine(p5_copies (C:=C) (C.get h).Xc (rec' d) m1 m2 d1 (by rw[d2];exact hkr) c1 (by rw[c3];exact n2.doc) (by rw[c2,hn2k];exact hkidk hks) (fun k hkk=>⟨(hkid k hkk).2.1,(hkid k hkk).2.2.1⟩) (fun _ k hkk e=>?_) (fun e=>?_)).2.1;·{exact(hPC.row h hh).2 h1 (List.mem_map.2 ⟨k,hkk,e⟩)};·rw[c2,hn2k]at e;exact absurd e h1}
theorem p5_clone {A:Ar}(hI:A.Inv)(hP:P5 A)(h:Int)(deep:Bool):P5 (A.Zx h deep).2:=by
 unfold Ar.Zx
 split
 ·rename_i hh;obtain⟨d1,d2⟩:=hI.ZV h hh;exact p5_dupF hI hP _ deep hI hP d1 d2 hh (Z3 hI h)
 ·exact hP
theorem p5_import {A:Ar}(hI:A.Inv)(hP:P5 A)(d h:Int):P5 (A.Zp A d h).2:=by
 unfold Ar.Zp
 split
 ·rename_i q;split;·{exact hP};·rename_i z;exact p5_dupF hI hP _ true hI hP q.1 (Classical.not_not.1 (fun e=>z (.inl e))) q.2 (Z3 hI h)
 ·exact hP
end
end Go.Proofs.YtpicinjcmjaogaaGreatDoor
