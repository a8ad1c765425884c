import Derived.Test.YtpicinjcmjaogaaGreatDoorW33
set_option maxRecDepth 100000
set_option maxHeartbeats 4000000
set_option linter.unusedVariables false
namespace Go.Proofs.YtpicinjcmjaogaaGreatDoor
section
structure KC (A : Ar) : Prop where
  kid : ∀ p, A.has p → ∀ k ∈ (A.get p).Xc, (A.get k).doc = (A.get p).doc
  con : ∀ h, A.has h → (A.get h).Xg ≠ 0 → A.Xu (A.get h).doc ≠ 0 ∧ (A.get (A.get h).Xg).doc = A.Xu (A.get h).doc
theorem KC.sub {A:Ar}(h:KC A)(hI:A.Inv){x:Int}(hx:A.has x):SubC A x:=fun y hy=>⟨h.kid y (walk_has hI hx hy),h.con y (walk_has hI hx hy)⟩
/-- What adoption leaves of the documents of a root's tree. -/
structure AdoptR (C B : Ar) (h d : Int) : Prop where
  inv : B.Inv
  tree : C.Tree B
  ki : C.KI B
  doc : ∀ x, C.has x → (B.get x).doc = if x = h ∨ x ∈ C.below h then d else if x ∈ C.Xi h then B.Xu d else (C.get x).doc
  ia : (∃ y, (y = h ∨ y ∈ C.below h) ∧ (C.get y).Xg ≠ 0) → B.Xu d ≠ 0
  new : ∀ x, B.has x → ¬ C.has x → Blank (B.get x)
theorem adoptF_docs {n:Nat}{A:Ar}{h d:Int}(hI:A.Inv)(hh:A.has h)(hp:(A.get h).Xd=0)(hkh:(A.get h).Xa≠1)(hd:A.has d)(hk:(A.get d).Xa=1)(hS:SubC A h)(hw:(A.Xi h).length≤n+1)(hdd:(A.get h).doc≠d):AdoptR A (adoptF (n+1) A h d) h d:=by
 unfold adoptF
 rw[J1 hp,if_neg hdd]
 have hpl:∀y,(y=h∨y∈A.below h)→A.has y∧(A.get y).Xa≠1∧(A.Xi y).length≤n+1:=by rintro y(rfl|hy);·{exact⟨hh,hkh,hw⟩};·obtain⟨b1,b2,b3,b4⟩:=Zt hI h hh y hy;exact⟨b1,(hI.par y b1 b4).1,by omega⟩
 have key:∀(l1 l2:List Int),h::A.below h=l1++l2→(l1.foldl (Yf (adoptF n) d) A).Inv∧A.Tree (l1.foldl (Yf (adoptF n) d) A)∧A.KI (l1.foldl (Yf (adoptF n) d) A)∧((∃y∈l1,(A.get y).Xg≠0)→(l1.foldl (Yf (adoptF n) d) A).Xu d≠0)∧(∀x,A.has x→((l1.foldl (Yf (adoptF n) d) A).get x).doc=if x∈l1 then d else if(∃y∈l1,(A.get y).Xg≠0∧x∈A.Xi (A.get y).Xg)then(l1.foldl (Yf (adoptF n) d) A).Xu d else(A.get x).doc)∧∀x,(l1.foldl (Yf (adoptF n) d) A).has x→¬A.has x→Blank ((l1.foldl (Yf (adoptF n) d) A).get x):=by intro l1;induction l1 using snoc_ind with|nil=>{intro l2 e;exact⟨hI,Ar.Tree.refl A,Ar.KI.refl A,fun⟨y,hy,_⟩=>absurd hy (by simp),fun x hx=>by rw[if_neg (by simp),if_neg (by rintro⟨y,hy,_⟩;cases hy)];rfl,fun x hx hn=>absurd hx hn⟩}|snoc l1 y ih=>intro l2 e;obtain⟨b1,b2,b3,b4,b5,b6⟩:=ih (y::l2) (by rw[e];simp);rw[List.foldl_append];simp only[List.foldl_cons,List.foldl_nil];have hym:y=h∨y∈A.below h:=List.mem_cons.1 (by rw[e];simp);obtain⟨y1,y2,y3⟩:=hpl y hym;generalize l1.foldl (Yf (adoptF n) d) A=B at*;have hyB:=b2.has y1;have hdB:=b2.has hd;have hkB:(B.get d).Xa=1:=(b2.Xa hd).trans hk;have hyk:(B.get y).Xa≠1:=by{rw[b2.Xa y1];exact y2};obtain⟨s1,s2⟩:=Xbj B y d;have hI1:=Ar.Inv.Xt b1 y d;have t1:=b2.trans (Ar.Xam B y d);have hdoc1:∀x,B.has x→((B.Xt y d).2.get x).doc=if x=y then d else(B.get x).doc:=fun x hx=>setDoc_doc hyB hdB hyk hkB hx;have hget1:∀x,B.has x→∃e,(B.Xt y d).2.get x={B.get x with doc:=e}:=(Ar.Xam B y d).get;have hcy:=t1.Xg y1;have hi1:∀z,(B.Xt y d).2.Xu z=B.Xu z:=fun z=>by{unfold Ar.Xu;rw[s1]};have hk1:((B.Xt y d).2.get d).Xa=1:=(t1.Xa hd).trans hk;have hd1:=t1.has hd;have hnew1:∀x,(B.Xt y d).2.has x→¬A.has x→Blank ((B.Xt y d).2.get x):=fun x hx hn=>by{have hxB:B.has x:=by{unfold Ar.has Ar.n at hx⊢;rw[s2]at hx;exact hx};obtain⟨e,he⟩:=hget1 x hxB;rw[he];exact b6 x hxB hn};unfold Yf;generalize(B.Xt y d).2=B1 at*;by_cases hz:(B1.get y).Xg=0;·{rw[if_pos hz];have hz':(A.get y).Xg=0:=by{rw[←hcy];exact hz};refine⟨hI1,t1,fun x hx=>(hi1 x).trans (b3 x hx),?_,fun x hx=>?_,hnew1⟩;·{rintro⟨z,z1,z2⟩;rw[hi1];rcases List.mem_append.1 z1 with q|q;·{exact b4 ⟨z,q,z2⟩};·simp at q;subst q;exact absurd hz' z2};·rw[hdoc1 x (b2.has hx),b5 x hx,hi1];by_cases e1:x=y;·{rw[if_pos e1,if_pos (by simp[e1])]};·rw[if_neg e1];refine if_congr (by simp[e1]) rfl (if_congr ⟨?_,?_⟩ rfl rfl);·{rintro⟨z,hz1,hz2⟩;exact⟨z,by simp[hz1],hz2⟩};·rintro⟨z,hz1,hz2⟩;rcases List.mem_append.1 hz1 with q|q;·{exact⟨z,q,hz2⟩};·simp at q;subst q;exact absurd hz' hz2.1};·rw[if_neg hz];rw[hcy]at hz⊢;obtain⟨c1,c2,c3⟩:=ZL hI y1 hz;have hI2:=Ar.XC.Xq hI1 hd1;have t2:=t1.trans (Ar.Xal B1 d);obtain⟨v1,v2⟩:=XbV hd1 hI1.wf.Xh;obtain⟨w1,w2⟩:=Ar.XC.Xbb hI1 hd1;have hki2:B1.KI (B1.Xq d).2:=Xl9 hI1.wf.Xh hd1;have hii:=(Ar.XC.Xh hI2 d v2).2.2.2;have hdoc2:∀x,B1.has x→(B1.Xq d).2.get x=B1.get x:=fun x hx=>(Ar.JS hx).1;have hnew2:∀x,(B1.Xq d).2.has x→¬A.has x→Blank ((B1.Xq d).2.get x):=fun x hx hn=>by{by_cases q:B1.has x;·{rw[hdoc2 x q];exact hnew1 x q hn};·exact Xl2 hI1.wf.Xh hx q};have e1:(B1.Xq d).1=(B1.Xq d).2.Xu d:=v1;rw[e1]at w1 w2⊢;have hAi:A.Xu d≠0→(B1.Xq d).2.Xu d=A.Xu d:=fun q=>by{have h1:=b3 d q;have h2:B1.Xu d=A.Xu d:=(hi1 d).trans h1;exact(hki2 d (by rw[h2];exact q)).trans h2};have hBi:∀z,(∃y∈l1,(A.get y).Xg≠0∧z∈A.Xi (A.get y).Xg)→B.Xu d=(B1.Xq d).2.Xu d:=fun z⟨y',a1,a2,_⟩=>by{have:=b4 ⟨y',a1,a2⟩;rw[hki2 d (by rw[hi1];exact this),hi1]};have hdocs:∀x,A.has x→((B1.Xq d).2.get x).doc=if x=y∨x∈l1 then d else if(∃y∈l1,(A.get y).Xg≠0∧x∈A.Xi (A.get y).Xg)then(B1.Xq d).2.Xu d else(A.get x).doc:=fun x hx=>by{rw[hdoc2 x (t1.has hx),hdoc1 x (b2.has hx),b5 x hx];by_cases q:x=y;·{rw[if_pos q,if_pos (.inl q)]};·rw[if_neg q];refine if_congr (by simp[q]) rfl ?_;split;·{rename_i z;exact hBi x z};·rfl};generalize hi:(B1.Xq d).2.Xu d=i at*;generalize(B1.Xq d).2=B2 at*;have cw:=t2.Xi hI hI2 _ c1;have hlen:=XcR hI y1 hz;have ck:(B2.get (A.get y).Xg).Xa≠1:=by{have hcy2:=t2.Xg y1;have hc2:=hI2.cont y (t2.has y1) (by have:=y1.1;omega) (Classical.not_not.1 (fun hn=>(by rw[hcy2];exact hz:(B2.get y).Xg≠0) (hI2.YG y (t2.has y1) (.inr hn))));rw[hcy2]at hc2;rw[hc2.2.1];decide};have cm:∀u,u∈A.Xi (A.get y).Xg→¬(u=y∨u∈l1):=by{rintro u hu(q|q);·{exact contents_off hI hh hym hz hym (q▸hu)};·exact contents_off hI hh hym hz (List.mem_cons.1 (by rw[e];simp[q])) hu};have cA:A.has (A.get y).Xg:=c1;have hDC:DC B2 (A.get y).Xg i:=by{intro u hu hud z hzz;rw[cw]at hu;have huA:=walk_has hI c1 hu;rw[t2.Xi hI hI2 u huA]at hzz;have hzc:=XiL hI c1 hu hzz;have hzA:=walk_has hI c1 hzc;rw[hdocs u huA,if_neg (cm u hu)]at hud;rw[hdocs z hzA,if_neg (cm z hzc)];by_cases q:∃y∈l1,(A.get y).Xg≠0∧u∈A.Xi (A.get y).Xg;·{obtain⟨v,a1,a2,a3⟩:=q;have hvm:v=h∨v∈A.below h:=List.mem_cons.1 (by rw[e];simp[a1]);rw[if_pos ⟨v,a1,a2,XiL hI (ZL hI (hpl v hvm).1 a2).1 a3 hzz⟩]};·rw[if_neg q]at hud;have hSu:SubC A u:=fun x hx=>hS x (XiL hI hh ((walk_parts hI h hh u).2 ⟨y,hym,.inr ⟨hz,hu⟩⟩) hx);have hy2:=hS y ((walk_parts hI h hh y).2 ⟨y,hym,.inl rfl⟩);have hyd:=hy2.2 hz;have hcd:(A.get (A.get y).Xg).doc=A.Xu (A.get y).doc:=hyd.2;have hcii:A.Xu (A.Xu (A.get y).doc)=A.Xu (A.get y).doc:=(Ar.XC.Xh hI _ hyd.1).2.2.2;have hSc:SubC A (A.get y).Xg:=fun x hx=>hS x (XiL hI hh ((walk_parts hI h hh (A.get y).Xg).2 ⟨y,hym,.inr ⟨hz,XfH hI c1⟩⟩) hx);have hall:=subC_inert hI _ c1 hSc (by rw[hcd];exact hcii);have eu:=hall u hu;have ez:=hall z hzc;rw[eu]at hud;split;·{rfl};·rw[ez];exact hud};have r:=adoptF_inert n hI2 (t2.has c1) (by rw[t2.Xd c1];exact c3) ck w1 w2 hii hDC (by rw[cw];omega);obtain⟨r1,r2⟩:=XaT n hI2 (t2.has c1) w1 w2;rw[J1 (by rw[t2.Xd c1];exact c3)]at r2;obtain⟨r3,r4⟩:=Xer n hI2 (t2.has c1) w1 w2 (by rw[hii];exact v2);have hiF:∀z,(adoptF n B2 (A.get y).Xg i).Xu z=B2.Xu z:=fun z=>by{unfold Ar.Xu;rw[r3]};have hgF:∀z,(adoptF n B2 (A.get y).Xg i).has z→B2.has z:=fun z q=>by{unfold Ar.has Ar.n at q⊢;rw[r4]at q;exact q};refine⟨r1,t2.trans r2,fun x hx=>?_,fun _=>by rw[hiF,hi];exact v2,fun x hx=>?_,fun x hx hn=>?_⟩;·{rw[hiF];have h1:=b3 x hx;have h2:B1.Xu x=A.Xu x:=(hi1 x).trans h1;exact(hki2 x (by rw[h2];exact hx)).trans h2};·{rw[r x (t2.has hx),cw,hdocs x hx,hiF,hi];by_cases q1:x∈A.Xi (A.get y).Xg;·{have q2:=cm x q1;rw[if_pos q1,if_neg (by simpa[or_comm]using q2),if_pos ⟨y,by simp,hz,q1⟩]};·rw[if_neg q1];refine if_congr (by simp[or_comm]) rfl (if_congr ⟨?_,?_⟩ rfl rfl);·{rintro⟨z,hz1,hz2⟩;exact⟨z,by simp[hz1],hz2⟩};·rintro⟨z,hz1,hz2⟩;rcases List.mem_append.1 hz1 with q|q;·{exact⟨z,q,hz2⟩};·simp at q;subst q;exact absurd hz2.2 q1};·have hx2:=hgF x hx;obtain⟨e',he'⟩:=r2.get x hx2;rw[he'];exact hnew2 x hx2 hn
 obtain⟨k1,k2,k3,k4,k5,k6⟩:=key (h::A.below h) [] (by simp)
 refine⟨k1,k2,k3,fun x hx=>?_,fun⟨y,y1,y2⟩=>k4 ⟨y,List.mem_cons.2 y1,y2⟩,k6⟩
 rw[k5 x hx]
 by_cases q0:x=h∨x∈A.below h
 ·rw[if_pos (List.mem_cons.2 q0),if_pos q0]
 rw[if_neg (fun z=>q0 (List.mem_cons.1 z)),if_neg q0]
 by_cases q:∃y∈h::A.below h,(A.get y).Xg≠0∧x∈A.Xi (A.get y).Xg
 ·rw[if_pos q,if_pos];obtain⟨y,q1,q2⟩:=q;exact(walk_parts hI h hh x).2 ⟨y,List.mem_cons.1 q1,.inr q2⟩
 ·rw[if_neg q];by_cases q2:x∈A.Xi h;·{obtain⟨y,y1,y2⟩:=(walk_parts hI h hh x).1 q2;rcases y2 with rfl|y2;·{exact absurd y1 q0};·exact absurd ⟨y,List.mem_cons.2 y1,y2⟩ q};·rw[if_neg q2]
end
section
theorem kc_of {A B:Ar}(h:KC A)(hn:∀x,B.has x→¬A.has x→(B.get x).Xc= []∧(B.get x).Xg=0)(hk:A.KI B)(hg:∀x,A.has x→(B.get x).doc=(A.get x).doc∧(B.get x).Xg=(A.get x).Xg∧∀k∈(B.get x).Xc,A.has k∧(A.get k).doc=(A.get x).doc)(hc:∀x,A.has x→(A.get x).Xg≠0→A.has (A.get x).Xg):KC B where kid:=fun p hp k hkk=>by{by_cases q:A.has p;·{obtain⟨d1,d2,d3⟩:=hg p q;obtain⟨k1,k2⟩:=d3 k hkk;rw[(hg k k1).1,k2,d1]};·rw[(hn p hp q).1]at hkk;cases hkk};con:=fun x hx hz=>by{by_cases q:A.has x;·{obtain⟨d1,d2,d3⟩:=hg x q;rw[d2]at hz⊢;obtain⟨c1,c2⟩:=h.con x q hz;rw[d1,hk _ c1];exact⟨c1,by rw[(hg _ (hc x q hz)).1];exact c2⟩};·exact absurd (hn x hx q).2 hz}
theorem has_contents {A:Ar}(hI:A.Inv):∀x,A.has x→(A.get x).Xg≠0→A.has (A.get x).Xg:=fun x hx hz=>(ZL hI hx hz).1
theorem kc_same {A B:Ar}(hI:A.Inv)(h:KC A)(hn:∀x,B.has x→A.has x)(hi:B.Xh=A.Xh)(hg:∀x,A.has x→(B.get x).doc=(A.get x).doc∧(B.get x).Xg=(A.get x).Xg∧∀k∈(B.get x).Xc,k∈(A.get x).Xc):KC B:=kc_of h (fun x hx hq=>absurd (hn x hx) hq) (XhK hi) (fun x hx=>⟨(hg x hx).1,(hg x hx).2.1,fun k hk=>⟨(XF hI hx ((hg x hx).2.2 k hk)).1,h.kid x hx k ((hg x hx).2.2 k hk)⟩⟩) (has_contents hI)
theorem kc_cut {A:Ar}(hI:A.Inv)(h:KC A){x:Int}(hx:A.has x):KC (A.cut x):=kc_same hI h (fun y hy=>(Ar.X5 _ _ _).1 hy) (Ar.Z2 A x) (fun y hy=>by rw[XdB hI hx hy];exact⟨rfl,rfl,fun k hk=>(XiF.1 hk).1⟩)
theorem kc_add {A:Ar}(hI:A.Inv)(h:KC A){n:Nd}(h1:n.Xc= [])(h2:n.Xg=0):KC (A.add n):=kc_of h (fun x hx hq=>by rcases(Ar.XO _ _ _).1 hx with q|q;·{exact absurd q hq};·rw[q,Ar.YS];exact⟨h1,h2⟩) (Xci hI.wf.Xh n) (fun x hx=>by rw[Ar.Zb _ hx];exact⟨rfl,rfl,fun k hk=>⟨(XF hI hx hk).1,h.kid x hx k hk⟩⟩) (has_contents hI)
theorem kc_mod {A:Ar}(hI:A.Inv)(h:KC A){x:Int}(hx:A.has x){f:Nd→Nd}(h1:∀n,(f n).doc=n.doc)(h2:∀n,(f n).Xg=n.Xg)(h3:∀n,(f n).Xc=n.Xc):KC (A.mod x f):=kc_same hI h (fun y hy=>(Ar.ZU _ _ _ _).1 hy) (Xkr A x f) (fun y hy=>by rw[Ar.Zr _ hx hy];by_cases q:y=x;·{rw[if_pos q,h1,h2,h3,q];exact⟨rfl,rfl,fun _ h=>h⟩};·rw[if_neg q];exact⟨rfl,rfl,fun _ h=>h⟩)
theorem kc_inertOf {A:Ar}(hI:A.Inv)(h:KC A){d:Int}(hd:A.has d):KC (A.Xq d).2:=kc_of h (fun x hx hq=>let b:=Xl2 hI.wf.Xh hx hq;⟨b.1,b.2.1⟩) (Xl9 hI.wf.Xh hd) (fun x hx=>by rw[(Ar.JS hx).1];exact⟨rfl,rfl,fun k hk=>⟨(XF hI hx hk).1,h.kid x hx k hk⟩⟩) (has_contents hI)
theorem putIn_mem {l:List Int}{x c k:Int}(h:k∈YK l x c):k=x∨k∈l:=by
 unfold YK at h
 rcases List.mem_append.1 h with h|h
 ·obtain⟨y,hy,hk⟩:=List.mem_flatMap.1 h;by_cases q:y=c;·{rw[if_pos q]at hk;rcases List.mem_cons.1 hk with hk|hk;·{exact .inl hk};·simp at hk;subst hk;exact .inr hy};·rw[if_neg q]at hk;simp at hk;subst hk;exact .inr hy
 ·by_cases q:c=0;·{rw[if_pos q]at h;simp at h;exact .inl h};·rw[if_neg q]at h;cases h
theorem kc_put {A:Ar}(hI:A.Inv)(h:KC A){p x c:Int}(hd:A.has x→A.has p→(A.get x).doc=(A.get p).doc):KC (A.put p x c).2:=by
 unfold Ar.put
 split
 ·exact h
 ·rename_i q;obtain⟨h1,h2,h3,h4,h5,h6⟩:=Xem (Classical.not_not.1 q);have hne:p≠x:=fun e=>by{subst e;have:A.contains p p=true:=by{simp[Ar.contains,h1,Xcx (hI.wf.Zs h1) h1]};rw[this]at h6;exact absurd h6 (by simp)};have hn:(A.place p x c).n=A.n:=Ar.XaI A p x c;refine kc_of h (fun y hy hq=>absurd (by unfold Ar.has at hy⊢;rw[hn]at hy;exact hy) hq) (XhK (Ar.XdZ A p x c)) (fun y hy=>?_) (has_contents hI);show((A.place p x c).get y).doc=_∧((A.place p x c).get y).Xg=_∧∀k∈((A.place p x c).get y).Xc,_;rw[Ar.Xcy h1 h2 hy hne,XdB hI h2 hy];refine⟨rfl,rfl,fun k hk=>?_⟩;have hk':k=x∧y=p∨k∈(A.get y).Xc:=by{by_cases e:y=p;·{have hk2:k∈YK (XQ (A.get y).Xc x) x c:=by{simpa[e,Nd.re]using hk};rcases putIn_mem hk2 with r|r;·{exact .inl ⟨r,e⟩};·exact .inr (XiF.1 r).1};·have hk2:k∈XQ (A.get y).Xc x:=by{simpa[e,Nd.re]using hk};exact .inr (XiF.1 hk2).1};rcases hk' with⟨rfl,rfl⟩|r;·{exact⟨h2,hd h2 h1⟩};·exact⟨(XF hI hy r).1,h.kid y hy k r⟩
theorem below_keep' {A B:Ar}(hI:A.Inv)(hB:B.Inv):∀y,A.has y→(∀z∈A.Xi y,B.has z∧(B.get z).Xc=(A.get z).Xc)→B.below y=A.below y:=by
 refine Jc hI (fun y hy _ ik hz=>?_)
 obtain⟨z1,z2⟩:=hz y (XfH hI hy)
 rw[ZD hI hy,ZD hB z1,z2]
 refine XaR (fun k hk=>?_)
 rw[ik k hk (fun z hzz=>hz z (XiL hI hy (walk_kid hI hy hk) hzz))]
theorem adoptF_cut {n:Nat}{A:Ar}{h d:Int}(hI:A.Inv)(hh:A.has h):adoptF (n+1) A h d=adoptF (n+1) (A.cut h) h d:=by
 have hp:((A.cut h).get h).Xd=0:=by rw[XdB hI hh hh];show(if h=h then(0:Int)else _)=0;rw[if_pos rfl]
 unfold adoptF
 rw[J1 hp]
/-- What adoption leaves. -/
structure AdR (A B : Ar) (h d : Int) : Prop where
  inv : B.Inv
  tree : (A.cut h).Tree B
  kc : KC B
  self : (B.get h).doc = d
  out : ∀ x, A.has x → x ∉ A.Xi h → (B.get x).doc = (A.get x).doc
  new : ∀ x, B.has x → ¬ A.has x → Blank (B.get x)
  ki : A.KI B
  below : ∀ x, x = h ∨ x ∈ A.below h → (B.get x).doc = d
theorem kc_adopt {A:Ar}{h d:Int}(hI:A.Inv)(hK:KC A)(hh:A.has h)(hkh:(A.get h).Xa≠1)(hho:(A.get h).host=0)(hd:A.has d)(hk:(A.get d).Xa=1):AdR A (A.YM h d) h d:=by
 have hC:(A.cut h).Inv:=Ar.XC.cut hI hh
 have kC:=kc_cut hI hK hh
 have hg:=fun y(hy:A.has y)=>XdB hI hh hy
 have hhC:(A.cut h).has h:=(Ar.X5 _ _ _).2 hh
 have hdC:(A.cut h).has d:=(Ar.X5 _ _ _).2 hd
 have hpC:((A.cut h).get h).Xd=0:=by rw[hg h hh];show(if h=h then(0:Int)else _)=0;rw[if_pos rfl]
 have kkC:((A.cut h).get h).Xa≠1:=by rw[hg h hh];exact hkh
 have kdC:((A.cut h).get d).Xa=1:=by rw[hg d hd];exact hk
 have khC:((A.cut h).get h).host=0:=by rw[hg h hh];exact hho
 have hwC:(A.cut h).Xi h=A.Xi h:=XiG hI hh
 have hbC:(A.cut h).below h=A.below h:=below_keep' hI hC h hh (fun z hz=>by have z1:=walk_has hI hh hz;refine⟨(Ar.X5 _ _ _).2 z1,?_⟩;rw[hg z z1];show XQ (A.get z).Xc h=_;refine XiE (fun q=>?_);obtain⟨q1,q2,q3⟩:=XF hI z1 q;have h1:=walk_le hI h hh z hz;have h2:(A.Xi h).length<(A.Xi z).length:=by{rw[Ym hI z1];obtain⟨s,t,e⟩:=List.append_of_mem q;rw[e];simp;omega};omega)
 have hdoc:∀y,A.has y→((A.cut h).get y).doc=(A.get y).doc:=fun y hy=>(congrArg Nd.doc (hg y hy)).trans rfl
 have hlen:A.ns.length≠0:=by have:=hh.1;have:=hh.2;unfold Ar.n at this;omega
 obtain⟨n,hn⟩:∃n,A.ns.length=n+1:=⟨A.ns.length-1,by omega⟩
 have hwl:((A.cut h).Xi h).length≤n+1:=by have:=Z3 hC h;rw[Ar.YY,hn]at this;exact this
 have hki:A.KI (A.cut h):=XhK (Ar.Z2 A h)
 unfold Ar.YM
 rw[hn,adoptF_cut hI hh]
 have hhas:∀x,(A.cut h).has x↔A.has x:=fun x=>Ar.X5 _ _ _
 have hself:∀x,x=h∨x∈A.below h→((A.cut h).get h).doc=d→((A.cut h).get x).doc=d:=by have key:∀(m:Nat)x,(A.cut h).depth x≤m→(x=h∨x∈(A.cut h).below h)→((A.cut h).get x).doc=((A.cut h).get h).doc:=by{intro m;induction m with|zero=>{intro x hm hx;have:(A.cut h).has x:=by{rcases hx with rfl|hx;·{exact hhC};·exact(Zt hC h hhC x hx).1};have:=XgD hC this;omega}|succ m ih=>intro x hm hx;rcases hx with rfl|hx;·{rfl};·obtain⟨b1,b2,b3,b4⟩:=Zt hC h hhC x hx;obtain⟨l1,l2,-⟩:=hC.wf.link x b1 b4;have hu:(A.cut h).up x=((A.cut h).get x).Xd:=by{unfold Ar.up;rw[if_pos b4]};have hdp:=Jq hC b1 l1 hu;rw[kC.kid _ l1 x l2];exact ih _ (by omega) (below_par hC h hhC x hx)};intro x hx e;rw[←e];exact key _ x (Nat.le_refl _) (by rw[hbC];exact hx)
 generalize hCe:A.cut h=C at*
 by_cases hdd:(C.get h).doc=d
 ·have e:adoptF (n+1) C h d=C:=by{unfold adoptF;rw[J1 hpC,if_pos hdd]};rw[e];exact⟨hC,by rw[hCe];exact Ar.Tree.refl C,kC,hdd,fun x hx _=>hdoc x hx,fun x hx hq=>absurd ((hhas x).1 hx) hq,hki,fun x hx=>hself x hx hdd⟩
 ·have R:=adoptF_docs hC hhC hpC kkC hdC kdC (kC.sub hC hhC) hwl hdd;generalize adoptF (n+1) C h d=B at*;have hplain:∀x,x=h∨x∈C.below h→(B.get x).doc=d:=fun x hx=>by{have hxC:C.has x:=by{rcases hx with rfl|hx;·{exact hhC};·exact(Zt hC h hhC x hx).1};rw[R.doc x hxC,if_pos hx]};refine⟨R.inv,by rw[hCe];exact R.tree,⟨fun p hp k hkk=>?_,fun p hp hz=>?_⟩,hplain h (.inl rfl),fun x hx hq=>?_,fun x hx hq=>R.new x hx (fun z=>hq ((hhas x).1 z)),hki.trans R.ki,fun x hx=>hplain x (by rw[hbC];exact hx)⟩;·{by_cases hpA:C.has p;·{rw[R.tree.Xc hpA]at hkk;obtain⟨k1,k2,k3⟩:=XF hC hpA hkk;rw[R.doc p hpA,R.doc k k1];by_cases q1:p=h∨p∈C.below h;·{rw[if_pos q1,if_pos (.inr (below_kid' hC h hhC p k q1 hkk))]};·have q2:¬(k=h∨k∈C.below h):=by{rintro(e|e);·{rw[e,hpC]at k3;have:=hpA.1;omega};·have:=below_par hC h hhC k e;rw[k3]at this;exact q1 this};rw[if_neg q1,if_neg q2];by_cases q3:p∈C.Xi h;·{rw[if_pos q3,if_pos (XiL hC hhC q3 (walk_kid hC hpA hkk))]};·have q4:k∉C.Xi h:=fun e=>by{have:=walk_up hC h hhC k e (fun z=>q2 (.inl z));rw[k2]at this;exact q3 this};rw[if_neg q3,if_neg q4];exact kC.kid p hpA k hkk};·rw[(R.new p hp hpA).1]at hkk;cases hkk};·{by_cases hpA:C.has p;·{rw[R.tree.Xg hpA]at hz⊢;obtain⟨c1,c2,c3⟩:=ZL hC hpA hz;have q2:¬((C.get p).Xg=h∨(C.get p).Xg∈C.below h):=by{rintro(e|e);·{have e2:C.up h=p:=by{rw[←e];exact c2};unfold Ar.up at e2;rw[hpC,khC]at e2;have:=hpA.1;simp at e2;omega};·exact(Zt hC h hhC _ e).2.2.2 c3};rw[R.doc p hpA,R.doc _ c1,if_neg q2];by_cases q1:p=h∨p∈C.below h;·{have hpw:p∈C.Xi h:=(walk_parts hC h hhC p).2 ⟨p,q1,.inl rfl⟩;rw[if_pos q1,if_pos (XiL hC hhC hpw (XnQ hC hpA hz))];exact⟨R.ia ⟨p,q1,hz⟩,rfl⟩};·rw[if_neg q1];by_cases q3:p∈C.Xi h;·{rw[if_pos q3,if_pos (XiL hC hhC q3 (XnQ hC hpA hz))];obtain⟨y,y1,y2⟩:=(walk_parts hC h hhC p).1 q3;have hia:B.Xu d≠0:=by{rcases y2 with rfl|y2;·{exact absurd y1 q1};·exact R.ia ⟨y,y1,y2.1⟩};have hii:=(Ar.XC.Xh R.inv d hia).2.2.2;rw[hii];exact⟨hia,rfl⟩};·have q4:(C.get p).Xg∉C.Xi h:=fun e=>by{have:=walk_up hC h hhC _ e (fun z=>q2 (.inl z));rw[c2]at this;exact q3 this};rw[if_neg q3,if_neg q4];obtain⟨e1,e2⟩:=kC.con p hpA hz;rw[R.ki _ e1];exact⟨e1,e2⟩};·exact absurd (R.new p hp hpA).2.1 hz};·have hxC:=(hhas x).2 hx;have q0:¬(x=h∨x∈C.below h):=fun z=>hq (by rw[←hwC];exact(walk_parts hC h hhC x).2 ⟨x,z,.inl rfl⟩);rw[R.doc x hxC,if_neg q0,hwC,if_neg hq];exact hdoc x hx
end
end Go.Proofs.YtpicinjcmjaogaaGreatDoor
