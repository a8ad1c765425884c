import Derived.BigRegion
import Derived.StillTailTactics
import Derived.Test.YtpicinjcmjaogaaGreatY35
set_option maxRecDepth 100000
set_option maxHeartbeats 4000000
set_option linter.unusedVariables false
namespace Go.Proofs.YtpicinjcmjaogaaGreat
variable{w:World}{A:Ar}{ρ:Nat->Nat}{b:Nat}{p c n:Int}{r eb:Bool}
section
open Go.RowKit Go.Shelf
theorem Y2 {m m':Nat}{v:Value}{l:List Int}(h:Xy (w.drewN m) v l):Xy (w.drewN m') v l:=h
theorem XdF {P Q:Prop} [Decidable Q](h:P↔Q):(P->decide Q=true)/\(¬P->decide Q=false):=⟨λp=>decide_eq_true (h.1 p),λp=>decide_eq_false (λq=>p (h.2 q))⟩
theorem Xn5 (hA:Xx w ρ b A)(hI:A.Inv)(hsz:A.ns.length<=1000000)(hp:A.has p)(hc:c≠0->A.has c):Calls Tryz.prog 197 #[.pointer (some ⟨b,0,none⟩),.int .i64 p,.int .i64 c,.bool r] w λe w'=>e= .returned (.bool (decide (A.Zu p c r)))/\∃m,w'=w.drewN m:=by
 have hS:=hI.short hsz
 have hkl:=(hS.get hp).1
 have HIF:=Xqh (XnJ (A:=A) (p:=p) (c:=c) (r:=r) (hI.wf.nodup p hp))
 have HAR:=Xqh (XfL (c:=c) hA hp hkl)
 have hin:∀x∈(A.get p).Xc,A.has x:=λx hx=>(hI.wf.Xc p hp x hx).1
 have hsub:=XfM (A.get p).Xc c
 have HM1:=Xqh (fun(W:World)(v:Value)(k:Int)(q:Xx W ρ b A)(hv:Xy W v (Yl (A.get p).Xc c).1)=>Xcn (k:=k) q hv (λx hx=>hin x (hsub.1 x hx)) (Nat.le_trans hsub.2.2.1 hkl))
 have HM2:=Xqh (fun(W:World)(v:Value)(k:Int)(q:Xx W ρ b A)(hv:Xy W v (Yl (A.get p).Xc c).2)=>Xcn (k:=k) q hv (λx hx=>hin x (hsub.2.1 x hx)) (Nat.le_trans hsub.2.2.2 hkl))
 have b1:∀k,A.Yn (Yl (A.get p).Xc c).1 k<=1000000:=λk=>Nat.le_trans (XaA _ _ _) (Nat.le_trans hsub.2.2.1 hkl)
 have b2:∀k,A.Yn (Yl (A.get p).Xc c).2 k<=1000000:=λk=>Nat.le_trans (XaA _ _ _) (Nat.le_trans hsub.2.2.2 hkl)
 unfold Ar.XfE at HIF
 obtain⟨nb,cc,h0,-,-,-,-,-,hN⟩:=hA.look
 have HN:=Xqh (λq=>hN c (hc q))
 have HB:=Xqh (λm=>Xx.below hA (Below.drewN (Below.refl _ w) m))
 have g1:=b2 3
 have g2:=b1 4
 have g3:=b2 4
 clear hI hS hkl hin hsub hc hN hA b1 b2
 generalize(Yl (A.get p).Xc c).1=L1 at*
 generalize(Yl (A.get p).Xc c).2=L2 at*
 have HF:=Xqh (λW v q hv=>HM2.out W v 3 q hv)
 have HS1:=Xqh (λW v q hv=>HM1.out W v 4 q hv)
 have HS2:=Xqh (λW v q hv=>HM2.out W v 4 q hv)
 clear HM1 HM2
 generalize A.Yn L2 3=n1 at*
 generalize A.Yn L1 4=n2 at*
 generalize A.Yn L2 4=n3 at*
 have HDT:=Xqh ((XdF HIF.out).1)
 have HDF:=Xqh ((XdF HIF.out).2)
 clear HIF
 generalize decide (A.Zu p c r)=D at*
 by_cases q1:0<n1
 case pos=>have HD:=Xqh (HDT.out (.inl q1));have u1:(0:Int)<(n1:Int):=by{omega};clear q1;go_enter Tryz.func197,Tryz.ntmps197;go_wp2_with fail;refine HAR.out.mono ?_;rintro e w1⟨va,vb,rfl,⟨m1,rfl⟩,i1,i2⟩;have I1:=Xqh (λm=>Y2 (m':=m) i1);have I2:=Xqh (λm=>Y2 (m':=m) i2);have G0:=Xqh (HF.out _ _ (HB.out m1) i2);clear i1 i2;go_wp2_with fail;refine G0.out.mono ?_;rintro e w2⟨rfl,m2,rfl⟩;clear G0;go_wp2;go_ret;exact⟨by rw[HD.out];try rfl,_,rfl⟩
 case neg=>obtain rfl:n1=0:=by{omega};by_cases q2:0<n2+n3;(case pos=>have HD:=Xqh (HDT.out (.inr (.inl q2)));have u2:(0:Int)<(n2:Int)+(n3:Int):=by{omega};clear q1 q2;go_enter Tryz.func197,Tryz.ntmps197;go_wp2_with fail;refine HAR.out.mono ?_;rintro e w1⟨va,vb,rfl,⟨m1,rfl⟩,i1,i2⟩;have I1:=Xqh (λm=>Y2 (m':=m) i1);have I2:=Xqh (λm=>Y2 (m':=m) i2);have G0:=Xqh (HF.out _ _ (HB.out m1) i2);clear i1 i2;go_wp2_with fail;refine G0.out.mono ?_;rintro e w2⟨rfl,m2,rfl⟩;clear G0;go_wp2_with fail;refine(HS1.out _ _ (HB.out _) (I1.out _)).mono ?_;rintro e w3⟨rfl,m3,rfl⟩;go_wp2_with fail;refine(HS2.out _ _ (HB.out _) (I2.out _)).mono ?_;rintro e w4⟨rfl,m4,rfl⟩;go_wp2;go_ret;exact⟨by rw[HD.out];try rfl,_,rfl⟩);case neg=>obtain rfl:n2=0:=by{omega};obtain rfl:n3=0:=by{omega};cases r with|true=>{have HD:=Xqh (HDF.out (λq=>by rcases q with h|h|h<;>first|(exact q1 h)|(exact q2 h)|cases h.1));clear q1 q2;go_enter Tryz.func197,Tryz.ntmps197;go_wp2_with fail;refine HAR.out.mono ?_;rintro e w1⟨va,vb,rfl,⟨m1,rfl⟩,i1,i2⟩;have I1:=Xqh (λm=>Y2 (m':=m) i1);have I2:=Xqh (λm=>Y2 (m':=m) i2);have G0:=Xqh (HF.out _ _ (HB.out m1) i2);clear i1 i2;go_wp2_with fail;refine G0.out.mono ?_;rintro e w2⟨rfl,m2,rfl⟩;clear G0;go_wp2_with fail;refine(HS1.out _ _ (HB.out _) (I1.out _)).mono ?_;rintro e w3⟨rfl,m3,rfl⟩;go_wp2_with fail;refine(HS2.out _ _ (HB.out _) (I2.out _)).mono ?_;rintro e w4⟨rfl,m4,rfl⟩;go_wp2;go_ret;exact⟨by rw[HD.out];try rfl,_,rfl⟩}|false=>by_cases q3:c=0;(case pos=>have HD:=Xqh (HDF.out (λq=>by rcases q with h|h|h<;>first|(exact q1 h)|(exact q2 h)|exact h.2.1 q3));have u3:(c !=0)=false:=by{simp[q3]};clear q1 q2 q3;go_enter Tryz.func197,Tryz.ntmps197;go_wp2_with fail;refine HAR.out.mono ?_;rintro e w1⟨va,vb,rfl,⟨m1,rfl⟩,i1,i2⟩;have I1:=Xqh (λm=>Y2 (m':=m) i1);have I2:=Xqh (λm=>Y2 (m':=m) i2);have G0:=Xqh (HF.out _ _ (HB.out m1) i2);clear i1 i2;go_wp2_with fail;refine G0.out.mono ?_;rintro e w2⟨rfl,m2,rfl⟩;clear G0;go_wp2_with fail;refine(HS1.out _ _ (HB.out _) (I1.out _)).mono ?_;rintro e w3⟨rfl,m3,rfl⟩;go_wp2_with fail;refine(HS2.out _ _ (HB.out _) (I2.out _)).mono ?_;rintro e w4⟨rfl,m4,rfl⟩;go_wp2;go_ret;exact⟨by rw[HD.out];try rfl,_,rfl⟩);case neg=>have u3:(c !=0)=true:=by{simp[q3]};obtain⟨p1,p2,kv,av,F,-,-⟩:=HN.out q3;have c0:=F.c0;have hx0:(0:Int)<=c:=by{omega};have hx1:c<((A.ns.length+1:Nat):Int):=by{omega};have hx2:c<(A.ns.length:Int)+1:=by{omega};clear F;by_cases q4:(A.get c).Xa=4;(case pos=>have HD:=Xqh (HDT.out (.inr (.inr ⟨rfl,q3,.inl q4⟩)));rw[q4]at c0;clear HN q1 q2 q3 q4;go_enter Tryz.func197,Tryz.ntmps197;go_wp2_with fail;refine HAR.out.mono ?_;rintro e w1⟨va,vb,rfl,⟨m1,rfl⟩,i1,i2⟩;have I1:=Xqh (λm=>Y2 (m':=m) i1);have I2:=Xqh (λm=>Y2 (m':=m) i2);have G0:=Xqh (HF.out _ _ (HB.out m1) i2);clear i1 i2;go_wp2_with fail;refine G0.out.mono ?_;rintro e w2⟨rfl,m2,rfl⟩;clear G0;go_wp2_with fail;refine(HS1.out _ _ (HB.out _) (I1.out _)).mono ?_;rintro e w3⟨rfl,m3,rfl⟩;go_wp2_with fail;refine(HS2.out _ _ (HB.out _) (I2.out _)).mono ?_;rintro e w4⟨rfl,m4,rfl⟩;go_wp2;go_ret;exact⟨by rw[HD.out];try rfl,_,rfl⟩);case neg=>have v0:((A.get c).Xa==4)=false:=by{simp[q4]};by_cases q5:(A.get c).Xa=3;(case pos=>have HD:=Xqh (HDT.out (.inr (.inr ⟨rfl,q3,.inr q5⟩)));rw[q5]at c0;clear HN q1 q2 q3 q4 q5;go_enter Tryz.func197,Tryz.ntmps197;go_wp2_with fail;refine HAR.out.mono ?_;rintro e w1⟨va,vb,rfl,⟨m1,rfl⟩,i1,i2⟩;have I1:=Xqh (λm=>Y2 (m':=m) i1);have I2:=Xqh (λm=>Y2 (m':=m) i2);have G0:=Xqh (HF.out _ _ (HB.out m1) i2);clear i1 i2;go_wp2_with fail;refine G0.out.mono ?_;rintro e w2⟨rfl,m2,rfl⟩;clear G0;go_wp2_with fail;refine(HS1.out _ _ (HB.out _) (I1.out _)).mono ?_;rintro e w3⟨rfl,m3,rfl⟩;go_wp2_with fail;refine(HS2.out _ _ (HB.out _) (I2.out _)).mono ?_;rintro e w4⟨rfl,m4,rfl⟩;go_wp2;go_ret;exact⟨by rw[HD.out];try rfl,_,rfl⟩);case neg=>have v1:((A.get c).Xa==3)=false:=by{simp[q5]};have HD:=Xqh (HDF.out (λq=>by rcases q with h|h|h<;>first|(exact q1 h)|(exact q2 h)|(rcases h.2.2 with z|z<;>first|(exact q4 z)|exact q5 z)));clear HN q1 q2 q3 q4 q5;generalize(A.get c).Xa=kd at*;go_enter Tryz.func197,Tryz.ntmps197;go_wp2_with fail;refine HAR.out.mono ?_;rintro e w1⟨va,vb,rfl,⟨m1,rfl⟩,i1,i2⟩;have I1:=Xqh (λm=>Y2 (m':=m) i1);have I2:=Xqh (λm=>Y2 (m':=m) i2);have G0:=Xqh (HF.out _ _ (HB.out m1) i2);clear i1 i2;go_wp2_with fail;refine G0.out.mono ?_;rintro e w2⟨rfl,m2,rfl⟩;clear G0;go_wp2_with fail;refine(HS1.out _ _ (HB.out _) (I1.out _)).mono ?_;rintro e w3⟨rfl,m3,rfl⟩;go_wp2_with fail;refine(HS2.out _ _ (HB.out _) (I2.out _)).mono ?_;rintro e w4⟨rfl,m4,rfl⟩;go_wp2;go_ret;exact⟨by rw[HD.out];try rfl,_,rfl⟩
theorem Xn6 (hA:Xx w ρ b A)(hI:A.Inv)(hsz:A.ns.length<=1000000)(hp:A.has p)(hc:c≠0->A.has c):Calls Tryz.prog 198 #[.pointer (some ⟨b,0,none⟩),.int .i64 p,.int .i64 c,.bool r] w λe w'=>e= .returned (.bool (decide (A.Jd p c r)))/\∃m,w'=w.drewN m:=by
 have hS:=hI.short hsz
 have hkl:=(hS.get hp).1
 have HIF:=Xqh (XnK (A:=A) (p:=p) (c:=c) (r:=r) (hI.wf.nodup p hp))
 have HAR:=Xqh (XfL (c:=c) hA hp hkl)
 have hin:∀x∈(A.get p).Xc,A.has x:=λx hx=>(hI.wf.Xc p hp x hx).1
 have hsub:=XfM (A.get p).Xc c
 have HM1:=Xqh (fun(W:World)(v:Value)(k:Int)(q:Xx W ρ b A)(hv:Xy W v (Yl (A.get p).Xc c).1)=>Xcn (k:=k) q hv (λx hx=>hin x (hsub.1 x hx)) (Nat.le_trans hsub.2.2.1 hkl))
 have HM2:=Xqh (fun(W:World)(v:Value)(k:Int)(q:Xx W ρ b A)(hv:Xy W v (Yl (A.get p).Xc c).2)=>Xcn (k:=k) q hv (λx hx=>hin x (hsub.2.1 x hx)) (Nat.le_trans hsub.2.2.2 hkl))
 have b1:∀k,A.Yn (Yl (A.get p).Xc c).1 k<=1000000:=λk=>Nat.le_trans (XaA _ _ _) (Nat.le_trans hsub.2.2.1 hkl)
 have b2:∀k,A.Yn (Yl (A.get p).Xc c).2 k<=1000000:=λk=>Nat.le_trans (XaA _ _ _) (Nat.le_trans hsub.2.2.2 hkl)
 unfold Ar.XfF at HIF
 obtain⟨nb,cc,h0,-,-,-,-,-,hN⟩:=hA.look
 have HN:=Xqh (λq=>hN c (hc q))
 have HB:=Xqh (λm=>Xx.below hA (Below.drewN (Below.refl _ w) m))
 have g1:=b1 4
 have g2:=b1 3
 have g3:=b2 3
 clear hI hS hkl hin hsub hc hN hA b1 b2
 generalize(Yl (A.get p).Xc c).1=L1 at*
 generalize(Yl (A.get p).Xc c).2=L2 at*
 have HF:=Xqh (λW v q hv=>HM1.out W v 4 q hv)
 have HS1:=Xqh (λW v q hv=>HM1.out W v 3 q hv)
 have HS2:=Xqh (λW v q hv=>HM2.out W v 3 q hv)
 clear HM1 HM2
 generalize A.Yn L1 4=n1 at*
 generalize A.Yn L1 3=n2 at*
 generalize A.Yn L2 3=n3 at*
 have HDT:=Xqh ((XdF HIF.out).1)
 have HDF:=Xqh ((XdF HIF.out).2)
 clear HIF
 generalize decide (A.Jd p c r)=D at*
 by_cases q1:0<n1
 case pos=>have HD:=Xqh (HDT.out (.inl q1));have u1:(0:Int)<(n1:Int):=by{omega};clear q1;go_enter Tryz.func198,Tryz.ntmps198;go_wp2_with fail;refine HAR.out.mono ?_;rintro e w1⟨va,vb,rfl,⟨m1,rfl⟩,i1,i2⟩;have I1:=Xqh (λm=>Y2 (m':=m) i1);have I2:=Xqh (λm=>Y2 (m':=m) i2);have G0:=Xqh (HF.out _ _ (HB.out m1) i1);clear i1 i2;go_wp2_with fail;refine G0.out.mono ?_;rintro e w2⟨rfl,m2,rfl⟩;clear G0;go_wp2;go_ret;exact⟨by rw[HD.out];try rfl,_,rfl⟩
 case neg=>obtain rfl:n1=0:=by{omega};by_cases q2:0<n2+n3;(case pos=>have HD:=Xqh (HDT.out (.inr (.inl q2)));have u2:(0:Int)<(n2:Int)+(n3:Int):=by{omega};clear q1 q2;go_enter Tryz.func198,Tryz.ntmps198;go_wp2_with fail;refine HAR.out.mono ?_;rintro e w1⟨va,vb,rfl,⟨m1,rfl⟩,i1,i2⟩;have I1:=Xqh (λm=>Y2 (m':=m) i1);have I2:=Xqh (λm=>Y2 (m':=m) i2);have G0:=Xqh (HF.out _ _ (HB.out m1) i1);clear i1 i2;go_wp2_with fail;refine G0.out.mono ?_;rintro e w2⟨rfl,m2,rfl⟩;clear G0;go_wp2_with fail;refine(HS1.out _ _ (HB.out _) (I1.out _)).mono ?_;rintro e w3⟨rfl,m3,rfl⟩;go_wp2_with fail;refine(HS2.out _ _ (HB.out _) (I2.out _)).mono ?_;rintro e w4⟨rfl,m4,rfl⟩;go_wp2;go_ret;exact⟨by rw[HD.out];try rfl,_,rfl⟩);case neg=>obtain rfl:n2=0:=by{omega};obtain rfl:n3=0:=by{omega};cases r with|true=>{have HD:=Xqh (HDF.out (λq=>by rcases q with h|h|h<;>first|(exact q1 h)|(exact q2 h)|cases h.1));clear q1 q2;go_enter Tryz.func198,Tryz.ntmps198;go_wp2_with fail;refine HAR.out.mono ?_;rintro e w1⟨va,vb,rfl,⟨m1,rfl⟩,i1,i2⟩;have I1:=Xqh (λm=>Y2 (m':=m) i1);have I2:=Xqh (λm=>Y2 (m':=m) i2);have G0:=Xqh (HF.out _ _ (HB.out m1) i1);clear i1 i2;go_wp2_with fail;refine G0.out.mono ?_;rintro e w2⟨rfl,m2,rfl⟩;clear G0;go_wp2_with fail;refine(HS1.out _ _ (HB.out _) (I1.out _)).mono ?_;rintro e w3⟨rfl,m3,rfl⟩;go_wp2_with fail;refine(HS2.out _ _ (HB.out _) (I2.out _)).mono ?_;rintro e w4⟨rfl,m4,rfl⟩;go_wp2;go_ret;exact⟨by rw[HD.out];try rfl,_,rfl⟩}|false=>by_cases q3:c=0;(case pos=>have HD:=Xqh (HDF.out (λq=>by rcases q with h|h|h<;>first|(exact q1 h)|(exact q2 h)|exact h.2.1 q3));have u3:(c !=0)=false:=by{simp[q3]};clear q1 q2 q3;go_enter Tryz.func198,Tryz.ntmps198;go_wp2_with fail;refine HAR.out.mono ?_;rintro e w1⟨va,vb,rfl,⟨m1,rfl⟩,i1,i2⟩;have I1:=Xqh (λm=>Y2 (m':=m) i1);have I2:=Xqh (λm=>Y2 (m':=m) i2);have G0:=Xqh (HF.out _ _ (HB.out m1) i1);clear i1 i2;go_wp2_with fail;refine G0.out.mono ?_;rintro e w2⟨rfl,m2,rfl⟩;clear G0;go_wp2_with fail;refine(HS1.out _ _ (HB.out _) (I1.out _)).mono ?_;rintro e w3⟨rfl,m3,rfl⟩;go_wp2_with fail;refine(HS2.out _ _ (HB.out _) (I2.out _)).mono ?_;rintro e w4⟨rfl,m4,rfl⟩;go_wp2;go_ret;exact⟨by rw[HD.out];try rfl,_,rfl⟩);case neg=>have u3:(c !=0)=true:=by{simp[q3]};obtain⟨p1,p2,kv,av,F,-,-⟩:=HN.out q3;have c0:=F.c0;have hx0:(0:Int)<=c:=by{omega};have hx1:c<((A.ns.length+1:Nat):Int):=by{omega};have hx2:c<(A.ns.length:Int)+1:=by{omega};clear F;by_cases q4:(A.get c).Xa=3;(case pos=>have HD:=Xqh (HDT.out (.inr (.inr ⟨rfl,q3,q4⟩)));rw[q4]at c0;clear HN q1 q2 q3 q4;go_enter Tryz.func198,Tryz.ntmps198;go_wp2_with fail;refine HAR.out.mono ?_;rintro e w1⟨va,vb,rfl,⟨m1,rfl⟩,i1,i2⟩;have I1:=Xqh (λm=>Y2 (m':=m) i1);have I2:=Xqh (λm=>Y2 (m':=m) i2);have G0:=Xqh (HF.out _ _ (HB.out m1) i1);clear i1 i2;go_wp2_with fail;refine G0.out.mono ?_;rintro e w2⟨rfl,m2,rfl⟩;clear G0;go_wp2_with fail;refine(HS1.out _ _ (HB.out _) (I1.out _)).mono ?_;rintro e w3⟨rfl,m3,rfl⟩;go_wp2_with fail;refine(HS2.out _ _ (HB.out _) (I2.out _)).mono ?_;rintro e w4⟨rfl,m4,rfl⟩;go_wp2;go_ret;exact⟨by rw[HD.out];try rfl,_,rfl⟩);case neg=>have v0:((A.get c).Xa==3)=false:=by{simp[q4]};have HD:=Xqh (HDF.out (λq=>by rcases q with h|h|h<;>first|(exact q1 h)|(exact q2 h)|(exact q4 h.2.2)));clear HN q1 q2 q3 q4;generalize(A.get c).Xa=kd at*;go_enter Tryz.func198,Tryz.ntmps198;go_wp2_with fail;refine HAR.out.mono ?_;rintro e w1⟨va,vb,rfl,⟨m1,rfl⟩,i1,i2⟩;have I1:=Xqh (λm=>Y2 (m':=m) i1);have I2:=Xqh (λm=>Y2 (m':=m) i2);have G0:=Xqh (HF.out _ _ (HB.out m1) i1);clear i1 i2;go_wp2_with fail;refine G0.out.mono ?_;rintro e w2⟨rfl,m2,rfl⟩;clear G0;go_wp2_with fail;refine(HS1.out _ _ (HB.out _) (I1.out _)).mono ?_;rintro e w3⟨rfl,m3,rfl⟩;go_wp2_with fail;refine(HS2.out _ _ (HB.out _) (I2.out _)).mono ?_;rintro e w4⟨rfl,m4,rfl⟩;go_wp2;go_ret;exact⟨by rw[HD.out];try rfl,_,rfl⟩
end
section
open Go.RowKit Go.Shelf
theorem Xn7 (w:World)(x:Nd)(kv av:Value)(t:TypeId):YB ((w.alloc (.cells (x.cells kv av).toArray t)).drew) w.heap.size 0 x kv av/\Below w.heap.size w ((w.alloc (.cells (x.cells kv av).toArray t)).drew):=⟨(XaY w x kv av t).below (Below.drew (Below.refl _ _)),Below.drew ((Below.refl _ w).alloc (Nat.le_refl _) _)⟩
theorem Xn8 (A:Ar)(p n c:Int)(r:Bool){pk nk cp:Int}{cb fb db:Bool}(h1:(A.get p).Xa=pk)(h2:(A.get n).Xa=nk)(h3:(A.get c).Xd=cp)(h4:A.contains n p=cb)(hf:decide (A.JB p n c r)=fb)(he:decide (A.Zu p c r)=eb)(hd:decide (A.Jd p c r)=db):A.Ya p n c r=if¬(pk=1\/pk=2\/pk=4)then 4 else if cb=true then 4 else if c≠0/\cp≠p then 5 else if nk=1 then 4 else if(pk=1/\nk=5)\/(pk≠1/\nk=3)then 4 else if pk=1/\((nk=2/\fb=true)\/(nk=4/\eb=true)\/(nk=3/\db=true))then 4 else 0:=by
 subst h1 h2 h3 h4 hf he hd
 rw[XnM]
 simp only[decide_eq_true_iff]
 rfl
theorem Xn9 {k4 k5:Nat}(h4:A.Yn (A.get n).Xc 4=k4)(h5:A.Yn (A.get n).Xc 5=k5)(he:decide (A.Zu p c r)=eb):A.JB p n c r↔(1<k4\/0<k5\/(k4=1/\eb=true)):=by
 rw[XnL,h4,h5,<-he,decide_eq_true_iff]
theorem Xoa (hA:Xx w ρ b A)(hI:A.Inv)(hsz:A.ns.length<=1000000)(hp:A.has p)(hn:A.has n)(hc:c≠0->A.has c)(hr:r=true->A.has c):Calls Tryz.prog 128 #[.pointer (some ⟨b,0,none⟩),.int .i64 p,.int .i64 n,.int .i64 c,.bool r] w λe w'=>e= .returned (.int .i64 (A.Ya p n c r))/\Below w.heap.size w w':=by
 have hS:=hI.short hsz
 obtain⟨nb,cc,h0,-,-,-,-,-,hN⟩:=hA.look
 obtain⟨p1,p2,kvp,avp,Fp,-,-⟩:=hN p hp
 obtain⟨n1,n2,kvn,avn,Fn,hKn,hTn⟩:=hN n hn
 have HK:=Xqh (show Xy w kvn (A.get n).Xc from hKn.reads)
 have HT:=Xqh (show XE w avn (A.get n).Xb from hTn.reads)
 obtain⟨ka,kc,rfl,-⟩:=HK.out.form
 obtain⟨aa,ac,rfl,-⟩:=HT.out.form
 have HC:=Xqh (λq=>hN c (hc q))
 have m0:=Fp.c0
 have k0:=Fn.c0
 have k1:=Fn.c1
 have k2:=Fn.c2
 have k3:=Fn.c3
 have k4:=Fn.c4
 have k5:=Fn.c5
 have k6:=Fn.c6
 have k7:=Fn.c7
 have k8:=Fn.c8
 have k9:=Fn.c9
 have k10:=Fn.c10
 have k11:=Fn.c11
 have k12:=Fn.c12
 have lb:=World.block_lt_of_cell? w _ h0
 have ln:=World.block_lt_of_cell? w _ k0
 dsimp only at lb ln
 have HCN:=Xqh (fun(W:World)(hB:Below w.heap.size w W)=>Xe7 A ρ b n p W (hA.below hB) hI.wf)
 have HEL:=Xqh (fun(W:World)(hB:Below w.heap.size w W)=>Xn5 (c:=c) (r:=r) (hA.below hB) hI hsz hp hc)
 have HDT:=Xqh (fun(W:World)(hB:Below w.heap.size w W)=>Xn6 (c:=c) (r:=r) (hA.below hB) hI hsz hp hc)
 have hkl:=(hS.get hn).1
 have HMN:=Xqh (fun(W:World)(k:Int)(hB:Below w.heap.size w W)=>Xcn (k:=k) (hA.below hB) (Xy.below HK.out hB) (λx hx=>(hI.wf.Xc n hn x hx).1) hkl)
 have HR:=Xqh (λq=>(hr q).1)
 have hpx0:(0:Int)<=p:=by omega
 have hpx1:p<((A.ns.length+1:Nat):Int):=by omega
 have hpx2:p<(A.ns.length:Int)+1:=by omega
 have hnx0:(0:Int)<=n:=by omega
 have hnx1:n<((A.ns.length+1:Nat):Int):=by omega
 have hnx2:n<(A.ns.length:Int)+1:=by omega
 obtain⟨pk,hpk⟩:∃pk,(A.get p).Xa=pk:=⟨_,rfl⟩
 obtain⟨nk,hnk⟩:∃nk,(A.get n).Xa=nk:=⟨_,rfl⟩
 obtain⟨cp,hcp⟩:∃cp,(A.get c).Xd=cp:=⟨_,rfl⟩
 obtain⟨cb,hcb⟩:∃cb,A.contains n p=cb:=⟨_,rfl⟩
 obtain⟨q4,hq4⟩:∃q4,A.Yn (A.get n).Xc 4=q4:=⟨_,rfl⟩
 obtain⟨q5,hq5⟩:∃q5,A.Yn (A.get n).Xc 5=q5:=⟨_,rfl⟩
 obtain⟨eb,heb⟩:∃eb,decide (A.Zu p c r)=eb:=⟨_,rfl⟩
 obtain⟨db,hdb⟩:∃db,decide (A.Jd p c r)=db:=⟨_,rfl⟩
 have g4:q4<=1000000:=hq4▸Nat.le_trans (XaA _ _ _) hkl
 have g5:q5<=1000000:=hq5▸Nat.le_trans (XaA _ _ _) hkl
 obtain⟨fb,hfb⟩:∃fb,decide (A.JB p n c r)=fb:=⟨_,rfl⟩
 have HG:=Xqh (Xn8 A p n c r hpk hnk hcp hcb hfb heb hdb)
 have HFB:=Xqh (show fb=true↔(1<q4\/0<q5\/(q4=1/\eb=true))from by rw[<-hfb,decide_eq_true_iff];exact Xn9 hq4 hq5 heb)
 have HM4:=Xqh (λW hB=>hq4▸HMN.out W 4 hB)
 have HM5:=Xqh (λW hB=>hq5▸HMN.out W 5 hB)
 rw[hcb]at HCN
 rw[heb]at HEL
 rw[hdb]at HDT
 have HPK:=Xqh hpk
 have HNK:=Xqh hnk
 have HCP:=Xqh hcp
 rw[hpk]at m0
 clear hA hI hS hp hn hc hr hN Fp Fn hKn hTn HMN hkl hpk hnk hcp hcb hq4 hq5 heb hdb hfb
 obtain⟨G,hG⟩:∃G,A.Ya p n c r=G:=⟨_,rfl⟩
 rw[hG]at HG⊢
 clear hG
 generalize A.get n=x at*
 go_enter Tryz.func128,Tryz.ntmps128
 go_upto_region 1 with fail
 go_cut [11,12]from 15 to 29(λu q wx=>∃xb:Nat,u= .int .i64 pk/\q= .pointer (some ⟨xb,0,none⟩)/\Hid (YB wx xb 0 x (.slice ka x.Xc.length kc) (.slice aa x.Xb.length ac)/\Below w.heap.size w wx))
 case first=>go_region;all_goals clear k0 k1 k2 k3 k4 k5 k6 k7 k8 k9 k10 k11 k12 m0;go_wp2_with fail;go_meet;exact⟨_,rfl,rfl,Xn7 w x (.slice ka x.Xc.length kc) (.slice aa x.Xb.length ac) 46⟩
 case rest=>obtain⟨xb,rfl,rfl,hc3⟩:=hcut;obtain⟨hX,hB1⟩:=hc3.out;obtain⟨W1,hW1⟩:∃W1,W1=wc:=⟨_,rfl⟩;subst hW1;have HB1:=Xqh hB1;have a0:=Below.old hB1 h0;have x0:=hX.c0;have x2:=hX.c2;simp only[Nat.zero_add]at x0 x2;rw[HNK.out]at x0;clear k0 k1 k2 k3 k4 k5 k6 k7 k8 k9 k10 k11 k12 m0 hc3 hX hB1 h0;by_cases t0:pk=1\/pk=2\/pk=4;(case neg=>have v1:(pk !=1)=true:=by{simp;exact λq=>t0 (.inl q)};have v2:(pk !=2)=true:=by{simp;exact λq=>t0 (.inr (.inl q))};have v4:(pk !=4)=true:=by{simp;exact λq=>t0 (.inr (.inr q))};have HE:Hid (G=4):=Xqh (by rw[HG.out,if_pos t0]);clear t0;go_wp2;go_ret;exact⟨by rw[HE.out];try rfl,HB1.out⟩);case pos=>replace HG:=Xqh (HG.out.trans (if_neg (λq=>q t0)));cases cb with|true=>{have HE:Hid (G=4):=Xqh (by rw[HG.out,if_pos rfl]);rcases t0 with rfl|rfl|rfl;all_goals go_wp2_with fail;refine(HCN.out _ HB1.out).mono ?_;rintro e w2⟨rfl,rfl⟩;go_wp2;go_ret;exact⟨by rw[HE.out];try rfl,HB1.out⟩}|false=>replace HG:=Xqh (HG.out.trans (if_neg (by decide)));by_cases hc0:c=0;(case pos=>replace HG:=Xqh (HG.out.trans (if_neg (λq=>q.1 hc0)));subst hc0;cases r with|true=>{exact absurd (HR.out rfl) (by decide)}|false=>clear HC HR HCP HPK HNK;rcases t0 with rfl|rfl|rfl;(case inl=>by_cases s1:nk=1;(case pos=>have HE:Hid (G=4):=Xqh (by rw[HG.out,if_pos s1]);have z1:(nk==1)=true:=by{simp[s1]};clear s1;go_wp2_with fail;refine(HCN.out _ HB1.out).mono ?_;rintro e w2⟨rfl,rfl⟩;go_wp2;go_ret;exact⟨by rw[HE.out];try rfl,HB1.out⟩);case neg=>replace HG:=Xqh (HG.out.trans (if_neg s1));have z1:(nk==1)=false:=by{simp[s1]};by_cases s5:nk=5;(case pos=>have HE:Hid (G=4):=Xqh (by rw[HG.out,if_pos (.inl ⟨rfl,s5⟩)]);subst s5;clear s1 z1;go_wp2_with fail;refine(HCN.out _ HB1.out).mono ?_;rintro e w2⟨rfl,rfl⟩;go_wp2;go_ret;exact⟨by rw[HE.out];try rfl,HB1.out⟩);case neg=>have z5:(nk==5)=false:=by{simp[s5]};replace HG:=Xqh (HG.out.trans (if_neg (λq=>by rcases q with h|h;exact s5 h.2;exact absurd rfl h.1)));by_cases s2:nk=2;(case pos=>subst s2;clear s1 s5 z1 z5;replace HG:Hid (G=if fb=true then 4 else 0):=Xqh (by rw[HG.out];by_cases q:fb=true;{rw[if_pos ⟨rfl,.inl ⟨rfl,q⟩⟩,if_pos q]};·rw[if_neg (λz=>by rcases z.2 with h|h|h;exact q h.2;exact absurd h.1 (by decide);exact absurd h.1 (by decide)),if_neg q]);by_cases f1:1<q4;(case pos=>have HE:Hid (G=4):=Xqh (by rw[HG.out,if_pos (HFB.out.2 (.inl f1))]);have y1:(1:Int)<(q4:Int):=by{omega};clear f1;go_wp2_with fail;refine(HCN.out _ HB1.out).mono ?_;rintro e w2⟨rfl,rfl⟩;go_wp2_with fail;refine(HM4.out _ HB1.out).mono ?_;rintro e w3⟨rfl,n3,rfl⟩;go_wp2;go_ret;exact⟨by rw[HE.out];try rfl,Below.drewN HB1.out _⟩);case neg=>by_cases f5:0<q5;(case pos=>have HE:Hid (G=4):=Xqh (by rw[HG.out,if_pos (HFB.out.2 (.inr (.inl f5)))]);have y1:¬(1:Int)<(q4:Int):=by{omega};have y5:(0:Int)<(q5:Int):=by{omega};clear f1 f5;go_wp2_with fail;refine(HCN.out _ HB1.out).mono ?_;rintro e w2⟨rfl,rfl⟩;go_wp2_with fail;refine(HM4.out _ HB1.out).mono ?_;rintro e w3⟨rfl,n3,rfl⟩;go_wp2_with fail;refine(HM5.out _ (Below.drewN HB1.out _)).mono ?_;rintro e w4⟨rfl,n4,rfl⟩;go_wp2;go_ret;exact⟨by rw[HE.out];try rfl,Below.drewN HB1.out _⟩);case neg=>by_cases f4:q4=1;(case pos=>subst f4;obtain rfl:q5=0:=by{omega};have HE:Hid (G=if eb=true then 4 else 0):=Xqh (by rw[HG.out];by_cases q:eb=true;{rw[if_pos q,if_pos (HFB.out.2 (.inr (.inr ⟨rfl,q⟩)))]};·rw[if_neg q,if_neg (λz=>by rcases HFB.out.1 z with h|h|h;exact f1 h;exact f5 h;exact q h.2)]);clear f1 f5;go_wp2_with fail;refine(HCN.out _ HB1.out).mono ?_;rintro e w2⟨rfl,rfl⟩;go_wp2_with fail;refine(HM4.out _ HB1.out).mono ?_;rintro e w3⟨rfl,n3,rfl⟩;go_wp2_with fail;refine(HM5.out _ (Below.drewN HB1.out _)).mono ?_;rintro e w4⟨rfl,n4,rfl⟩;go_wp2_with fail;refine(HEL.out _ (Below.drewN HB1.out _)).mono ?_;rintro e w5⟨rfl,n5,rfl⟩;cases eb;all_goals go_wp2;go_ret;exact⟨by rw[HE.out];try rfl,Below.drewN HB1.out _⟩);case neg=>obtain rfl:q4=0:=by{omega};obtain rfl:q5=0:=by{omega};have HE:Hid (G=0):=Xqh (by rw[HG.out,if_neg (λz=>by rcases HFB.out.1 z with h|h|h;exact f1 h;exact f5 h;exact f4 h.1)]);clear f1 f5 f4;go_wp2_with fail;refine(HCN.out _ HB1.out).mono ?_;rintro e w2⟨rfl,rfl⟩;go_wp2_with fail;refine(HM4.out _ HB1.out).mono ?_;rintro e w3⟨rfl,n3,rfl⟩;go_wp2_with fail;refine(HM5.out _ (Below.drewN HB1.out _)).mono ?_;rintro e w4⟨rfl,n4,rfl⟩;go_wp2;go_ret;exact⟨by rw[HE.out];try rfl,Below.drewN HB1.out _⟩);case neg=>have z2:(nk==2)=false:=by{simp[s2]};by_cases s4:nk=4;(case pos=>subst s4;clear s1 s5 s2 z1 z5 z2;have HE:Hid (G=if eb=true then 4 else 0):=Xqh (by rw[HG.out];by_cases q:eb=true;{rw[if_pos ⟨rfl,.inr (.inl ⟨rfl,q⟩)⟩,if_pos q]};·rw[if_neg (λz=>by rcases z.2 with h|h|h;exact absurd h.1 (by decide);exact q (h.2);exact absurd h.1 (by decide)),if_neg q]);go_wp2_with fail;refine(HCN.out _ HB1.out).mono ?_;rintro e w2⟨rfl,rfl⟩;go_wp2_with fail;refine(HEL.out _ HB1.out).mono ?_;rintro e w3⟨rfl,n3,rfl⟩;cases eb;all_goals go_wp2;go_ret;exact⟨by rw[HE.out];try rfl,Below.drewN HB1.out _⟩);case neg=>have z4:(nk==4)=false:=by{simp[s4]};by_cases s3:nk=3;(case pos=>subst s3;clear s1 s5 s2 s4 z1 z5 z2 z4;have HE:Hid (G=if db=true then 4 else 0):=Xqh (by rw[HG.out];by_cases q:db=true;{rw[if_pos ⟨rfl,.inr (.inr ⟨rfl,q⟩)⟩,if_pos q]};·rw[if_neg (λz=>by rcases z.2 with h|h|h;exact absurd h.1 (by decide);exact absurd h.1 (by decide);exact q (h.2)),if_neg q]);go_wp2_with fail;refine(HCN.out _ HB1.out).mono ?_;rintro e w2⟨rfl,rfl⟩;go_wp2_with fail;refine(HDT.out _ HB1.out).mono ?_;rintro e w3⟨rfl,n3,rfl⟩;cases db;all_goals go_wp2;go_ret;exact⟨by rw[HE.out];try rfl,Below.drewN HB1.out _⟩);case neg=>have z3:(nk==3)=false:=by{simp[s3]};have HE:Hid (G=0):=Xqh (by rw[HG.out,if_neg (λz=>by rcases z.2 with h|h|h;exact s2 h.1;exact s4 h.1;exact s3 h.1)]);clear s1 s5 s2 s4 s3;go_wp2_with fail;refine(HCN.out _ HB1.out).mono ?_;rintro e w2⟨rfl,rfl⟩;go_wp2;go_ret;exact⟨by rw[HE.out];try rfl,HB1.out⟩);(case inr.inl=>by_cases s1:nk=1;(case pos=>have HE:Hid (G=4):=Xqh (by rw[HG.out,if_pos s1]);have z1:(nk==1)=true:=by{simp[s1]};clear s1;go_wp2_with fail;refine(HCN.out _ HB1.out).mono ?_;rintro e w2⟨rfl,rfl⟩;go_wp2;go_ret;exact⟨by rw[HE.out];try rfl,HB1.out⟩);case neg=>replace HG:=Xqh (HG.out.trans (if_neg s1));have z1:(nk==1)=false:=by{simp[s1]};by_cases s3:nk=3;(case pos=>have HE:Hid (G=4):=Xqh (by rw[HG.out,if_pos (.inr ⟨by decide,s3⟩)]);subst s3;clear s1 z1;go_wp2_with fail;refine(HCN.out _ HB1.out).mono ?_;rintro e w2⟨rfl,rfl⟩;go_wp2;go_ret;exact⟨by rw[HE.out];try rfl,HB1.out⟩);case neg=>have z3:(nk==3)=false:=by{simp[s3]};have HE:Hid (G=0):=Xqh (by rw[HG.out,if_neg (λq=>by rcases q with h|h;exact absurd h.1 (by decide);exact s3 h.2),if_neg (λq=>absurd q.1 (by decide))]);clear s1 s3;go_wp2_with fail;refine(HCN.out _ HB1.out).mono ?_;rintro e w2⟨rfl,rfl⟩;by_cases s5:nk=5;(case pos=>subst s5;go_wp2;go_ret;exact⟨by rw[HE.out];try rfl,HB1.out⟩);case neg=>have z5:(nk==5)=false:=by{simp[s5]};clear s5;go_wp2;go_ret;exact⟨by rw[HE.out];try rfl,HB1.out⟩);case inr.inr=>by_cases s1:nk=1;(case pos=>have HE:Hid (G=4):=Xqh (by rw[HG.out,if_pos s1]);have z1:(nk==1)=true:=by{simp[s1]};clear s1;go_wp2_with fail;refine(HCN.out _ HB1.out).mono ?_;rintro e w2⟨rfl,rfl⟩;go_wp2;go_ret;exact⟨by rw[HE.out];try rfl,HB1.out⟩);case neg=>replace HG:=Xqh (HG.out.trans (if_neg s1));have z1:(nk==1)=false:=by{simp[s1]};by_cases s3:nk=3;(case pos=>have HE:Hid (G=4):=Xqh (by rw[HG.out,if_pos (.inr ⟨by decide,s3⟩)]);subst s3;clear s1 z1;go_wp2_with fail;refine(HCN.out _ HB1.out).mono ?_;rintro e w2⟨rfl,rfl⟩;go_wp2;go_ret;exact⟨by rw[HE.out];try rfl,HB1.out⟩);case neg=>have z3:(nk==3)=false:=by{simp[s3]};have HE:Hid (G=0):=Xqh (by rw[HG.out,if_neg (λq=>by rcases q with h|h;exact absurd h.1 (by decide);exact s3 h.2),if_neg (λq=>absurd q.1 (by decide))]);clear s1 s3;go_wp2_with fail;refine(HCN.out _ HB1.out).mono ?_;rintro e w2⟨rfl,rfl⟩;by_cases s5:nk=5;(case pos=>subst s5;go_wp2;go_ret;exact⟨by rw[HE.out];try rfl,HB1.out⟩);case neg=>have z5:(nk==5)=false:=by{simp[s5]};clear s5;go_wp2;go_ret;exact⟨by rw[HE.out];try rfl,HB1.out⟩);case neg=>have zc:(c !=0)=true:=by{simp[hc0]};obtain⟨e1,e2,kvc,avc,Fc,-,-⟩:=HC.out hc0;have d1:=Below.old HB1.out Fc.c1;have hcx0:(0:Int)<=c:=by{omega};have hcx1:c<((A.ns.length+1:Nat):Int):=by{omega};have hcx2:c<(A.ns.length:Int)+1:=by{omega};rw[HCP.out]at d1;clear Fc HC HR HPK HNK HCP;by_cases t2:cp=p;(case neg=>have zp:(cp !=p)=true:=by{simp[t2]};have HE:Hid (G=5):=Xqh (by rw[HG.out,if_pos ⟨hc0,t2⟩]);clear t2 hc0;rcases t0 with rfl|rfl|rfl;all_goals go_wp2_with fail;refine(HCN.out _ HB1.out).mono ?_;rintro e w2⟨rfl,rfl⟩;go_wp2;go_ret;exact⟨by rw[HE.out];try rfl,HB1.out⟩);case pos=>subst t2;replace HG:=Xqh (HG.out.trans (if_neg (λq=>q.2 rfl)));clear hc0;rcases t0 with rfl|rfl|rfl;(case inl=>by_cases s1:nk=1;(case pos=>have HE:Hid (G=4):=Xqh (by rw[HG.out,if_pos s1]);have z1:(nk==1)=true:=by{simp[s1]};clear s1;go_wp2_with fail;refine(HCN.out _ HB1.out).mono ?_;rintro e w2⟨rfl,rfl⟩;go_wp2;go_ret;exact⟨by rw[HE.out];try rfl,HB1.out⟩);case neg=>replace HG:=Xqh (HG.out.trans (if_neg s1));have z1:(nk==1)=false:=by{simp[s1]};by_cases s5:nk=5;(case pos=>have HE:Hid (G=4):=Xqh (by rw[HG.out,if_pos (.inl ⟨rfl,s5⟩)]);subst s5;clear s1 z1;go_wp2_with fail;refine(HCN.out _ HB1.out).mono ?_;rintro e w2⟨rfl,rfl⟩;go_wp2;go_ret;exact⟨by rw[HE.out];try rfl,HB1.out⟩);case neg=>have z5:(nk==5)=false:=by{simp[s5]};replace HG:=Xqh (HG.out.trans (if_neg (λq=>by rcases q with h|h;exact s5 h.2;exact absurd rfl h.1)));by_cases s2:nk=2;(case pos=>subst s2;clear s1 s5 z1 z5;replace HG:Hid (G=if fb=true then 4 else 0):=Xqh (by rw[HG.out];by_cases q:fb=true;{rw[if_pos ⟨rfl,.inl ⟨rfl,q⟩⟩,if_pos q]};·rw[if_neg (λz=>by rcases z.2 with h|h|h;exact q h.2;exact absurd h.1 (by decide);exact absurd h.1 (by decide)),if_neg q]);by_cases f1:1<q4;(case pos=>have HE:Hid (G=4):=Xqh (by rw[HG.out,if_pos (HFB.out.2 (.inl f1))]);have y1:(1:Int)<(q4:Int):=by{omega};clear f1;go_wp2_with fail;refine(HCN.out _ HB1.out).mono ?_;rintro e w2⟨rfl,rfl⟩;go_wp2_with fail;refine(HM4.out _ HB1.out).mono ?_;rintro e w3⟨rfl,n3,rfl⟩;go_wp2;go_ret;exact⟨by rw[HE.out];try rfl,Below.drewN HB1.out _⟩);case neg=>by_cases f5:0<q5;(case pos=>have HE:Hid (G=4):=Xqh (by rw[HG.out,if_pos (HFB.out.2 (.inr (.inl f5)))]);have y1:¬(1:Int)<(q4:Int):=by{omega};have y5:(0:Int)<(q5:Int):=by{omega};clear f1 f5;go_wp2_with fail;refine(HCN.out _ HB1.out).mono ?_;rintro e w2⟨rfl,rfl⟩;go_wp2_with fail;refine(HM4.out _ HB1.out).mono ?_;rintro e w3⟨rfl,n3,rfl⟩;go_wp2_with fail;refine(HM5.out _ (Below.drewN HB1.out _)).mono ?_;rintro e w4⟨rfl,n4,rfl⟩;go_wp2;go_ret;exact⟨by rw[HE.out];try rfl,Below.drewN HB1.out _⟩);case neg=>by_cases f4:q4=1;(case pos=>subst f4;obtain rfl:q5=0:=by{omega};have HE:Hid (G=if eb=true then 4 else 0):=Xqh (by rw[HG.out];by_cases q:eb=true;{rw[if_pos q,if_pos (HFB.out.2 (.inr (.inr ⟨rfl,q⟩)))]};·rw[if_neg q,if_neg (λz=>by rcases HFB.out.1 z with h|h|h;exact f1 h;exact f5 h;exact q h.2)]);clear f1 f5;go_wp2_with fail;refine(HCN.out _ HB1.out).mono ?_;rintro e w2⟨rfl,rfl⟩;go_wp2_with fail;refine(HM4.out _ HB1.out).mono ?_;rintro e w3⟨rfl,n3,rfl⟩;go_wp2_with fail;refine(HM5.out _ (Below.drewN HB1.out _)).mono ?_;rintro e w4⟨rfl,n4,rfl⟩;go_wp2_with fail;refine(HEL.out _ (Below.drewN HB1.out _)).mono ?_;rintro e w5⟨rfl,n5,rfl⟩;cases eb;all_goals go_wp2;go_ret;exact⟨by rw[HE.out];try rfl,Below.drewN HB1.out _⟩);case neg=>obtain rfl:q4=0:=by{omega};obtain rfl:q5=0:=by{omega};have HE:Hid (G=0):=Xqh (by rw[HG.out,if_neg (λz=>by rcases HFB.out.1 z with h|h|h;exact f1 h;exact f5 h;exact f4 h.1)]);clear f1 f5 f4;go_wp2_with fail;refine(HCN.out _ HB1.out).mono ?_;rintro e w2⟨rfl,rfl⟩;go_wp2_with fail;refine(HM4.out _ HB1.out).mono ?_;rintro e w3⟨rfl,n3,rfl⟩;go_wp2_with fail;refine(HM5.out _ (Below.drewN HB1.out _)).mono ?_;rintro e w4⟨rfl,n4,rfl⟩;go_wp2;go_ret;exact⟨by rw[HE.out];try rfl,Below.drewN HB1.out _⟩);case neg=>have z2:(nk==2)=false:=by{simp[s2]};by_cases s4:nk=4;(case pos=>subst s4;clear s1 s5 s2 z1 z5 z2;have HE:Hid (G=if eb=true then 4 else 0):=Xqh (by rw[HG.out];by_cases q:eb=true;{rw[if_pos ⟨rfl,.inr (.inl ⟨rfl,q⟩)⟩,if_pos q]};·rw[if_neg (λz=>by rcases z.2 with h|h|h;exact absurd h.1 (by decide);exact q (h.2);exact absurd h.1 (by decide)),if_neg q]);go_wp2_with fail;refine(HCN.out _ HB1.out).mono ?_;rintro e w2⟨rfl,rfl⟩;go_wp2_with fail;refine(HEL.out _ HB1.out).mono ?_;rintro e w3⟨rfl,n3,rfl⟩;cases eb;all_goals go_wp2;go_ret;exact⟨by rw[HE.out];try rfl,Below.drewN HB1.out _⟩);case neg=>have z4:(nk==4)=false:=by{simp[s4]};by_cases s3:nk=3;(case pos=>subst s3;clear s1 s5 s2 s4 z1 z5 z2 z4;have HE:Hid (G=if db=true then 4 else 0):=Xqh (by rw[HG.out];by_cases q:db=true;{rw[if_pos ⟨rfl,.inr (.inr ⟨rfl,q⟩)⟩,if_pos q]};·rw[if_neg (λz=>by rcases z.2 with h|h|h;exact absurd h.1 (by decide);exact absurd h.1 (by decide);exact q (h.2)),if_neg q]);go_wp2_with fail;refine(HCN.out _ HB1.out).mono ?_;rintro e w2⟨rfl,rfl⟩;go_wp2_with fail;refine(HDT.out _ HB1.out).mono ?_;rintro e w3⟨rfl,n3,rfl⟩;cases db;all_goals go_wp2;go_ret;exact⟨by rw[HE.out];try rfl,Below.drewN HB1.out _⟩);case neg=>have z3:(nk==3)=false:=by{simp[s3]};have HE:Hid (G=0):=Xqh (by rw[HG.out,if_neg (λz=>by rcases z.2 with h|h|h;exact s2 h.1;exact s4 h.1;exact s3 h.1)]);clear s1 s5 s2 s4 s3;go_wp2_with fail;refine(HCN.out _ HB1.out).mono ?_;rintro e w2⟨rfl,rfl⟩;go_wp2;go_ret;exact⟨by rw[HE.out];try rfl,HB1.out⟩);(case inr.inl=>by_cases s1:nk=1;(case pos=>have HE:Hid (G=4):=Xqh (by rw[HG.out,if_pos s1]);have z1:(nk==1)=true:=by{simp[s1]};clear s1;go_wp2_with fail;refine(HCN.out _ HB1.out).mono ?_;rintro e w2⟨rfl,rfl⟩;go_wp2;go_ret;exact⟨by rw[HE.out];try rfl,HB1.out⟩);case neg=>replace HG:=Xqh (HG.out.trans (if_neg s1));have z1:(nk==1)=false:=by{simp[s1]};by_cases s3:nk=3;(case pos=>have HE:Hid (G=4):=Xqh (by rw[HG.out,if_pos (.inr ⟨by decide,s3⟩)]);subst s3;clear s1 z1;go_wp2_with fail;refine(HCN.out _ HB1.out).mono ?_;rintro e w2⟨rfl,rfl⟩;go_wp2;go_ret;exact⟨by rw[HE.out];try rfl,HB1.out⟩);case neg=>have z3:(nk==3)=false:=by{simp[s3]};have HE:Hid (G=0):=Xqh (by rw[HG.out,if_neg (λq=>by rcases q with h|h;exact absurd h.1 (by decide);exact s3 h.2),if_neg (λq=>absurd q.1 (by decide))]);clear s1 s3;go_wp2_with fail;refine(HCN.out _ HB1.out).mono ?_;rintro e w2⟨rfl,rfl⟩;by_cases s5:nk=5;(case pos=>subst s5;go_wp2;go_ret;exact⟨by rw[HE.out];try rfl,HB1.out⟩);case neg=>have z5:(nk==5)=false:=by{simp[s5]};clear s5;go_wp2;go_ret;exact⟨by rw[HE.out];try rfl,HB1.out⟩);case inr.inr=>by_cases s1:nk=1;(case pos=>have HE:Hid (G=4):=Xqh (by rw[HG.out,if_pos s1]);have z1:(nk==1)=true:=by{simp[s1]};clear s1;go_wp2_with fail;refine(HCN.out _ HB1.out).mono ?_;rintro e w2⟨rfl,rfl⟩;go_wp2;go_ret;exact⟨by rw[HE.out];try rfl,HB1.out⟩);case neg=>replace HG:=Xqh (HG.out.trans (if_neg s1));have z1:(nk==1)=false:=by{simp[s1]};by_cases s3:nk=3;(case pos=>have HE:Hid (G=4):=Xqh (by rw[HG.out,if_pos (.inr ⟨by decide,s3⟩)]);subst s3;clear s1 z1;go_wp2_with fail;refine(HCN.out _ HB1.out).mono ?_;rintro e w2⟨rfl,rfl⟩;go_wp2;go_ret;exact⟨by rw[HE.out];try rfl,HB1.out⟩);case neg=>have z3:(nk==3)=false:=by{simp[s3]};have HE:Hid (G=0):=Xqh (by rw[HG.out,if_neg (λq=>by rcases q with h|h;exact absurd h.1 (by decide);exact s3 h.2),if_neg (λq=>absurd q.1 (by decide))]);clear s1 s3;go_wp2_with fail;refine(HCN.out _ HB1.out).mono ?_;rintro e w2⟨rfl,rfl⟩;by_cases s5:nk=5;(case pos=>subst s5;go_wp2;go_ret;exact⟨by rw[HE.out];try rfl,HB1.out⟩);case neg=>have z5:(nk==5)=false:=by{simp[s5]};clear s5;go_wp2;go_ret;exact⟨by rw[HE.out];try rfl,HB1.out⟩
end
end Go.Proofs.YtpicinjcmjaogaaGreat
