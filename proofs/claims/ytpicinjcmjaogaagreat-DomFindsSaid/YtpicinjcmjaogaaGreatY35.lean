import Derived.BigQuiet
import Derived.Maps.AppendAt
import Derived.Deep.CutRange
import Derived.Test.YtpicinjcmjaogaaGreatY33
import Derived.Test.YtpicinjcmjaogaaGreatY34
set_option maxRecDepth 100000
set_option maxHeartbeats 4000000
set_option linter.unusedVariables false
namespace Go.Proofs.YtpicinjcmjaogaaGreat
variable{w0 w w':World}{B b o n c m:Nat}{A:Ar}{l:List Int}{el s k:Int}{L:List Xf}{name:ByteArray}{v:Value}{ρ:Nat->Nat}
section
open Go.RowKit Go.Shelf
theorem Own.Xbz {A':Ar}{l:List Xf}(h:Own w0 B (.refar b A::l) w)(hc:∀ρ,Xx w ρ b A->∃ρ',Xx w' ρ' b A'/\Xr ρ ρ' w w'):Own w0 B (.refar b A'::l) w':=by
 obtain⟨S,⟨ρ,hA,hS⟩,hf⟩:=h.front
 obtain⟨ρ',hA',hT⟩:=hc ρ hA
 exact hf w' _ ⟨λk=>ρ' k≠0,⟨ρ',hA',λ_=>Iff.rfl⟩,hT.upd.mono (λk _ hk=>(hS k).2 hk),λk hk hp=>(hS k).2 (by rw[<-hT.role k hk];exact hp)⟩
theorem Own.Y9 {l:List Xf}(o:Own w0 B l w)(hm:Xf.refar b A∈l):∃nb c,w.cell? ⟨b,0,none⟩=some (.slice (some ⟨nb,0,none⟩) (A.ns.length+1) c)/\(A.ns.length:Int)+1<=9223372036854775807/\A.ns.length+1<=c/\nb≠b/\nb<w.heap.size/\(∀j,w.frozen? ⟨nb,j,none⟩=false)/\(∀h W,W.cell? ⟨b,0,none⟩=some (.slice (some ⟨nb,0,none⟩) (A.ns.length+1) c)->Calls Tryz.prog 64 #[.pointer (some ⟨b,0,none⟩),.int .i64 h] W λe w'=>e= .returned (.bool (decide (A.has h)))/\W=w')/\∀x,A.has x->1<=x/\x<=A.ns.length/\∃ka kc aa ac,YB w nb (x.toNat*13) (A.get x) (.slice ka (A.get x).Xc.length kc) (.slice aa (A.get x).Xb.length ac)/\Xy w (.slice ka (A.get x).Xc.length kc) (A.get x).Xc/\XE w (.slice aa (A.get x).Xb.length ac) (A.get x).Xb/\w.ownsRow 0 132 3 (.slice aa (A.get x).Xb.length ac) (A.get x).Xb.length ((A.get x).Xb.flatMap Xv):=by
 obtain⟨ρ,hA⟩:=o.refar hm
 obtain⟨nb,c,h0,h1,h2,h3,h4,h5,h6⟩:=hA.look
 refine⟨nb,c,h0,h1,h2,λe=>by have:=hA.2.1;rw[<-e]at this;omega,hA.1 nb (by omega),h3,h5,λx hx=>?_⟩
 obtain⟨p1,p2,kv,av,F,hK,hAt⟩:=h6 x hx
 obtain⟨ka,kc,rfl,-⟩:=(show Xy w kv (A.get x).Xc from hK.reads).form
 obtain⟨aa,ac,rfl,-⟩:=(show XE w av (A.get x).Xb from hAt.reads).form
 exact⟨p1,p2,ka,kc,aa,ac,F,hK.reads,hAt.reads,hAt.1⟩
theorem XiO {l:List Xf}(o:Own w0 B l w)(hm:Xf.refar b A∈l):Calls Tryz.prog 111 #[.pointer (some ⟨b,0,none⟩),.int .i64 el,.int .i64 s] w λe w'=>e= .returned (.int .i64 (A.Yo el s))/\w=w':=by
 obtain⟨nb,c,h0,h1,h2,h3,h4,h5,h6,h7⟩:=o.Y9 hm
 have HH:=Xqh h6
 have HI:=Xqh (λW=>Xdc s W)
 clear o hm h6 h5 h3 h4
 by_cases hh:A.has el
 ·have hd:decide (A.has el)=true:=decide_eq_true hh;obtain⟨p1,p2,ka,kc,aa,ac,F,-,-,-⟩:=h7 el hh;have c0:=F.c0;by_cases hk:(A.get el).Xa=4;{have HE:Hid (A.Yo el s=if XS s then 0 else 2):=Xqh (by unfold Ar.Yo;rw[if_neg (λq=>q hh),if_neg (λq=>q hk)];by_cases q:XS s;{rw[if_pos q,if_neg (λz=>z q)]};·rw[if_neg q,if_pos q]);rw[hk]at c0;clear F h7 hh hk;by_cases hs:XS s;{have hd2:decide (XS s)=true:=decide_eq_true hs;have HE:=Xqh (HE.out.trans (if_pos hs));clear hs;go_enter Tryz.func111,Tryz.ntmps111;go_wp2_with fail;refine(HH.out _ _ h0).mono ?_;rintro e w'⟨rfl,rfl⟩;rw[hd];go_wp2_with fail;refine(HI.out _).mono ?_;rintro e w'⟨rfl,rfl⟩;rw[hd2];go_wp2;go_ret;exact⟨by rw[HE.out];try rfl,rfl⟩};·have hd2:decide (XS s)=false:=decide_eq_false hs;have HE:=Xqh (HE.out.trans (if_neg hs));clear hs;go_enter Tryz.func111,Tryz.ntmps111;go_wp2_with fail;refine(HH.out _ _ h0).mono ?_;rintro e w'⟨rfl,rfl⟩;rw[hd];go_wp2_with fail;refine(HI.out _).mono ?_;rintro e w'⟨rfl,rfl⟩;rw[hd2];go_wp2;go_ret;exact⟨by rw[HE.out];try rfl,rfl⟩};·have HE:Hid (A.Yo el s=9):=Xqh (by unfold Ar.Yo;rw[if_neg (λq=>q hh),if_pos hk]);have e1:((A.get el).Xa !=4)=true:=by{simp[hk]};clear F h7 hh hk;generalize A.get el=n at*;go_enter Tryz.func111,Tryz.ntmps111;go_wp2_with fail;refine(HH.out _ _ h0).mono ?_;rintro e w'⟨rfl,rfl⟩;rw[hd];go_wp2;go_ret;exact⟨by rw[HE.out];try rfl,rfl⟩
 ·have hd:decide (A.has el)=false:=decide_eq_false hh;have HE:Hid (A.Yo el s=3):=Xqh (by unfold Ar.Yo;rw[if_pos hh]);clear h7 hh;go_enter Tryz.func111,Tryz.ntmps111;go_wp2_with fail;refine(HH.out _ _ h0).mono ?_;rintro e w'⟨rfl,rfl⟩;rw[hd];go_wp2;go_ret;exact⟨by rw[HE.out];try rfl,rfl⟩
theorem XfJ {nm:ByteArray}{L:List Xm}{k:Nat}{x:Xm}(hx:L[k]?=some x)(hT:∀(j:Nat)y,j<k->L[j]?=some y->YW s nm y=false):(YW s nm x=true->Yt (YW s nm) L=k)/\(YW s nm x=false->∀(j:Nat)y,j<k+1->L[j]?=some y->YW s nm y=false):=by
 refine⟨λq=>Xbc hx q hT,λq j y h1 h2=>?_⟩
 by_cases hj:j<k
 ·exact hT j y hj h2
 ·rw[show j=k by(omega),hx]at h2;simp at h2;rw[<-h2];exact q
theorem XfK (s:Int)(nm:ByteArray)(x:Xm):YW s nm x=((x.1==s)&&(x.2.1.toList==nm.toList)):=by
 unfold YW
 rw[Xa7,Bool.eq_iff_iff]
 simp
theorem XiP {l:List Xf}(o:Own w0 B l w)(hm:Xf.refar b A∈l)(hS:A.YC)(hh:A.has el)(hs:name.size<=1000000):Calls Tryz.prog 113 #[.pointer (some ⟨b,0,none⟩),.int .i64 el,.int .i64 s,.string name] w λe w'=>e= .returned (.tuple #[.int .i64 (A.Y6 el s name),.string (A.Zh el s name)])/\Below w.heap.size w w':=by
 obtain⟨nb,c,h0,h1,h2,h3,h4,h5,h6,h7⟩:=o.Y9 hm
 obtain⟨p1,p2,ka,kc,aa,ac,F,hK,hAt,-⟩:=h7 el hh
 have hlen:=(hS.get hh).2
 have HW:=Xqh hAt
 have HBX:=Xqh (XkL w (A.get el) (.slice ka (A.get el).Xc.length kc) (.slice aa (A.get el).Xb.length ac))
 have HT:=Xqh (XV (w:=w) (A.get el) ka kc aa ac (A.get el).Xc.length (A.get el).Xb.length)
 have c0:=F.c0
 have c1:=F.c1
 have c2:=F.c2
 have c3:=F.c3
 have c4:=F.c4
 have c5:=F.c5
 have c6:=F.c6
 have c7:=F.c7
 have c8:=F.c8
 have c9:=F.c9
 have c10:=F.c10
 have c11:=F.c11
 have c12:=F.c12
 have HLO:=Xqh (λW=>XiB name W hs)
 have HAT:Hid (A.Y6 el s name=Yt (YW s (A.Zh el s name)) (A.get el).Xb):=Xqh rfl
 have HNM:Hid (A.Zh el s name=if(A.get el).space=1/\s=0 then ZM name else name):=Xqh rfl
 clear o hm hS h1 h3 h4 h5 h6 h7 hh hK hAt F
 generalize A.Y6 el s name=at' at*
 generalize A.Zh el s name=nm at*
 generalize A.get el=n at*
 obtain⟨ab,ao,haa⟩:∃ab ao,0<n.Xb.length->aa=some ⟨ab,ao,none⟩:=by by_cases hp:0<n.Xb.length;{obtain⟨a,c,e,-,-,hc⟩:=HW.out.form;simp only[Value.slice.injEq]at e;obtain⟨rfl,-,-⟩:=e;obtain⟨b',o',e',-⟩:=hc hp;exact⟨b',o',λ_=>e'⟩};·exact⟨0,0,λq=>absurd q hp⟩
 have HAA:=Xqh haa
 clear haa
 by_cases hsp:n.space=1/\s=0
 ·obtain⟨q1,q2⟩:=hsp;have HN2:=Xqh (HNM.out.trans (if_pos ⟨q1,q2⟩));have f1:(n.space==1)=true:=by{simp[q1]};have f2:(s==0)=true:=by{simp[q2]};clear HNM q1 q2;go_enter Tryz.func113,Tryz.ntmps113;go_wp2_with((with_reducible refine wpList_store_mid ?_ 46 (.tmp 10) (.tmp 18) ?_ w.heap.size 0 (n.cells (.slice ka n.Xc.length kc) (.slice aa n.Xb.length ac)).toArray ?_ ?_ ?_ ?_ ?_ ?_);exact rfl;exact rfl;exact rfl;exact rfl;exact HT.out.1;exact XM _ _ _;exact all_oneCell_toArray HT.out.2;generalize hWW:World.setCells _ _ _ _=W at HBX⊢;clear hWW c0 c1 c2 c3 c4 c5 c6 c7 c8 c9 c10 c11 c12 HT;have d4:=(show YB W w.heap.size 0 n _ _ from HBX.out.1).c4;simp only[Nat.zero_add]at d4);have d4:=(show YB W w.heap.size 0 n _ _ from HBX.out.1).c4;simp only[Nat.zero_add]at d4;refine(HLO.out _).mono ?_;rintro e w2⟨rfl,hB2⟩;rw[<-HN2.out];have HB2:=Xqh (HBX.out.2.trans (hB2.mono HBX.out.2.size));have HBW:=Xqh hB2;have d6:=Below.old hB2 ((show YB W w.heap.size 0 n _ _ from HBX.out.1).c6);simp only[Nat.zero_add]at d6;clear hB2 d4;go_wp2;go_loop [11](λi=>∃k:Nat,k<=n.Xb.length/\i= .int .i64 k/\Hid (∀(j:Nat)y,j<k->n.Xb[j]?=some y->YW s nm y=false))(λi=>n.Xb.length-(intOf i).toNat);(case atStart=>exact⟨0,Nat.zero_le _,rfl,Xqh (λj y h=>by omega)⟩);case round=>obtain⟨k,hk,rfl,hT⟩:=hrel;by_cases hlt:k<n.Xb.length;{obtain⟨x,hx⟩:∃x,n.Xb[k]?=some x:=⟨_,List.getElem?_eq_getElem hlt⟩;have haa:=HAA.out (by omega);subst haa;obtain⟨b',o',e',-,hcs⟩:=(HW.out.cells (by omega));simp only[Option.some.injEq,Addr.mk.injEq,and_true]at e';obtain⟨rfl,rfl⟩:=e';obtain⟨x1,x2,-⟩:=hcs k x hx;have x1:=Below.old HB2.out x1;have x2:=Below.old HB2.out x2;have HFF:=Xqh (XfJ hx hT.out);have HEQ:=Xqh (XfK s nm x);clear hcs hx;cases z1:(x.1==s)with|true=>{cases z2:(x.2.1.toList==nm.toList)with|true=>{have HR:=Xqh (HAT.out.trans (HFF.out.1 (by rw[HEQ.out,z1,z2];rfl)));go_wp2;go_ret2;exact⟨by rw[HR.out];try rfl,HB2.out⟩}|false=>have HR:=Xqh (HFF.out.2 (by rw[HEQ.out,z1,z2];rfl));go_wp2;go_round;(case rel=>exact⟨k+1,hlt,by go_num,HR⟩);case measure=>simp[intOf];omega}|false=>have HR:=Xqh (HFF.out.2 (by rw[HEQ.out,z1];rfl));go_wp2;go_round;(case rel=>exact⟨k+1,hlt,by go_num,HR⟩);case measure=>simp[intOf];omega};·have HR:=Xqh (HAT.out.trans (JT (λj y hj=>hT.out j y (by have:=(List.getElem?_eq_some_iff.1 hj).1;omega) hj)));clear hT;go_wp2;go_ret2;exact⟨by rw[HR.out];try rfl,HB2.out⟩
 ·have HN2:=Xqh (HNM.out.trans (if_neg hsp));by_cases q1:n.space=1;{have f1:(n.space==1)=true:=by{simp[q1]};have f2:(s==0)=false:=by{simp;exact λq=>hsp ⟨q1,q⟩};clear HNM q1 hsp;go_enter Tryz.func113,Tryz.ntmps113;go_wp2_with((with_reducible refine wpList_store_mid ?_ 46 (.tmp 10) (.tmp 18) ?_ w.heap.size 0 (n.cells (.slice ka n.Xc.length kc) (.slice aa n.Xb.length ac)).toArray ?_ ?_ ?_ ?_ ?_ ?_);exact rfl;exact rfl;exact rfl;exact rfl;exact HT.out.1;exact XM _ _ _;exact all_oneCell_toArray HT.out.2;generalize hWW:World.setCells _ _ _ _=W at HBX⊢;clear hWW c0 c1 c2 c3 c4 c5 c6 c7 c8 c9 c10 c11 c12 HT;have d4:=(show YB W w.heap.size 0 n _ _ from HBX.out.1).c4;simp only[Nat.zero_add]at d4);have d4:=(show YB W w.heap.size 0 n _ _ from HBX.out.1).c4;have d6:=(show YB W w.heap.size 0 n _ _ from HBX.out.1).c6;simp only[Nat.zero_add]at d4 d6;have HB2:=Xqh HBX.out.2;rw[<-HN2.out];have HBW:=Xqh (Below.refl W.heap.size W);go_wp2;go_loop [11](λi=>∃k:Nat,k<=n.Xb.length/\i= .int .i64 k/\Hid (∀(j:Nat)y,j<k->n.Xb[j]?=some y->YW s nm y=false))(λi=>n.Xb.length-(intOf i).toNat);(case atStart=>exact⟨0,Nat.zero_le _,rfl,Xqh (λj y h=>by omega)⟩);case round=>obtain⟨k,hk,rfl,hT⟩:=hrel;by_cases hlt:k<n.Xb.length;{obtain⟨x,hx⟩:∃x,n.Xb[k]?=some x:=⟨_,List.getElem?_eq_getElem hlt⟩;have haa:=HAA.out (by omega);subst haa;obtain⟨b',o',e',-,hcs⟩:=(HW.out.cells (by omega));simp only[Option.some.injEq,Addr.mk.injEq,and_true]at e';obtain⟨rfl,rfl⟩:=e';obtain⟨x1,x2,-⟩:=hcs k x hx;have x1:=Below.old HB2.out x1;have x2:=Below.old HB2.out x2;have HFF:=Xqh (XfJ hx hT.out);have HEQ:=Xqh (XfK s nm x);clear hcs hx;cases z1:(x.1==s)with|true=>{cases z2:(x.2.1.toList==nm.toList)with|true=>{have HR:=Xqh (HAT.out.trans (HFF.out.1 (by rw[HEQ.out,z1,z2];rfl)));go_wp2;go_ret2;exact⟨by rw[HR.out];try rfl,HB2.out⟩}|false=>have HR:=Xqh (HFF.out.2 (by rw[HEQ.out,z1,z2];rfl));go_wp2;go_round;(case rel=>exact⟨k+1,hlt,by go_num,HR⟩);case measure=>simp[intOf];omega}|false=>have HR:=Xqh (HFF.out.2 (by rw[HEQ.out,z1];rfl));go_wp2;go_round;(case rel=>exact⟨k+1,hlt,by go_num,HR⟩);case measure=>simp[intOf];omega};·have HR:=Xqh (HAT.out.trans (JT (λj y hj=>hT.out j y (by have:=(List.getElem?_eq_some_iff.1 hj).1;omega) hj)));clear hT;go_wp2;go_ret2;exact⟨by rw[HR.out];try rfl,HB2.out⟩};·have f1:(n.space==1)=false:=by{simp[q1]};clear HNM q1 hsp;go_enter Tryz.func113,Tryz.ntmps113;go_wp2_with((with_reducible refine wpList_store_mid ?_ 46 (.tmp 10) (.tmp 18) ?_ w.heap.size 0 (n.cells (.slice ka n.Xc.length kc) (.slice aa n.Xb.length ac)).toArray ?_ ?_ ?_ ?_ ?_ ?_);exact rfl;exact rfl;exact rfl;exact rfl;exact HT.out.1;exact XM _ _ _;exact all_oneCell_toArray HT.out.2;generalize hWW:World.setCells _ _ _ _=W at HBX⊢;clear hWW c0 c1 c2 c3 c4 c5 c6 c7 c8 c9 c10 c11 c12 HT;have d4:=(show YB W w.heap.size 0 n _ _ from HBX.out.1).c4;simp only[Nat.zero_add]at d4);have d4:=(show YB W w.heap.size 0 n _ _ from HBX.out.1).c4;have d6:=(show YB W w.heap.size 0 n _ _ from HBX.out.1).c6;simp only[Nat.zero_add]at d4 d6;have HB2:=Xqh HBX.out.2;rw[<-HN2.out];have HBW:=Xqh (Below.refl W.heap.size W);go_wp2;go_loop [11](λi=>∃k:Nat,k<=n.Xb.length/\i= .int .i64 k/\Hid (∀(j:Nat)y,j<k->n.Xb[j]?=some y->YW s nm y=false))(λi=>n.Xb.length-(intOf i).toNat);(case atStart=>exact⟨0,Nat.zero_le _,rfl,Xqh (λj y h=>by omega)⟩);case round=>obtain⟨k,hk,rfl,hT⟩:=hrel;by_cases hlt:k<n.Xb.length;{obtain⟨x,hx⟩:∃x,n.Xb[k]?=some x:=⟨_,List.getElem?_eq_getElem hlt⟩;have haa:=HAA.out (by omega);subst haa;obtain⟨b',o',e',-,hcs⟩:=(HW.out.cells (by omega));simp only[Option.some.injEq,Addr.mk.injEq,and_true]at e';obtain⟨rfl,rfl⟩:=e';obtain⟨x1,x2,-⟩:=hcs k x hx;have x1:=Below.old HB2.out x1;have x2:=Below.old HB2.out x2;have HFF:=Xqh (XfJ hx hT.out);have HEQ:=Xqh (XfK s nm x);clear hcs hx;cases z1:(x.1==s)with|true=>{cases z2:(x.2.1.toList==nm.toList)with|true=>{have HR:=Xqh (HAT.out.trans (HFF.out.1 (by rw[HEQ.out,z1,z2];rfl)));go_wp2;go_ret2;exact⟨by rw[HR.out];try rfl,HB2.out⟩}|false=>have HR:=Xqh (HFF.out.2 (by rw[HEQ.out,z1,z2];rfl));go_wp2;go_round;(case rel=>exact⟨k+1,hlt,by go_num,HR⟩);case measure=>simp[intOf];omega}|false=>have HR:=Xqh (HFF.out.2 (by rw[HEQ.out,z1];rfl));go_wp2;go_round;(case rel=>exact⟨k+1,hlt,by go_num,HR⟩);case measure=>simp[intOf];omega};·have HR:=Xqh (HAT.out.trans (JT (λj y hj=>hT.out j y (by have:=(List.getElem?_eq_some_iff.1 hj).1;omega) hj)));clear hT;go_wp2;go_ret2;exact⟨by rw[HR.out];try rfl,HB2.out⟩
end
section
open Go.RowKit Go.Shelf
theorem XdE {base:Nat}{row:Option Nat}(hg:w.grownBy w' row)(hr:∀k,row=some k->base<=k)(hb:base<=w.heap.size):Below base w w':=by
 have u:Upd (λk=>base<=k) w w':=Upd.grown hg hr
 exact⟨u.os,u.tape,u.output,u.size,λk hk=>u.block k (by omega) (by omega)⟩
theorem XiQ (h:w.cell? ⟨b,o,none⟩=some v):b<w.heap.size:=by
 refine Classical.not_not.1 (λq=>?_)
 unfold World.cell? at h
 rw[Array.getElem?_eq_none (show w.heap.size<=b by omega)]at h
 simp at h
theorem XnZ {d:Int}(o:Own w0 B (.refar b A::L) w)(hsz:A.ns.length+3<=1000000)(hs:name.size<=1000000):Calls Tryz.prog 25 #[.pointer (some ⟨b,0,none⟩),.int .i64 d,.string name] w λe w'=>e= .returned (Xl (A.Y0 d name).1)/\Own w0 B (.refar b (A.Y0 d name).2::L) w':=by
 obtain⟨ρ,hA⟩:=o.refar (b:=b) (A:=A) (by simp)
 have HOD:=Xqh (Xb9 A ρ b d w hA)
 have HV:=Xqh (λW=>XnG name W hs)
 have HL:=Xqh (λW=>XiB name W hs)
 have HE:=Xqh (fun(W:World)(q:Own w0 B (.refar b A::L) W)=>q.Jh (λρ hA=>Xe8 A ρ b d 1 (ZM name) (.slice none 0 0) [] W hA (XgC W) hsz (by simp)))
 have HF:Hid (A.Y0 d name=if A.XA d≠0 then((0,A.XA d),A)else if Y5 name.toList=false then((0,8),A)else A.element d 1 (ZM name) []):=Xqh rfl
 have HO:=Xqh o
 clear o hA hsz
 generalize A.Y0 d name=G at*
 generalize A.element d 1 (ZM name) []=H at*
 generalize A.XA d=od at*
 unfold Xl at*
 by_cases h0:od=0
 ·subst h0;have HF:=Xqh (HF.out.trans (if_neg (λq=>q rfl)));cases hv:Y5 name.toList with|true=>{rw[hv]at HV HF;have HF:=Xqh (HF.out.trans (if_neg (by decide)));clear hv;go_enter Tryz.func25,Tryz.ntmps25;go_wp2_with fail;refine HOD.out.mono ?_;rintro e w1⟨rfl,rfl⟩;go_wp2_with fail;refine(HV.out _).mono ?_;rintro e w1⟨rfl,rfl⟩;go_wp2_with fail;refine(HL.out _).mono ?_;rintro e w1⟨rfl,hB1⟩;have HC:=Xqh (HE.out _ (HO.out.read hB1));clear hB1 HE HO;go_wp2_with fail;refine HC.out.mono ?_;rintro e w2⟨rfl,o2⟩;have HO2:=Xqh o2;clear o2 HC;go_wp2;go_ret2;rw[HF.out];exact⟨rfl,HO2.out⟩}|false=>rw[hv]at HV HF;have HF:=Xqh (HF.out.trans (if_pos rfl));clear hv HE;go_enter Tryz.func25,Tryz.ntmps25;go_wp2_with fail;refine HOD.out.mono ?_;rintro e w1⟨rfl,rfl⟩;go_wp2_with fail;refine(HV.out _).mono ?_;rintro e w1⟨rfl,rfl⟩;go_wp2;go_ret2;rw[HF.out];exact⟨rfl,HO.out⟩
 ·have HF:=Xqh (HF.out.trans (if_pos h0));have e1:(od !=0)=true:=by{simp[h0]};clear h0 HE HV HL;go_enter Tryz.func25,Tryz.ntmps25;go_wp2_with fail;refine HOD.out.mono ?_;rintro e w1⟨rfl,rfl⟩;go_wp2;go_ret2;rw[HF.out];exact⟨rfl,HO.out⟩
theorem Xn0 {val:ByteArray}(o:Own w0 B (.refar b A::L) w)(hI:A.Inv)(hsz:A.ns.length<=1000000)(hs:name.size<=1000000):Calls Tryz.prog 30 #[.pointer (some ⟨b,0,none⟩),.int .i64 el,.int .i64 s,.string name,.string val] w λe w'=>e= .returned (.int .i64 (A.YO el s name val).1)/\Own w0 B (.refar b (A.YO el s name val).2::L) w':=by
 have hS:=hI.short hsz
 obtain⟨i0,hi,hz0,hz1,hz2⟩:=info_parts Xae
 have HII:=Xqh hi
 clear hi
 have HE:=Xqh (XiO (el:=el) (s:=s) o (b:=b) (A:=A) (by simp))
 have HV:=Xqh (λW=>XnD name W hs)
 by_cases he:A.Yo el s=0
 case neg=>have HF:Hid (A.YO el s name val=(A.Yo el s,A)):=Xqh (by unfold Ar.YO;rw[if_pos he]);have e1:(A.Yo el s !=0)=true:=by{simp[he]};have HO:=Xqh o;clear o hI he hS;generalize A.YO el s name val=G at*;generalize A.Yo el s=er at*;go_enter Tryz.func30,Tryz.ntmps30;go_wp2_with fail;refine HE.out.mono ?_;rintro e w1⟨rfl,rfl⟩;go_wp2;go_ret;rw[HF.out];exact⟨rfl,HO.out⟩
 case pos=>obtain⟨hh,hk4,hsp⟩:=Xb4 he;have hln:=(hS.get hh).2;rw[he]at HE;cases hv:Jl name.toList with|false=>{have HF:Hid (A.YO el s name val=(8,A)):=Xqh (by unfold Ar.YO;rw[if_neg (λq=>q he),if_pos hv]);rw[hv]at HV;have HO:=Xqh o;clear o hI he hS hv;generalize A.YO el s name val=G at*;go_enter Tryz.func30,Tryz.ntmps30;go_wp2_with fail;refine HE.out.mono ?_;rintro e w1⟨rfl,rfl⟩;go_wp2_with fail;refine(HV.out _).mono ?_;rintro e w1⟨rfl,rfl⟩;go_wp2;go_ret;rw[HF.out];exact⟨rfl,HO.out⟩}|true=>have HF:=Xqh (Xkw hI (name:=name) (val:=val) he hv);have HFI:=Xqh (XiP (el:=el) (s:=s) (name:=name) o (b:=b) (A:=A) (by simp) hS hh hs);have HAW:Hid (A.JP el s name val=if A.Y6 el s name<0 then(A.get el).Xb++ [(s,A.Zh el s name,val)]else(A.get el).Xb.modify (A.Y6 el s name).toNat (λx=>(x.1,x.2.1,val))):=Xqh rfl;have HAT:=Xqh (Xdu (YW s (A.Zh el s name)) (A.get el).Xb);have hat:A.Y6 el s name=Yt (YW s (A.Zh el s name)) (A.get el).Xb:=rfl;rw[<-hat]at HAT;clear hat;rw[hv]at HV;have HO:=Xqh o;have HH:=Xqh hh;clear o hI he hS hv hh hk4 hsp;generalize hR:A.YO el s name val=G at*;generalize A.Zh el s name=nm at*;generalize hat:A.Y6 el s name=at' at*;clear hR hat;go_enter Tryz.func30,Tryz.ntmps30;go_wp2_with fail;refine HE.out.mono ?_;rintro e w1⟨rfl,rfl⟩;go_wp2_with fail;refine(HV.out _).mono ?_;rintro e w1⟨rfl,rfl⟩;go_wp2_with fail;refine HFI.out.mono ?_;rintro e w1⟨rfl,hB1⟩;have o1:=HO.out.read hB1;clear hB1 HFI HE HV HO;obtain⟨nb,c,h0,h1,h2,h3,h4,h5,-,h7⟩:=o1.Y9 (b:=b) (A:=A) (by simp);obtain⟨p1,p2,ka,kc,aa,ac,F,-,-,hrow⟩:=h7 el HH.out;have c6:=F.c6;have HB6:=Xqh (fun(W:World)(hB:Below w1.heap.size w1 W)=>And.intro (Below.old hB h0) (And.intro (Below.old hB c6) ((Below.frozen hB (p:=⟨nb,el.toNat*13+6,none⟩) h4).trans (h5 _))));have HST:Hid (∀(W:World)(v:Value)(l':List Xm),Below w1.heap.size w1 W->W.ownsRow w1.heap.size 132 3 v l'.length (l'.flatMap Xv)->Own w0 B (.refar b (A.mod el (λn=>{n with Xb:=l'}))::L) (W.setCell ⟨nb,el.toNat*13+6,none⟩ v)):=Xqh (λW v l' hB ho=>o1.Xbz (λρ hA=>hA.Xe6 HH.out h0 hB ho));have HROW:=Xqh hrow;have hx0:(0:Int)<=el:=by{omega};have hx1:el<((A.ns.length+1:Nat):Int):=by{omega};have hx2:el<(A.ns.length:Int)+1:=by{omega};have hnl:nb<w1.heap.size:=h4;have hbl:b<w1.heap.size:=XiQ h0;clear F h1 h3 h4 h5 h7 hrow o1 HH;generalize hal:(A.get el).Xb=al at*;clear hal;go_wp2_with(at_builtin;refine Xcb _ rfl _ _ 44 rfl w1.heap.size 132 i0 _ 3 40 Tryz.underlying44 HII.out hz0 hz1 hz2 rfl (by decide) _ _ _ rfl rfl HROW.out (λu hu=>by obtain⟨a,-,ha⟩:=List.mem_flatMap.1 hu;simp[Xv]at ha;rcases ha with rfl|rfl|rfl<;>rfl) hln (by decide) (Nat.le_refl _) ?_);intro v2 w2 hown hgrow;have hB2:Below w1.heap.size w1 w2:=XdE hgrow (λk hk=>by simp at hk) (Nat.le_refl _);obtain⟨va2,vc2,rfl⟩:=X6 hown;clear hgrow;rcases HAT.out with hi|⟨k,x,hi,hx,-⟩;{subst hi;have HAW:=Xqh (HAW.out.trans (if_pos (by decide)));have HR:=Xqh hown;have HBB:=Xqh hB2;have hbw:w1.heap.size<=w2.heap.size:=hB2.size;clear hown hB2 HAT;go_wp2_with(at_builtin;refine wpList_append_own_at _ rfl _ _ 44 rfl w1.heap.size 132 i0 _ 3 40 Tryz.underlying44 HII.out hz0 hz1 hz2 rfl (by decide) _ _ _ rfl (HR.out.alloc _) ⟨w2.heap.size,0,none⟩ 1 1 (Xv (s,nm,val)) rfl rfl ?c1 ?c2 ?c3 ?c4 ?c5 ?_);(case c1=>intro j u hj;rw[Addr.add_mid,Nat.zero_add];exact Yi rfl (by simpa[Xv]using hj));(case c2=>intro u hu;simp[Xv]at hu;rcases hu with rfl|rfl|rfl<;>rfl);(case c3=>unfold maxLen;omega);(case c4=>omega);(case c5=>first|(simp;done)|(simp;omega));intro v4 w4 hown4 hgrow4 _ hat4;have hB4:Below w1.heap.size w1 w4:=(HBB.out.trans ((Xw w2 _).mono hbw)).trans (XdE hgrow4 (λk hk=>(Yx HR.out k hk).1) (by simp;omega));have e1:(al++ [(s,nm,val)]).length=al.length+1:=by{simp};have e2:(al++ [(s,nm,val)]).flatMap Xv=al.flatMap Xv++Xv (s,nm,val):=by{simp};rw[<-e1,<-e2,<-HAW.out]at hown4;have HW5:=Xqh (HST.out _ _ _ hB4 hown4);obtain⟨va4,vc4,hv4⟩:=X6 hown4;subst hv4;obtain⟨g0,g6,gf⟩:=HB6.out _ hB4;clear hB4 hown4 hgrow4 hat4 HST HB6 HR HBB e1 e2 h0 c6;go_wp2;go_ret;rw[HF.out];exact⟨rfl,HW5.out⟩};·subst hi;have hk:=(List.getElem?_eq_some_iff.1 hx).1;have HAW:=Xqh (HAW.out.trans (if_neg (by omega)));rw[Int.toNat_natCast]at HAW;obtain⟨g,cap,hsl,hgl,-⟩:=World.ownsRow.form hown (by omega);have hea:va2=some ⟨g,0,none⟩/\vc2=cap:=by{injection hsl with h1 h2 h3;exact⟨h1,h3⟩};obtain⟨rfl,rfl⟩:=hea;obtain⟨cur,hcur,hcs⟩:=Xdv hown;have hcell:∃u,w2.cell? ⟨g,k*3+2,none⟩=some u:=by{rw[cell_of_row w2 _ _ _ _ _ hcur];exact⟨_,Array.getElem?_eq_getElem (by omega)⟩};obtain⟨u,d2⟩:=hcell;have f2:w2.frozen? ⟨g,k*3+2,none⟩=false:=frozen_of_row w2 _ _ _ _ hcur;have hset:=XbI hown (k*3+2) (.string val);rw[Xh2]at hset;have hgb:=(Yx hown g rfl).1;have hB3:Below w1.heap.size w1 (w2.setCell ⟨g,k*3+2,none⟩ (.string val)):=hB2.setCell (by exact hgb) _;have e1:al.length=(al.modify k (λx=>(x.1,x.2.1,val))).length:=by{simp};have hset2:=hset;rw[e1,<-HAW.out]at hset2;have HW5:=Xqh (HST.out _ _ _ hB3 hset2);rw[HAW.out,<-e1]at HW5;have hk1:(k:Int)<(al.length:Int):=by{omega};have hk2:(al.length:Int)<=1000000:=by{omega};have G0:=Xqh (HB6.out _ hB3);clear hB2 hB3 hset hset2 HST HB6 hcur hcs hx HAT hgl hsl hown e1 h0 c6 hgb hnl hbl;go_upto_region 11 with fail;obtain⟨g0,g6,gf⟩:=G0.out;go_wp2;go_ret;rw[HF.out,HAW.out];exact⟨rfl,HW5.out⟩
end
section
open Go.RowKit Go.Shelf
theorem Xn1 (h:l.length<=n):A.Yn (l.take n) k=A.Yn l k:=by
 rw[List.take_of_length_le h]
theorem Xcn (hA:Xx w ρ b A)(hv:Xy w v l)(hl:∀x∈l,A.has x)(hsz:l.length<=1000000):Calls Tryz.prog 133 #[.pointer (some ⟨b,0,none⟩),v,.int .i64 k] w λe w'=>e= .returned (.int .i64 (A.Yn l k))/\∃m,w'=w.drewN m:=by
 obtain⟨nb,c,h0,hm,hc,-,-,-,hN⟩:=hA.look
 obtain⟨la,lc,rfl,p1,p2,-⟩:=hv.form
 have HL:=Xqh hl
 have HV:=Xqh hv
 have HN:=Xqh hN
 clear hA hv hl hN
 go_enter Tryz.func133,Tryz.ntmps133
 go_wp2
 go_loopw [7,8](λn i wr=>∃j:Nat,j<=l.length/\i= .int .i64 j/\n= .int .i64 (A.Yn (l.take j) k)/\∃m,wr=w.drewN m)(λ_ i _=>l.length-(intOf i).toNat)
 case atStart=>exact⟨0,Nat.zero_le _,rfl,rfl,0,rfl⟩
 case round=>obtain⟨j,hj,rfl,rfl,m0,rfl⟩:=hrel;by_cases hlt:j<l.length;{obtain⟨x,hx⟩:∃x,l[j]?=some x:=⟨_,List.getElem?_eq_getElem hlt⟩;have hh:=HL.out x (List.mem_of_getElem? hx);obtain⟨q1,q2,kv,av,F,-,-⟩:=HN.out x hh;have c0:=F.c0;obtain⟨b',o',rfl,-,hcs⟩:=HV.out.cells (by omega);have d1:=hcs j x hx;have HT:=Xqh (XnH (A:=A) (k:=k) hx);have hle:=XaA A (l.take j) k;have hle2:(l.take j).length<=j:=by{simp;omega};have hx0:(0:Int)<=x:=by{omega};have hx1:x<((A.ns.length+1:Nat):Int):=by{omega};have hx2:x<(A.ns.length:Int)+1:=by{omega};clear hcs hx F hh;generalize(A.get x).Xa=kd at*;generalize A.Yn (l.take j) k=mn at*;by_cases t1:kd=k;{have u1:(kd==k)=true:=by{simp[t1]};have HT:=Xqh (HT.out.trans (by rw[if_pos t1]));clear t1;go_wp2_with(go_quiet(fail));go_wp2;go_roundw;(case rel=>exact⟨j+1,hlt,by go_num,by rw[HT.out];go_num,(m0+nq),by first|(rfl)|rw[World.drewN_drewN]⟩);case measure=>simp[intOf];omega};·have u1:(kd==k)=false:=by{simp[t1]};have HT:=Xqh (HT.out.trans (by rw[if_neg t1,Nat.add_zero]));clear t1;go_wp2_with(go_quiet(fail));go_wp2;go_roundw;(case rel=>exact⟨j+1,hlt,by go_num,by rw[HT.out],(m0+nq),by first|(rfl)|rw[World.drewN_drewN]⟩);case measure=>simp[intOf];omega};·have e:=Xn1 (A:=A) (k:=k) (show l.length<=j by omega);rw[e];have hle:=XaA A l k;clear e;obtain⟨mn,hmn⟩:∃mn,A.Yn l k=mn:=⟨_,rfl⟩;have HE:=Xqh hmn;rw[hmn]at hle⊢;clear hmn;go_wp2;go_ret;exact⟨by rw[HE.out];rfl,m0,rfl⟩
theorem Xy.cellA (h:Xy w (.slice (some ⟨b,o,none⟩) n c) l){j:Nat}{x:Int}(hx:l[j]?=some x):w.cell? ⟨b,o+j,none⟩=some (.int .i64 x):=by
 have hp:0<l.length:=by have:=(List.getElem?_eq_some_iff.1 hx).1;omega
 obtain⟨b',o',e,-,hcs⟩:=h.cells hp
 simp at e
 obtain⟨rfl,rfl⟩:=e
 exact hcs j x hx
theorem Xy.suffix (h:Xy w (.slice (some ⟨b,o,none⟩) n c) l)(hm:m<=l.length):Xy w (.slice (some ⟨b,o+m,none⟩) (l.length-m) (c-m)) (l.drop m):=by
 obtain⟨a',c',e,h2,h3,h4⟩:=h.form
 simp at e
 obtain⟨rfl,rfl,rfl⟩:=e
 refine⟨by simp,_,c-m,by simp,by simp;omega,by unfold maxLen;omega,λhp=>⟨b,o+m,rfl,λj v hj=>?_⟩⟩
 have hj':(l.drop m)[j]?.map Xp=some v:=by simpa using hj
 rw[List.getElem?_drop]at hj'
 obtain⟨x,hx,rfl⟩:=Option.map_eq_some_iff.1 hj'
 have:=h.cellA hx
 rw[show o+m+j=o+(m+j)by(omega)]
 exact this
theorem Xy.Xn2 (h:Xy w (.slice (some ⟨b,o,none⟩) n c) l)(hm:m<=l.length):Xy w (.slice (some ⟨b,o,none⟩) m c) (l.take m):=by
 obtain⟨a',c',e,h2,h3,h4⟩:=h.form
 simp at e
 obtain⟨rfl,rfl,rfl⟩:=e
 have hl:(l.take m).length=m:=by simp;omega
 refine⟨by simp,some ⟨b,o,none⟩,c,by rw[hl],by omega,by unfold maxLen;omega,λhp=>⟨b,o,rfl,λj v hj=>?_⟩⟩
 have hj':(l.take m)[j]?.map Xp=some v:=by rw[<-List.getElem?_map];exact hj
 obtain⟨x,hx,rfl⟩:=Option.map_eq_some_iff.1 hj'
 rw[List.getElem?_take]at hx
 by_cases q:j<m
 ·rw[if_pos q]at hx;exact h.cellA hx
 ·rw[if_neg q]at hx;simp at hx
theorem Xn3 {a:Option Addr}:Xy w (.slice a 0 0) []:=⟨rfl,a,0,rfl,Nat.le_refl _,by unfold maxLen;omega,λq=>absurd q (by simp)⟩
theorem Xn4 {c:Nat}:Xy w (.slice none 0 0) []:=⟨rfl,none,0,rfl,Nat.le_refl _,by unfold maxLen;omega,λq=>absurd q (by simp)⟩
theorem XfL {p c:Int}(hA:Xx w ρ b A)(hp:A.has p)(hsz:(A.get p).Xc.length<=1000000):Calls Tryz.prog 240 #[.pointer (some ⟨b,0,none⟩),.int .i64 p,.int .i64 c] w λe w'=>∃va vb,e= .returned (.tuple #[va,vb])/\(∃m,w'=w.drewN m)/\Xy w' va (Yl (A.get p).Xc c).1/\Xy w' vb (Yl (A.get p).Xc c).2:=by
 obtain⟨nb,cc,h0,hm,hc,-,-,-,hN⟩:=hA.look
 obtain⟨q1,q2,kv,av,F,hK,-⟩:=hN p hp
 have c2:=F.c2
 have HR:Hid (Xy w kv (A.get p).Xc):=Xqh hK.reads
 obtain⟨ka,kc,rfl,p1,p2,-⟩:=HR.out.form
 have HAT:=Xqh (Xle _ (A.get p).Xc c w HR.out)
 have hx0:(0:Int)<=p:=by omega
 have hx1:p<((A.ns.length+1:Nat):Int):=by omega
 have hx2:p<(A.ns.length:Int)+1:=by omega
 have HAR:Hid (Yl (A.get p).Xc c=_):=Xqh rfl
 have HOR:=Xqh (Xdu (λy=>decide (y=c)) (A.get p).Xc)
 clear hA F hK hN hp p2
 generalize(A.get p).Xc=K at*
 obtain⟨r,hr⟩:∃r,Yt (λy=>decide (y=c)) K=r:=⟨_,rfl⟩
 rw[hr]at HAT HOR
 have HRR:=Xqh hr
 clear hr
 rcases HOR.out with rfl|⟨i,x,rfl,hx,-⟩
 ·have HG:Hid (Yl K c=(K,[])):=Xqh (by unfold Yl;rw[HRR.out,if_pos (by decide)]);clear HOR;go_enter Tryz.func240,Tryz.ntmps240;go_wp2_with fail;refine HAT.out.mono ?_;rintro e w1⟨rfl,rfl⟩;go_wp2;go_ret2;exact⟨_,_,rfl,⟨0,rfl⟩,by rw[HG.out];exact HR.out,by rw[HG.out];exact Xn4 (c:=0)⟩
 ·have hi:=(List.getElem?_eq_some_iff.1 hx).1;have HG:Hid (Yl K c=(K.take i,K.drop (i+1))):=Xqh (by unfold Yl;rw[HRR.out,if_neg (by omega),Int.toNat_natCast]);obtain⟨b',o',rfl,-,-⟩:=HR.out.cells (by omega);have HS1:=Xqh (Xy.Xn2 HR.out (m:=i) (by omega));have HS2:=Xqh (HR.out.suffix (m:=i+1) (by omega));have z1:(i:Int)<=(kc:Int):=by{omega};have z2:(i:Int)+1<=(K.length:Int):=by{omega};have z3:(K.length:Int)<=(kc:Int):=by{omega};clear hx HOR hm hc;go_enter Tryz.func240,Tryz.ntmps240;go_wp2_with fail;refine HAT.out.mono ?_;rintro e w1⟨rfl,rfl⟩;go_wp2_with(go_quiet(fail));go_wp2;{subst h;go_ret2;refine⟨_,_,rfl,⟨_,rfl⟩,?_,?_⟩;{rw[HG.out];exact Xy.below HS1.out (Below.drewN (Below.refl _ _) _)};·rw[HG.out,show K.drop (i+1)= []from List.drop_eq_nil_of_le (by omega)];have e:K.length-(i+1)=0:=by{omega};rw[e];exact Xn3};·go_ret2;refine⟨_,_,rfl,⟨_,rfl⟩,?_,?_⟩;{rw[HG.out];exact Xy.below HS1.out (Below.drewN (Below.refl _ _) _)};·rw[HG.out];exact Xy.below HS2.out (Below.drewN (Below.refl _ _) _)
theorem XfM (K:List Int)(c:Int):(∀x∈(Yl K c).1,x∈K)/\(∀x∈(Yl K c).2,x∈K)/\(Yl K c).1.length<=K.length/\(Yl K c).2.length<=K.length:=by
 unfold Yl
 by_cases q:Yt (λy=>decide (y=c)) K<0
 ·rw[if_pos q];exact⟨λx h=>h,λx h=>absurd h (by simp),Nat.le_refl _,Nat.zero_le _⟩
 ·rw[if_neg q];exact⟨λx h=>List.mem_of_mem_take h,λx h=>List.mem_of_mem_drop h,by simp;omega,by simp⟩
end
end Go.Proofs.YtpicinjcmjaogaaGreat
