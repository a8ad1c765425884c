import Derived.BigQuiet
import Derived.StillTailTactics
import Derived.BigRegion
import Derived.Deep.CutRange
import Derived.Test.YtpicinjcmjaogaaGreatDoorW21
set_option maxRecDepth 100000
set_option maxHeartbeats 4000000
set_option linter.unusedVariables false
namespace Go.Proofs.YtpicinjcmjaogaaGreatDoor
section
open Go.RowKit
/-- The worlds in which all that was there is as it was. -/
def Wld (w : World) : Type := { W : World // Below w.heap.size w W }
theorem Wld.inh (w:World):Nonempty (Wld w):=⟨⟨w,Below.refl _ _⟩⟩
instance XpZ (w : World) : Nonempty (Wld w) := Wld.inh w
theorem Wld.cell {w:World}{p:Addr}{v:Value}(h:w.cell? p=some v):∀x:Wld w,x.val.cell? p=some v:=fun x=>Below.old x.2 h
theorem Wld.call {P:Program}{f:FuncId}{args:Array Value}{w:World}{x:Wld w}{v:Value}(h:Calls P f args x.val fun e w'=>e= .returned v∧Below x.val.heap.size x.val w'):Calls P f args x.val fun e w''=>e= .returned v∧∃y:Wld w,w''=y.val:=h.mono fun _ w'⟨he,hB⟩=>⟨he,⟨⟨w',x.2.trans (hB.mono x.2.size)⟩,rfl⟩⟩
theorem Wld.same {P:Program}{f:FuncId}{args:Array Value}{w:World}{x:Wld w}{v:Value}(h:Calls P f args x.val fun e w'=>e= .returned v∧x.val=w'):Calls P f args x.val fun e w''=>e= .returned v∧∃y:Wld w,w''=y.val:=h.mono fun _ w'⟨he,hB⟩=>⟨he,⟨x,hB.symm⟩⟩
theorem XaV {P:Program}{id:Nat}{Q:Exit→Act→World→Prop}{a:Act}{w:World}{l:List Oper}(hm:P.follows .mixedOrders=true)(hB:Region.lexB .any l.toArray=true)(h:wpQuiet P l.toArray (fun W=>∃x:Wld w,W=x.val) (fun a'=>∀W,(∃x:Wld w,W=x.val)→Q .normal a' W) l a):(Code.region id l.toArray true).wp P Q a w:=wp_region_quiet (C:=fun W=>∃x:Wld w,W=x.val) hm hB ⟨⟨w.drew,Below.drew (Below.refl _ _)⟩,rfl⟩ (by simpa using h)
end
section
open Go.RowKit Go.Shelf
theorem XkM :(Tryz.prog.info? 36).map (fun i=>(i.zero,i.size,i.bytes))=some (some (.int .i64 0),1,8):=by
 kernel_rfl
/-- A slice of kinds that owns its row. -/
abbrev Xf.kinds (v : Value) (l : List Int) : Xf := .row 36 1 v l.length (l.map Xp)
theorem XkN {w:World}{b:Nat}{e:TypeId}{v:Value}{l:List Int}(h:w.ownsRow b e 1 v l.length (l.map Xp)):Xy w v l:=by
 have h':XT w (fun k=>if v.ownBlock=some k then 1 else 0) 1 e 1 v l.length (l.map Xp):=by refine⟨⟨h.1,?_⟩,fun g hg=>by simp[hg]⟩;rcases h.2 with h2|⟨g,cap,cur,h3,_,h4⟩;·{exact .inl h2};·exact .inr ⟨g,cap,cur,h3,Nat.zero_le _,h4⟩
 exact h'.reads
theorem Own.kinds {w0 w:World}{B:Nat}{v:Value}{x:List Int}{l:List Xf}(h:Own w0 B l w)(hm:Xf.kinds v x∈l):Xy w v x:=XkN (h.row hm)
/-- A move, as its cells. -/
abbrev mvO (b : Nat) (p n c : Int) (r : Bool) : Obj := .cells #[.pointer (some ⟨b, 0, none⟩), .int .i64 p, .int .i64 n, .int .i64 c, .bool r] 130 (0, 0)
theorem Z4 {w:World}{g b:Nat}{p n c:Int}{r:Bool}(h:w.heap[g]?=some (mvO b p n c r)):w.cell? ⟨g,0,none⟩=some (.pointer (some ⟨b,0,none⟩))∧w.cell? ⟨g,1,none⟩=some (.int .i64 p)∧w.cell? ⟨g,2,none⟩=some (.int .i64 n)∧w.cell? ⟨g,3,none⟩=some (.int .i64 c)∧w.cell? ⟨g,4,none⟩=some (.bool r):=⟨(cell_of_row w _ _ _ _ _ h).trans rfl,(cell_of_row w _ _ _ _ _ h).trans rfl,(cell_of_row w _ _ _ _ _ h).trans rfl,(cell_of_row w _ _ _ _ _ h).trans rfl,(cell_of_row w _ _ _ _ _ h).trans rfl⟩
theorem XkO (v:Value)(l:List Int)(x:Int)(w:World)(hv:Xy w v l):Calls Tryz.prog 181 #[v,.int .i64 x] w fun e w'=>e= .returned (.int .i64 (Yt (fun y=>decide (y=x)) l))∧w=w':=by
 obtain⟨av,cv,rfl,hc1,hc2,hc3⟩:=hv.form
 go_enter Tryz.func181,Tryz.ntmps181
 go_wp2
 go_loop [8](fun i=>∃k:Nat,k≤l.length∧i= .int .i64 k∧Hid (∀j y,j<k→l[j]?=some y→(fun y=>decide (y=x)) y=false))(fun i=>l.length-(intOf i).toNat)
 case atStart=>exact⟨0,Nat.zero_le _,rfl,fun j y hj=>by omega⟩
 case round=>obtain⟨k,hk,rfl,hT⟩:=hrel;by_cases hlt:k<l.length;·{obtain⟨b1,o1,rfl,hcs⟩:=hc3 (by omega);have hck:=hcs k hlt;clear hc3 hcs;have hy:l[k]?=some (l[k]?.getD 0):=by{simp[hlt]};generalize l[k]?.getD 0=y at hck hy;have HY:=Xqh hy;clear hy;by_cases hxy:x=y;·{have h1:(x==y)=true:=by{simp[hxy]};have HXY:=Xqh hxy;clear hxy;go_wp2;go_ret;exact⟨Zd (Xbc HY.out (by simp[HXY.out]) hT.out).symm,rfl⟩};·have h1:(x==y)=false:=by{simp[hxy]};have HXY:=Xqh hxy;clear hxy;go_wp2;go_round;(case rel=>exact⟨k+1,hlt,by go_num,fun j z hj hz=>by by_cases hjk:j<k;·{exact hT.out j z hjk hz};·have hjk:j=k:=by{omega};rw[hjk,HY.out]at hz;cases hz;simp;exact fun e=>HXY.out e.symm⟩);case measure=>simp[intOf];omega};·go_wp2;go_ret;exact⟨Zd (JT (fun j y hj=>hT.out j y (by have:=(List.getElem?_eq_some_iff.1 hj).1;omega) hj)).symm,rfl⟩
theorem Xbm (v:Value)(l:List Int)(x:Int)(w:World)(hv:Xy w v l):Calls Tryz.prog 168 #[v,.int .i64 x] w fun e w'=>e= .returned (.bool (decide (x∈l)))∧w=w':=by
 have hd:decide (0≤Yt (fun y=>decide (y=x)) l)=decide (x∈l):=by rw[Xd2,Bool.eq_iff_iff,List.any_eq_true];simp only[decide_eq_true_eq];exact⟨fun⟨y,h1,h2⟩=>h2▸h1,fun h=>⟨x,h,rfl⟩⟩
 have HC:=Xqh (XkO v l x w hv)
 have HD:=Xqh hd
 clear hd hv
 generalize Yt (fun y=>decide (y=x)) l=i at*
 generalize decide (x∈l)=z at*
 by_cases hi:0≤i
 ·have e:z=true:=by{rw[←HD.out];simp[hi]};subst e;clear HD;go_enter Tryz.func168,Tryz.ntmps168;go_wp2_with fail;refine HC.out.mono ?_;rintro e w1⟨rfl,rfl⟩;go_wp2;go_ret;exact⟨by simp,rfl⟩
 ·have e:z=false:=by{rw[←HD.out];simp[hi]};subst e;clear HD;go_enter Tryz.func168,Tryz.ntmps168;go_wp2_with fail;refine HC.out.mono ?_;rintro e w1⟨rfl,rfl⟩;go_wp2;go_ret;exact⟨by simp;omega,rfl⟩
theorem XkP {A:Ar}{c:Int}{K:List Int}{k:Nat}{x:Int}(s:Bool×List Int×List Int)(hx:K[k]?=some x):(K.take (k+1)).foldl (Zf A c) s=Zf A c ((K.take k).foldl (Zf A c) s) x:=by
 have hk:=(List.getElem?_eq_some_iff.1 hx).1
 rw[List.take_succ_eq_append_getElem hk,(List.getElem?_eq_some_iff.1 hx).2,List.foldl_append]
 rfl
theorem Xg4 {A:Ar}{c:Int}:∀(K:List Int)(s:Bool×List Int×List Int),(K.foldl (Zf A c) s).2.1.length+(K.foldl (Zf A c) s).2.2.length≤s.2.1.length+s.2.2.length+K.length
 | [],s=>by{simp}
 |x::K,s=>by{have:=Xg4 (A:=A) (c:=c) K (Zf A c s x);have h2:(Zf A c s x).2.1.length+(Zf A c s x).2.2.length≤s.2.1.length+s.2.2.length+1:=by{unfold Zf;split;·{dsimp only;omega};·split;·{simp;omega};·simp;omega};simp only[List.foldl_cons,List.length_cons];omega}
theorem Xg5 {w0 w:World}{B b:Nat}{A:Ar}{l:List Xf}{p n c:Int}{r:Bool}(o:Own w0 B l w)(hm:Xf.arena b A∈l)(hI:A.Inv)(hs:A.ns.length≤100000)(hp:A.has p):Calls Tryz.prog 167 #[.agg #[.pointer (some ⟨b,0,none⟩),.int .i64 p,.int .i64 n,.int .i64 c,.bool r]] w fun e w'=>∃v1 v2,e= .returned (.tuple #[v1,v2])∧Own w0 B (.kinds v1 (A.Zn p c).1:: .kinds v2 (A.Zn p c).2::l) w':=by
 obtain⟨i0,hi,hz0,hz1,hz2⟩:=info_parts XkM
 have HI:=Xqh hi
 clear hi
 have o1:=o.alloc (.cells #[.pointer (some ⟨b,0,none⟩),.int .i64 p,.int .i64 n,.int .i64 c,.bool r] 130)
 have HS:=Xqh (hI.short (by omega))
 have HK:=Xqh (Xap (b:=b) (A:=A) (h:=p) o1 (by simp[hm]) HS.out)
 have hko:A.YN p=(A.get p).Xc:=if_pos hp
 rw[hko]at HK
 have HM:=Xqh hm
 have hkl:=Ar.Yz hI.wf hp
 have HX:=Xqh (fun x(hx:x∈(A.get p).Xc)=>(XF hI hp hx).1)
 have HSP:Hid (A.Zn p c=((A.get p).Xc.foldl (Zf A c) (false,[],[])).2):=Xqh rfl
 clear o o1 hm hI hp hko
 generalize(A.get p).Xc=K at*
 go_enter Tryz.func167,Tryz.ntmps167
 go_wp2_with fail
 refine HK.out.mono ?_
 rintro e w1⟨ka,kc,rfl,o2⟩
 clear HK
 have o3:=(((o2.fresh (Below.refl _ _) ⟨fun _=>False,⟨World.ownsRow_nil _ 0 36 1,fun k=>⟨fun h=>h.elim,fun h=>by simp[Value.ownBlock]at h⟩⟩,fun k hk=>hk.elim⟩:Own w0 B (.kinds (.slice none 0 0) []::_) w1)).fresh (Below.refl _ _) ⟨fun _=>False,⟨World.ownsRow_nil _ 0 36 1,fun k=>⟨fun h=>h.elim,fun h=>by simp[Value.ownBlock]at h⟩⟩,fun k hk=>hk.elim⟩:Own w0 B (.kinds (.slice none 0 0) []:: .kinds (.slice none 0 0) []::_) w1)
 have HO:=Xqh o3
 clear o2 o3
 generalize hg:w.heap.size=g at*
 clear hg
 obtain⟨LL,hLL⟩:∃LL,LL=Xf.ints (.slice ka K.length kc) K:: .box g (mvO b p n c r)::l:=⟨_,rfl⟩
 have HLL:Hid (Xf.ints (.slice ka K.length kc) K∈LL∧Xf.box g (mvO b p n c r)∈LL∧Xf.arena b A∈LL):=Xqh (by subst hLL;exact⟨by simp,by simp,by simp[HM.out]⟩)
 rw[←hLL]at HO
 have HLE:=Xqh hLL
 clear hLL HM
 have HM:Hid (Xf.arena b A∈LL):=Xqh HLL.out.2.2
 go_wp2
 go_loopw [2,3,4,13](fun u2 u3 u4 i wr=>∃(k:Nat)(s:Bool×List Int×List Int),k≤K.length∧i= .int .i64 k∧Hid ((K.take k).foldl (Zf A c) (false,[],[])=s)∧u4= .bool s.1∧Hid (Own w0 B (.kinds u2 s.2.1:: .kinds u3 s.2.2::LL) wr))(fun _ _ _ i _=>K.length-(intOf i).toNat)
 case atStart=>exact⟨0,_,Nat.zero_le _,rfl,Xqh rfl,rfl,HO⟩
 case round=>obtain⟨k,s,hk,rfl,HST,rfl,hT⟩:=hrel;by_cases hlt:k<K.length;·{obtain⟨x,hx⟩:∃x,K[k]?=some x:=⟨_,List.getElem?_eq_getElem hlt⟩;have hri:Xy wr (.slice ka K.length kc) K:=hT.out.ints (by simp[HLL.out.1]);obtain⟨b1,o1,rfl,-,hcs⟩:=hri.cells (by omega);have c1:=hcs k x hx;obtain⟨m1,m2,m3,m4,m5⟩:=Z4 (hT.out.box (g:=g) (o:=mvO b p n c r) (by simp[HLL.out.2.1]));have hx2:=HX.out x (List.mem_of_getElem? hx);have hst:=XkP (A:=A) (c:=c) (false,[],[]) hx;have hsl:=Xg4 (A:=A) (c:=c) (K.take k) (false,[],[]);rw[HST.out]at hst hsl;have hl1:s.2.1.length≤100000∧s.2.2.length≤100000:=by{simp at hsl;omega};obtain⟨nd,hnd⟩:∃nd,A.get x=nd:=⟨_,rfl⟩;have HN:=Xqh hnd;unfold Zf at hst;rw[hnd]at hst;clear hnd hri hcs hx hsl HST;obtain⟨sb,l1,l2⟩:=s;dsimp only at*;obtain⟨hl1,hl2⟩:=hl1;by_cases hxc:x=c;·{rw[if_pos hxc]at hst;have HST2:=Xqh hst;have e1:(x==c)=true:=by{simp[hxc]};have hT2:=hT;clear hst hxc hT;go_wp2;go_roundw;(case rel=>exact⟨k+1,_,hlt,by go_num,HST2,rfl,hT2⟩);case measure=>simp[intOf];omega};·rw[if_neg hxc]at hst;have e1:(x==c)=false:=by{simp[hxc]};clear hxc;have hT3:=hT;clear hT;cases sb with|true=>{rw[if_pos rfl]at hst;have HST2:=Xqh hst;clear hst;have HC:=Xqh (Zv (b:=b) (A:=A) (n:=nd) hT3.out (by simp[HM.out]) HS.out hx2 HN.out);have HT:=Xqh hT3.out;go_wp2_with fail;refine HC.out.mono ?_;rintro e w3⟨rfl,o3,-⟩;have HR:=Xqh (YP (o3.row (e:=36) (size:=1) (v:=u3) (n:=l2.length) (xs:=l2.map Xp) (by simp)) (Nat.zero_le _));have HO3:=Xqh o3;clear o3 HC m1 m2 m3 m4 m5 c1;generalize nd.Xa=kd at*;go_wp2_with(at_builtin;refine wpList_append_own_at _ rfl _ _ 202 rfl 0 36 i0 _ 1 8 Tryz.underlying202 HI.out hz0 hz1 hz2 rfl (by decide) _ _ _ rfl (HR.out.alloc _) ⟨w3.heap.size,0,none⟩ 1 1 [Xp kd] rfl rfl ?c1 ?c2 ?c3 ?c4 ?c5 ?_);(case c1=>intro j u hj;rw[Addr.add_mid,Nat.zero_add];exact Yi rfl (by simpa[Xp]using hj));(case c2=>intro u hu;simp at hu;subst hu;rfl);(case c3=>unfold maxLen;omega);(case c4=>omega);(case c5=>first|(simp;done)|(simp;omega));intro v' w4 hown hgrow _ hat;have o4:=HO3.out.swap;have o5:=((o4.alloc (.cells #[.int .i64 kd] 36)).swap.grow hown hgrow (by simpa using hat)).swap.drop;have e1:(l2++ [kd]).length=l2.length+1:=by{simp};have e2:(l2++ [kd]).map Xp=l2.map Xp++ [Xp kd]:=by{simp};have o6:Own w0 B (.kinds v' (l2++ [kd]):: .kinds u2 l1::LL) w4:=by{unfold Xf.kinds;rw[e1,e2];exact o5};have HO6:=Xqh o6.swap;clear o4 o5 o6 hown hgrow hat HT hT3;go_wp2;go_roundw;(case rel=>exact⟨k+1,_,hlt,by go_num,HST2,rfl,HO6⟩);case measure=>simp[intOf];omega}|false=>rw[if_neg (by simp)]at hst;have HST2:=Xqh hst;clear hst;have HC:=Xqh (Zv (b:=b) (A:=A) (n:=nd) hT3.out (by simp[HM.out]) HS.out hx2 HN.out);have HT:=Xqh hT3.out;go_wp2_with fail;refine HC.out.mono ?_;rintro e w3⟨rfl,o3,-⟩;have HR:=Xqh (YP (o3.row (e:=36) (size:=1) (v:=u2) (n:=l1.length) (xs:=l1.map Xp) (by simp)) (Nat.zero_le _));have HO3:=Xqh o3;clear o3 HC m1 m2 m3 m4 m5 c1;generalize nd.Xa=kd at*;go_wp2_with(at_builtin;refine wpList_append_own_at _ rfl _ _ 202 rfl 0 36 i0 _ 1 8 Tryz.underlying202 HI.out hz0 hz1 hz2 rfl (by decide) _ _ _ rfl (HR.out.alloc _) ⟨w3.heap.size,0,none⟩ 1 1 [Xp kd] rfl rfl ?c1 ?c2 ?c3 ?c4 ?c5 ?_);(case c1=>intro j u hj;rw[Addr.add_mid,Nat.zero_add];exact Yi rfl (by simpa[Xp]using hj));(case c2=>intro u hu;simp at hu;subst hu;rfl);(case c3=>unfold maxLen;omega);(case c4=>omega);(case c5=>first|(simp;done)|(simp;omega));intro v' w4 hown hgrow _ hat;have o4:=HO3.out;have o5:=((o4.alloc (.cells #[.int .i64 kd] 36)).swap.grow hown hgrow (by simpa using hat)).swap.drop;have e1:(l1++ [kd]).length=l1.length+1:=by{simp};have e2:(l1++ [kd]).map Xp=l1.map Xp++ [Xp kd]:=by{simp};have o6:Own w0 B (.kinds v' (l1++ [kd]):: .kinds u3 l2::LL) w4:=by{unfold Xf.kinds;rw[e1,e2];exact o5};have HO6:=Xqh o6;clear o4 o5 o6 hown hgrow hat HT hT3;go_wp2;go_roundw;(case rel=>exact⟨k+1,_,hlt,by go_num,HST2,rfl,HO6⟩);case measure=>simp[intOf];omega};·have hkl2:K.take k=K:=List.take_of_length_le (by omega);rw[hkl2]at HST;have HF:Hid (A.Zn p c=s.2):=Xqh (by rw[HSP.out,HST.out]);have o4:=hT.out;rw[HLE.out]at o4;have HO4:=Xqh o4;clear o4 hT hkl2 HST HSP HO HLE HLL HM;go_wp2;go_ret2;refine⟨_,_,rfl,?_⟩;rw[HF.out];exact(((HO4.out.ZI).drop).ZI.drop)
end
section
open Go.RowKit Go.Shelf
attribute [local go_sem] Oper.semAt_some
theorem Xk4 (P:Program)(w:World)(a:Addr)(m:_)(fn:Fn)(bs cs:Array Value):(store a (.func fn bs cs) m).run P w=stored P w a (.func fn bs cs) m:=run_store P w a _ m rfl
attribute [local go_sem] Xk4
theorem Xk5 {A:Ar}{d:Int}(hd:A.has d)(hk:(A.get d).Xa=1):A.YA d=(((A.Xq d).1,0),(A.Xq d).2):=by
 have he:A.XA d=0:=by unfold Ar.XA;rw[if_neg (fun h=>h hd),if_neg (fun h=>h hk)]
 unfold Ar.YA
 rw[if_neg (fun h=>h he)]
theorem Xg7 {rec:Ar→Int→Int→Ar}{w0 w:World}{B b ab db:Nat}{A:Ar}{L:List Xf}{x d:Int}(o:Own w0 B (.arena b A::L) w)(hI:A.Inv)(hs:A.ns.length≤100000)(hx:A.has x)(hd:A.has d)(hk:(A.get d).Xa=1)(hab:Xf.box ab (.cells #[.pointer (some ⟨b,0,none⟩)] 26 (0,0))∈L)(hdb:Xf.box db (.cells #[.int .i64 d] 3 (0,0))∈L)(hrec:∀L' w',((A.Xt x d).2.get x).Xg≠0→Own w0 B (.arena b ((A.Xt x d).2.Xq d).2::L') w'→Calls Tryz.prog 39 #[.pointer (some ⟨b,0,none⟩),.int .i64 ((A.Xt x d).2.get x).Xg,.int .i64 ((A.Xt x d).2.Xq d).1] w' fun e w''=>e= .returned (.tuple #[])∧Own w0 B (.arena b (rec ((A.Xt x d).2.Xq d).2 ((A.Xt x d).2.get x).Xg ((A.Xt x d).2.Xq d).1)::L') w''):Calls Tryz.prog 82 #[.int .i64 x,.pointer (some ⟨ab,0,none⟩),.pointer (some ⟨db,0,none⟩)] w fun e w'=>e= .returned (.tuple #[])∧Own w0 B (.arena b (Yf rec d A x)::L) w':=by
 have h1:=Ar.Inv.Xt hI x d
 have t1:=Ar.Xam A x d
 have hl1:=(Xbj A x d).2
 have hk1:((A.Xt x d).2.get d).Xa=1:=(t1.Xa hd).trans hk
 have hic:=Xk5 (t1.has hd) hk1
 have HREC:=Xqh hrec
 have HST:Hid (Yf rec d A x=if((A.Xt x d).2.get x).Xg=0 then(A.Xt x d).2 else rec ((A.Xt x d).2.Xq d).2 ((A.Xt x d).2.get x).Xg ((A.Xt x d).2.Xq d).1):=Xqh rfl
 have HC:=Xqh (o.call (fun ρ hA=>Xgg A ρ b x d w hA))
 have HAB:=Xqh hab
 have HDB:=Xqh hdb
 have q1:=XD (o.box (g:=ab) (List.mem_cons_of_mem _ hab))
 have q2:=XD (o.box (g:=db) (List.mem_cons_of_mem _ hdb))
 have HX:=Xqh (t1.has hx)
 have HS:=Xqh (h1.short (by omega))
 have HI1:=Xqh h1
 have hsm:(A.Xt x d).2.ns.length≤1000000:=by omega
 clear hrec o hab hdb hI t1 hl1 hk1 h1
 generalize(A.Xt x d).2=A1 at*
 go_enter Tryz.func82,Tryz.ntmps82
 go_wp2_with fail
 refine HC.out.mono ?_
 rintro e w1⟨rfl,o1⟩
 clear q1 q2 HC
 have q1:=XD (o1.box (g:=ab) (List.mem_cons_of_mem _ HAB.out))
 have q2:=XD (o1.box (g:=db) (List.mem_cons_of_mem _ HDB.out))
 obtain⟨nd,hnd⟩:∃nd,A1.get x=nd:=⟨_,rfl⟩
 rw[hnd]at HREC HST
 have HN:=Xqh (JZ (b:=b) (A:=A1) o1 (by simp) HS.out HX.out hnd)
 clear hnd
 by_cases hc:nd.Xg=0
 ·have hc':(nd.Xg !=0)=false:=by{simp[hc]};rw[if_pos hc]at HST;clear hc;go_wp2_with fail;refine HN.out.mono ?_;rintro e w2⟨ka,kl,kc,aa,al,ac,rfl,o2,-⟩;clear q1 q2 HN o1;have HT:=Xqh (XV (w:=w2) nd ka kc aa ac kl al);have o5:=o2.XU nd (.slice ka kl kc) (.slice aa al ac);go_wp2_with((with_reducible refine wpList_store_mid ?_ 41 (.tmp 4) (.tmp 16) ?_ w2.heap.size 0 (nd.cells (.slice ka kl kc) (.slice aa al ac)).toArray ?_ ?_ ?_ ?_ ?_ ?_);exact rfl;exact rfl;exact rfl;exact rfl;exact HT.out.1;exact XM _ _ _;exact all_oneCell_toArray HT.out.2;clear HT;generalize hw5:World.setCells _ _ _ _=w5 at o5⊢;generalize hg5:w2.heap.size=g5 at o5⊢;clear hw5 hg5;have q1:w5.cell? ⟨g5,11,none⟩=some (.int .i64 nd.Xg):=(cell_of_row w5 _ _ _ _ _ (o5.box (g:=g5) (o:= .cells (nd.cells (.slice ka kl kc) (.slice aa al ac)).toArray 41 (0,0)) (by simp))).trans rfl);have HO:=Xqh o5;clear o5;go_wp2;go_end0;refine⟨rfl,?_⟩;rw[HST.out];exact HO.out.drop
 ·have hc':(nd.Xg !=0)=true:=by{simp[hc]};rw[if_neg hc]at HST;have HCC:=Xqh hc;clear hc;go_wp2_with fail;refine HN.out.mono ?_;rintro e w2⟨ka,kl,kc,aa,al,ac,rfl,o2,-⟩;clear q1 q2 HN o1;have HT:=Xqh (XV (w:=w2) nd ka kc aa ac kl al);have o5:=o2.XU nd (.slice ka kl kc) (.slice aa al ac);go_wp2_with((with_reducible refine wpList_store_mid ?_ 41 (.tmp 4) (.tmp 16) ?_ w2.heap.size 0 (nd.cells (.slice ka kl kc) (.slice aa al ac)).toArray ?_ ?_ ?_ ?_ ?_ ?_);exact rfl;exact rfl;exact rfl;exact rfl;exact HT.out.1;exact XM _ _ _;exact all_oneCell_toArray HT.out.2;clear HT;generalize hw5:World.setCells _ _ _ _=w5 at o5⊢;generalize hg5:w2.heap.size=g5 at o5⊢;clear hw5 hg5;have q1:w5.cell? ⟨g5,11,none⟩=some (.int .i64 nd.Xg):=(cell_of_row w5 _ _ _ _ _ (o5.box (g:=g5) (o:= .cells (nd.cells (.slice ka kl kc) (.slice aa al ac)).toArray 41 (0,0)) (by simp))).trans rfl;have q3:=XD (o5.box (g:=ab) (List.mem_cons_of_mem _ (List.mem_cons_of_mem _ HAB.out)));have q4:=XD (o5.box (g:=db) (List.mem_cons_of_mem _ (List.mem_cons_of_mem _ HDB.out))));have HC:=Xqh (o5.swap.call (fun ρ hA=>Xel A1 ρ b d _ hA hsm));rw[hic]at HC;unfold Xl at HC;clear o5;refine HC.out.mono ?_;rintro e w6⟨rfl,o6⟩;clear q1 q3 q4 HC;have q1:w6.cell? ⟨g5,11,none⟩=some (.int .i64 nd.Xg):=(cell_of_row w6 _ _ _ _ _ (o6.box (g:=g5) (o:= .cells (nd.cells (.slice ka kl kc) (.slice aa al ac)).toArray 41 (0,0)) (by simp))).trans rfl;have q3:=XD (o6.box (g:=ab) (List.mem_cons_of_mem _ (List.mem_cons_of_mem _ HAB.out)));have HC:=Xqh (HREC.out _ _ HCC.out o6);clear o6;go_wp2_with fail;refine HC.out.mono ?_;rintro e w7⟨rfl,o7⟩;have HO:=Xqh o7;clear o7 q1 q3;go_wp2;go_end0;refine⟨rfl,?_⟩;rw[HST.out];exact HO.out.swap.drop
theorem XeX {C:Ar}{d:Int}(n:Nat)(hC:C.Inv)(hd:C.has d)(hk:(C.get d).Xa=1){l:List Int}(hl:∀x∈l,C.has x):(l.foldl (Yf (adoptF n) d) C).Inv∧C.Tree (l.foldl (Yf (adoptF n) d) C)∧(l.foldl (Yf (adoptF n) d) C).cap d=C.cap d:=by
 refine Ze (P:=fun B:Ar=>B.Inv∧C.Tree B∧B.cap d=C.cap d) ⟨hC,Ar.Tree.refl _,rfl⟩ ?_
 rintro B x hx⟨hB,hT,e1⟩
 have hxC:=hl x hx
 have hf:=XbW hB hT hd hk hxC (fun B' c i hB' hc hp hi hik=>by have:=XaT n hB' hc hi hik;rw[J1 hp]at this;exact this)
 refine⟨hf.1,hf.2,?_⟩
 obtain⟨s1,s2⟩:=Xbj B x d
 have s3:(B.Xt x d).2.cap d=C.cap d:=(Ar.Js s1 s2).trans e1
 have h1:=Ar.Inv.Xt hB x d
 have t1:=hT.trans (Ar.Xam B x d)
 unfold Yf
 split
 ·exact s3
 ·rename_i hc;obtain⟨c1,c2,c3⟩:=ZL h1 (t1.has hxC) hc;have hd1:=t1.has hd;have h2:=Ar.XC.Xq h1 hd1;obtain⟨v1,v2⟩:=Ar.XC.Xbb h1 hd1;obtain⟨i1,i2⟩:=XbV hd1 h1.wf.Xh;obtain⟨q1,q2,q3,q4⟩:=Ar.XC.Xh h2 d i2;obtain⟨r1,r2⟩:=Xer n h2 ((Ar.Xal _ d).has c1) v1 v2 (by rw[i1,q4];exact i2);rw[Ar.Js r1 r2,XcS hd1 h1.wf.Xh,s3]
theorem XeY {C B:Ar}{d x:Int}{n:Nat}(hC:C.Inv)(hB:B.Inv)(hT:C.Tree B)(hcap:B.cap d≤100000)(hd:C.has d)(hk:(C.get d).Xa=1)(hx:C.has x)(hw:(C.Xi x).length≤n+1)(hc:((B.Xt x d).2.get x).Xg≠0):((B.Xt x d).2.Xq d).2.Inv∧((B.Xt x d).2.Xq d).2.has ((B.Xt x d).2.get x).Xg∧((B.Xt x d).2.Xq d).2.has ((B.Xt x d).2.Xq d).1∧(((B.Xt x d).2.Xq d).2.get ((B.Xt x d).2.Xq d).1).Xa=1∧((((B.Xt x d).2.Xq d).2.cut ((B.Xt x d).2.get x).Xg).Xi ((B.Xt x d).2.get x).Xg).length≤n∧((B.Xt x d).2.Xq d).2.cap ((B.Xt x d).2.Xq d).1≤100000:=by
 obtain⟨s1,s2⟩:=Xbj B x d
 have h1:=Ar.Inv.Xt hB x d
 have t1:=hT.trans (Ar.Xam B x d)
 obtain⟨c1,c2,c3⟩:=ZL h1 (t1.has hx) hc
 have hd1:=t1.has hd
 have h2:=Ar.XC.Xq h1 hd1
 obtain⟨v1,v2⟩:=Ar.XC.Xbb h1 hd1
 obtain⟨i1,i2⟩:=XbV hd1 h1.wf.Xh
 obtain⟨q1,q2,q3,q4⟩:=Ar.XC.Xh h2 d i2
 have t2:=Ar.Xal (B.Xt x d).2 d
 refine⟨h2,t2.has c1,v1,v2,?_,?_⟩
 ·rw[J1 (by rw[t2.Xd c1];exact c3),t2.Xi h1 h2 _ c1];have e:=t1.Xg hx;have hw2:=t1.Xi hC h1 x hx;have:=XcR h1 (t1.has hx) hc;rw[hw2]at this;omega
 ·have e1:((B.Xt x d).2.Xq d).2.cap ((B.Xt x d).2.Xq d).1=((B.Xt x d).2.Xq d).2.ns.length:=by{unfold Ar.cap;rw[if_neg (by rw[i1,q4];exact i2)];rfl};rw[e1];have e2:=Ar.Yv ((B.Xt x d).2.Xq d).2 d;rw[XcS hd1 h1.wf.Xh,Ar.Js s1 s2]at e2;omega
theorem Xk6 :∀(n:Nat)(A:Ar)(h d:Int),A.Inv→A.has h→A.has d→(A.get d).Xa=1→((A.cut h).Xi h).length≤n→A.cap d≤100000→∀(w0 w:World)(B b:Nat)(L:List Xf),Own w0 B (.arena b A::L) w→Calls Tryz.prog 39 #[.pointer (some ⟨b,0,none⟩),.int .i64 h,.int .i64 d] w fun e w'=>e= .returned (.tuple #[])∧Own w0 B (.arena b (adoptF n A h d)::L) w':=by
 intro n
 induction n with|zero=>{intro A h d hI hh hd hk hw;have:=YL (A:=A.cut h) (Ar.XC.cut hI hh) ((Ar.X5 _ _ _).2 hh);omega}|succ n ih=>intro A h d hI hh hd hk hw hcap w0 w B b L o;have hC:(A.cut h).Inv:=Ar.XC.cut hI hh;have hhC:(A.cut h).has h:=(Ar.X5 _ _ _).2 hh;have hdC:(A.cut h).has d:=(Ar.X5 _ _ _).2 hd;have hkC:((A.cut h).get d).Xa=1:=by{rw[Ar.Zc hI hh hd];exact hk};have hcc:A.XR h=(0,A.cut h):=by{unfold Ar.XR;rw[if_pos hh]};have hcapC:(A.cut h).cap d≤100000:=by{rw[Ar.Js (Ar.Z2 A h) (Ar.YY A h)];exact hcap};have o1:=((o.alloc (.cells #[.pointer (some ⟨b,0,none⟩)] 26)).alloc (.cells #[.int .i64 d] 3)).ZI;simp only[World.size_alloc]at o1;have HC:=Xqh (o1.call (fun ρ hA=>Xef A ρ b h _ hA hI.wf));rw[hcc]at HC;have HIH:=Xqh ih;have q1:=XD (o1.box (g:=w.heap.size) (o:= .cells #[.pointer (some ⟨b,0,none⟩)] 26 (0,0)) (by simp));have q2:=XD (o1.box (g:=w.heap.size+1) (o:= .cells #[.int .i64 d] 3 (0,0)) (by simp));have hAF:Hid (adoptF (n+1) A h d=if((A.cut h).get h).doc=d then A.cut h else(h::(A.cut h).below h).foldl (Yf (adoptF n) d) (A.cut h)):=Xqh rfl;clear o hI hh hd hk hcap ih hcc;generalize A.cut h=C at*;refine(callsIn_wide (n:=8)).1 ?_;refine callsIn_of_wp_marks Tryz.func39 rfl trivial ?_ rfl;simp only[Tryz.ntmps39,List.size_toArray,List.length_cons,List.length_nil,Nat.reduceAdd,Nat.reduceSub,Array.replicate_succ,Array.replicate_zero,List.push_toArray,List.append_toArray,List.nil_append,List.cons_append];refine wpIn_wide.2 ?_;go_wp2_with fail;refine HC.out.mono ?_;rintro e w1⟨rfl,o2⟩;clear q1 q2 HC o1;have q1:=XD (o2.box (g:=w.heap.size) (o:= .cells #[.pointer (some ⟨b,0,none⟩)] 26 (0,0)) (by simp));have q2:=XD (o2.box (g:=w.heap.size+1) (o:= .cells #[.int .i64 d] 3 (0,0)) (by simp));have HS:=Xqh (hC.short (Nat.le_trans (Ar.Yv C d) (Nat.le_trans hcapC (by omega))));go_upto_region 2 with fail;have x1:=Wld.cell (w:=w1) q1;have x2:=Wld.cell (w:=w1) q2;obtain⟨nd,hnd⟩:∃nd,C.get h=nd:=⟨_,rfl⟩;have hnd':=hnd;have HDC:=Xqh (fun x:Wld w1=>(XcV (b:=b) (A:=C) (o2.read x.2) (by simp) HS.out hhC hnd).mono (fun e w' q=>show e= .returned (.int .i64 nd.doc)∧Below x.val.heap.size x.val w' from⟨q.1,q.2.2⟩));rw[hnd]at hAF;clear hnd;by_cases hdd:nd.doc=d;·{have e1:(nd.doc==d)=true:=by{simp[hdd]};rw[if_pos hdd]at hAF;have HO:=Xqh o2;clear o2 hdd;refine XaV (by kernel_rfl) (by kernel_rfl) ?_;(repeat(go_big_quiet_step(first|(go_at_call 81;exact Wld.call (HDC.out _)))));refine wpQuiet_nil ?_;rintro Wx⟨⟨W9,hW9⟩,hWx⟩;have hWx':Wx=W9:=hWx;clear hWx;subst hWx';have HO9:=Xqh (HO.out.read hW9);clear x1 x2 q1 q2 hW9 HO HDC;go_wp2;refine⟨.tuple #[],by simp[results,Tryz.f39,go_sem],?_⟩;refine⟨rfl,?_⟩;rw[hAF.out];exact HO9.out.swap.drop.swap.drop};·have e1:(nd.doc==d)=false:=by{simp[hdd]};rw[if_neg hdd]at hAF;have HO:=Xqh o2;clear o2 hdd;refine XaV (by kernel_rfl) (by kernel_rfl) ?_;(repeat(go_big_quiet_step(first|(go_at_call 81;exact Wld.call (HDC.out _)))));refine wpQuiet_nil ?_;rintro Wx⟨⟨W9,hW9⟩,hWx⟩;have hWx':Wx=W9:=hWx;clear hWx;subst hWx';have o9:=HO.out.read hW9;clear x1 x2 q1 q2 hW9 HO HDC;have q1:=XD (o9.box (g:=w.heap.size) (o:= .cells #[.pointer (some ⟨b,0,none⟩)] 26 (0,0)) (by simp));have q2:=XD (o9.box (g:=w.heap.size+1) (o:= .cells #[.int .i64 d] 3 (0,0)) (by simp));have o11:=(o9.alloc (.cells #[.func (.func 82) #[] #[.pointer (some ⟨w.heap.size,0,none⟩),.pointer (some ⟨w.heap.size+1,0,none⟩)]] 122)).swap;have q5:=XD (o11.box (g:=Wx.heap.size) (o:= .cells #[.func (.func 82) #[] #[.pointer (some ⟨w.heap.size,0,none⟩),.pointer (some ⟨w.heap.size+1,0,none⟩)]] 122 (0,0)) (by simp));have HRC:=Xqh (Xg7 (rec:=adoptF n) (ab:=w.heap.size) (db:=w.heap.size+1) o11 hC (Nat.le_trans (Ar.Yv C d) hcapC) hhC hdC hkC (by simp) (by simp) (fun L' w' hc o'=>by obtain⟨m1,m2,m3,m4,m5,m6⟩:=XeY hC hC (Ar.Tree.refl C) hcapC hdC hkC hhC hw hc;exact HIH.out _ _ _ m1 m2 m3 m4 m5 m6 _ _ _ _ _ o'));clear o9 o11;go_wp2_with fail;refine HRC.out.mono ?_;rintro e w12⟨rfl,o12⟩;clear q1 q2 q5 HRC;generalize hg:Wx.heap.size=gf at o12⊢;clear hg;have q1:=XD (o12.box (g:=w.heap.size) (o:= .cells #[.pointer (some ⟨b,0,none⟩)] 26 (0,0)) (by simp));go_wp2_with fail;refine(XeV b h _).mono ?_;rintro e w13⟨rfl,rfl⟩;have o13:=(o12.alloc (.cells #[.pointer (some ⟨b,0,none⟩)] 26)).alloc (.cells #[.int .i64 h] 3);simp only[World.size_alloc]at o13;clear q1 o12;have o14:=o13.ZI;have HC0:=Xqh hC;go_wp2_with fail;refine wpIn_wide.1 (XeP (n:=8) (α:=Int) rfl (by omega) (gf:=97) (lb:= #[.pointer (some ⟨w12.heap.size,0,none⟩),.pointer (some ⟨w12.heap.size+1,0,none⟩)]) rfl trivial (enters_of Tryz.func97 (by kernel_rfl) rfl) (Rd:=Xbn C b w12.heap.size (w12.heap.size+1) h) XeU (XeW hC (Nat.le_trans (Ar.Yv C d) hcapC) hhC w0 B 7) (fun _=>rfl) o14 (fun pre L'=>(∃rest,C.below h=pre++rest)∧L'= .arena b ((h::pre).foldl (Yf (adoptF n) d) C):: .box (w12.heap.size+1) (.cells #[.int .i64 h] 3 (0,0)):: .box w12.heap.size (.cells #[.pointer (some ⟨b,0,none⟩)] 26 (0,0)):: .box gf (.cells #[.func (.func 82) #[] #[.pointer (some ⟨w.heap.size,0,none⟩),.pointer (some ⟨w.heap.size+1,0,none⟩)]] 122 (0,0)):: .box (w.heap.size+1) (.cells #[.int .i64 d] 3 (0,0)):: .box w.heap.size (.cells #[.pointer (some ⟨b,0,none⟩)] 26 (0,0))::L) (fun _ _ _=>False) ?hLR ⟨⟨_,rfl⟩,rfl⟩ (fun x=>{tmps:= #[.pointer (some ⟨b,0,none⟩),.int .i64 h,.int .i64 d,.pointer (some ⟨w.heap.size,0,none⟩),undef,.pointer (some ⟨w.heap.size+1,0,none⟩),.pointer (some ⟨gf,0,none⟩),.int .i64 x,.pointer (some ⟨b,0,none⟩),.int .i64 h,.int .i64 0,.pointer (some ⟨b,0,none⟩),.int .i64 h,.int .i64 nd.doc,.int .i64 d,.bool false,.func (.func 82) #[] #[.pointer (some ⟨w.heap.size,0,none⟩),.pointer (some ⟨w.heap.size+1,0,none⟩)],.func (.func 82) #[] #[.pointer (some ⟨w.heap.size,0,none⟩),.pointer (some ⟨w.heap.size+1,0,none⟩)],.int .i64 h,.tuple #[],.pointer (some ⟨b,0,none⟩),.int .i64 h,.func (.func 97) #[] #[.pointer (some ⟨w12.heap.size,0,none⟩),.pointer (some ⟨w12.heap.size+1,0,none⟩)],.int .i64 x,undef,undef,undef],defers:= []}) ?assign ?body ?done ?stop);(case hLR=>rintro pre L'⟨⟨rest,hrest⟩,rfl⟩;obtain⟨f1,f2,f3⟩:=XeX n hC hdC hkC (l:=h::pre) (fun x hx=>by rcases List.mem_cons.1 hx with rfl|hx;·{exact hhC};·exact(Zt hC h hhC x (by rw[hrest];simp[hx])).1);refine⟨by simp,by simp,_,by simp,f2,f1,?_⟩;have:=Ar.Yv ((h::pre).foldl (Yf (adoptF n) d) C) d;omega);(case assign=>intro l' x W' K hK;gi_wp2;exact hK);(case body=>rintro l' G f pre x W' L'⟨rest,hrest⟩⟨-,rfl⟩o;have hxm:x∈C.below h:=by{rw[hrest];simp};obtain⟨b1,b2,b3,-⟩:=Zt hC h hhC x hxm;obtain⟨f1,f2,f3⟩:=XeX n hC hdC hkC (l:=h::pre) (fun x hx=>by rcases List.mem_cons.1 hx with rfl|hx;·{exact hhC};·exact(Zt hC h hhC x (by rw[hrest];simp[hx])).1);have hfl:(h::(pre++ [x])).foldl (Yf (adoptF n) d) C=Yf (adoptF n) d ((h::pre).foldl (Yf (adoptF n) d) C) x:=by{simp[List.foldl_append]};rw[hfl];have hPre:∃rest,C.below h=pre++ [x]++rest:=⟨rest,hrest⟩;generalize(h::pre).foldl (Yf (adoptF n) d) C=B1 at*;have q1:=XD (o.box (g:=gf) (o:= .cells #[.func (.func 82) #[] #[.pointer (some ⟨w.heap.size,0,none⟩),.pointer (some ⟨w.heap.size+1,0,none⟩)]] 122 (0,0)) (by simp));have HRC:=Xqh (Xg7 (rec:=adoptF n) (ab:=w.heap.size) (db:=w.heap.size+1) o.swap f1 (Nat.le_trans (Ar.Yv B1 d) (by omega)) (f2.has b1) (f2.has hdC) ((f2.Xa hdC).trans hkC) (by simp) (by simp) (fun L' w' hc o'=>by obtain⟨m1,m2,m3,m4,m5,m6⟩:=XeY (n:=n) hC f1 f2 (by omega) hdC hkC b1 (by omega) hc;exact HIH.out _ _ _ m1 m2 m3 m4 m5 m6 _ _ _ _ _ o'));have HP:=Xqh hPre;clear o f1 f2 f3 hfl hxm b1 b2 b3 hrest hPre o14 o13;gi_wp2_with fail;refine⟨trivial,?_⟩;refine(CallsIn.inRound l' (callsIn_wide.2 HRC.out)).mono ?_;rintro e w2⟨rfl,o2⟩;have HO2:=Xqh o2.swap;clear q1 o2 HRC;gi_wp2;exact⟨_,⟨HP.out,rfl⟩,HO2.out⟩);(case done=>rintro xs W' L' rfl⟨-,rfl⟩o;simp only[World.size_alloc]at o;have HO:=Xqh o;clear o o13 o14;have hD:=HO.out.box (g:=w12.heap.size+1+1) (o:= .deferred (some [])) (by simp);gi_wp2;simp only[World.size_alloc];refine⟨by simp,.inl ⟨_,_,rfl,run_takeDeferred hD,?_⟩⟩;refine⟨.tuple #[],by simp[results,Tryz.f39,go_sem],rfl,?_⟩;rw[hAF.out];have o20:=(HO.out.Xak (ZT (.deferred none) rfl) (World.putObj_heap_same (lt_of_block hD))).drop;exact o20.swap.drop.swap.drop.swap.drop.swap.drop.swap.drop);case stop=>rintro c pre W' L'-hf-;exact hf.elim
end
section
open Go.RowKit Go.Shelf
theorem Xg8 {A:Ar}{x d:Int}(hI:A.Inv)(hx:A.has x)(hd:A.has d)(hk:(A.get d).Xa=1)(hcap:A.cap d≤100000){w0 w:World}{B b:Nat}{L:List Xf}(o:Own w0 B (.arena b A::L) w):Calls Tryz.prog 39 #[.pointer (some ⟨b,0,none⟩),.int .i64 x,.int .i64 d] w fun e w'=>e= .returned (.tuple #[])∧Own w0 B (.arena b (A.YM x d)::L) w':=Xk6 A.ns.length A x d hI hx hd hk (by have:=Z3 (A:=A.cut x) (Ar.XC.cut hI hx) x;rw[Ar.YY]at this;exact this) hcap w0 w B b L o
theorem Xar {β:Type}{l:List Int}{k:Nat}{x:Int}(f:β→Int→β)(a:β)(hx:l[k]?=some x):(l.take (k+1)).foldl f a=f ((l.take k).foldl f a) x:=by
 have hk:=(List.getElem?_eq_some_iff.1 hx).1
 rw[List.take_succ_eq_append_getElem hk,(List.getElem?_eq_some_iff.1 hx).2,List.foldl_append]
 rfl
theorem Xg9 {A:Ar}{h:Int}(hI:A.Inv)(hh:A.has h):(A.X7 h).length≤A.ns.length:=by
 unfold Ar.X7
 split
 ·exact Ar.Yz hI.wf hh
 ·have:=hh.1;have:=hh.2;unfold Ar.n at this;simp;omega
theorem XeZ {A:Ar}{p n c:Int}(hI:A.Inv)(hp:A.has p)(hn:A.has n)(hs:A.ns.length+1≤100000){w0 w:World}{B b:Nat}{L:List Xf}(o:Own w0 B (.arena b A::L) w):Calls Tryz.prog 56 #[.pointer (some ⟨b,0,none⟩),.int .i64 p,.int .i64 n,.int .i64 c] w fun e w'=>e= .returned (.tuple #[])∧Own w0 B (.arena b (A.YD p n c)::L) w':=by
 obtain⟨d1,d2⟩:=hI.ZV p hp
 obtain⟨nd,hnd⟩:∃nd,A.get p=nd:=⟨_,rfl⟩
 have HS:=Xqh (hI.short (by omega))
 have HD:=Xqh (XcV (b:=b) (A:=A) o (by simp) HS.out hp hnd)
 have hle:=Xg9 hI hn
 have hcap:A.cap nd.doc≤100000:=Nat.le_trans (Ar.Jk A nd.doc) hs
 have HST:Hid (∀k,k≤(A.X7 n).length→((A.X7 n).take k|>.foldl (Yd nd.doc p c) A).Inv∧((A.X7 n).take k|>.foldl (Yd nd.doc p c) A).cap nd.doc=A.cap nd.doc∧(∀y,A.has y→((A.X7 n).take k|>.foldl (Yd nd.doc p c) A).has y∧(((A.X7 n).take k|>.foldl (Yd nd.doc p c) A).get y).Xa=(A.get y).Xa)):=Xqh (fun k hk=>Xes (by rw[←hnd];exact d1) (by rw[←hnd];exact d2) hI (fun x hx=>XbX hI hn x (List.mem_of_mem_take hx)))
 have HNH:=Xqh (XbX hI hn)
 have HDD:Hid (A.has nd.doc∧(A.get nd.doc).Xa=1):=Xqh (by rw[←hnd];exact⟨d1,d2⟩)
 have HIN:Hid (A.YD p n c=(A.X7 n).foldl (Yd nd.doc p c) A):=Xqh (by unfold Ar.YD;rw[hnd])
 have HNN:=Xqh hn
 clear o hI hp hn hnd d1 d2
 go_enter Tryz.func56,Tryz.ntmps56
 go_wp2_with fail
 refine HD.out.mono ?_
 rintro e w1⟨rfl,o1,-⟩
 clear HD
 have HN:=Xqh (XkK (b:=b) (A:=A) o1 (by simp) HS.out HNN.out)
 clear o1
 go_wp2_with fail
 refine HN.out.mono ?_
 rintro e w2⟨va,vc,rfl,o2⟩
 clear HN
 generalize A.X7 n=l at*
 have HO2:=Xqh o2.swap
 clear o2
 go_wp2
 go_loopw [18](fun i wr=>∃k:Nat,k≤l.length∧i= .int .i64 k∧Hid (Own w0 B (.arena b ((l.take k).foldl (Yd nd.doc p c) A):: .ints (.slice va l.length vc) l::L) wr))(fun i _=>l.length-(intOf i).toNat)
 case atStart=>exact⟨0,Nat.zero_le _,rfl,HO2⟩
 case round=>obtain⟨k,hk,rfl,hT⟩:=hrel;by_cases hlt:k<l.length;·{obtain⟨x,hx⟩:∃x,l[k]?=some x:=⟨_,List.getElem?_eq_getElem hlt⟩;have hri:Xy wr (.slice va l.length vc) l:=hT.out.ints (by simp);obtain⟨b1,o1,rfl,-,hcs⟩:=hri.cells (by omega);have c1:=hcs k x hx;obtain⟨f1,f2,f3⟩:=HST.out k (by omega);have HX:=Xqh (Xar (Yd nd.doc p c) A hx);obtain⟨x1,x2⟩:=f3 x (HNH.out x (List.mem_of_getElem? hx));obtain⟨y1,y2⟩:=f3 nd.doc HDD.out.1;generalize(l.take k).foldl (Yd nd.doc p c) A=A1 at*;have HC:=Xqh (Xg8 f1 x1 y1 (y2.trans HDD.out.2) (by rw[f2];exact hcap) hT.out);obtain⟨g1,g2,g3⟩:=Xbk f1 x1 y1 (y2.trans HDD.out.2);have hsz:(A1.YM x nd.doc).ns.length≤1000000:=by{have:=Ar.Yv (A1.YM x nd.doc) nd.doc;omega};have HP:=Xqh (fun W(q:Own w0 B (.arena b (A1.YM x nd.doc):: .ints (.slice (some ⟨b1,o1,none⟩) l.length vc) l::L) W)=>q.call (fun ρ hA=>XbR _ ρ b p x c W hA g1.wf hsz));have hps:Hid (((A1.YM x nd.doc).put p x c).2=Yd nd.doc p c A1 x):=Xqh rfl;clear hri hcs hx f1 f2 f3 x1 x2 y1 y2 g1 g2 g3 hT hsz;go_wp2_with fail;refine HC.out.mono ?_;rintro e w3⟨rfl,o3⟩;have HP3:=Xqh (HP.out _ o3);clear o3 HC HP;go_wp2_with fail;refine HP3.out.mono ?_;rintro e w4⟨rfl,o4⟩;rw[hps.out,←HX.out]at o4;have HO4:=Xqh o4;clear o4 HP3 c1;go_wp2;go_roundw;(case rel=>exact⟨k+1,hlt,by go_num,HO4⟩);case measure=>simp[intOf];omega};·have hkl:l.take k=l:=List.take_of_length_le (by omega);have o4:=hT.out;rw[hkl,←HIN.out]at o4;have HO4:=Xqh o4;clear o4 hT hkl;go_wp2;go_end0;exact⟨rfl,HO4.out.swap.drop⟩
end
end Go.Proofs.YtpicinjcmjaogaaGreatDoor
