import Derived.BigQuiet
import Derived.StillTailTactics
import Derived.BigRegion
import Derived.Deep.CutRange
import Derived.Test.YtpicinjcmjaogaaGreatZ15
import Derived.Test.YtpicinjcmjaogaaGreatZ19
set_option maxRecDepth 100000
set_option maxHeartbeats 4000000
set_option linter.unusedVariables false
namespace Go.Proofs.YtpicinjcmjaogaaGreat
section
open Go.RowKit
/-- The worlds in which all that was there is as it was. -/
def Wld (w : World) : Type := { W : World // Below w.heap.size w W }
theorem Wld.inh (w:World):Nonempty (Wld w):=⟨⟨w,Below.refl _ _⟩⟩
instance XpZ (w : World) : Nonempty (Wld w) := Wld.inh w
theorem Wld.cell {w:World}{p:Addr}{v:Value}(h:w.cell? p=some v):∀x:Wld w,x.val.cell? p=some v:=fun x=>Below.old x.2 h
theorem Wld.call {P:Program}{f:FuncId}{args:Array Value}{w:World}{x:Wld w}{v:Value}(h:Calls P f args x.val fun e w'=>e= .returned v∧Below x.val.heap.size x.val w'):Calls P f args x.val fun e w''=>e= .returned v∧∃y:Wld w,w''=y.val:=h.mono fun _ w'⟨he,hB⟩=>⟨he,⟨⟨w',x.2.trans (hB.mono x.2.size)⟩,rfl⟩⟩
theorem Wld.same {P:Program}{f:FuncId}{args:Array Value}{w:World}{x:Wld w}{v:Value}(h:Calls P f args x.val fun e w'=>e= .returned v∧x.val=w'):Calls P f args x.val fun e w''=>e= .returned v∧∃y:Wld w,w''=y.val:=h.mono fun _ w'⟨he,hB⟩=>⟨he,⟨x,hB.symm⟩⟩
theorem XaV {P:Program}{id:Nat}{Q:Exit→Act→World→Prop}{a:Act}{w:World}{l:List Oper}(hm:P.follows .mixedOrders=true)(hB:Region.lexB .any l.toArray=true)(h:wpQuiet P l.toArray (fun W=>∃x:Wld w,W=x.val) (fun a'=>∀W,(∃x:Wld w,W=x.val)→Q .normal a' W) l a):(Code.region id l.toArray true).wp P Q a w:=wp_region_quiet (C:=fun W=>∃x:Wld w,W=x.val) hm hB ⟨⟨w.drew,Below.drew (Below.refl _ _)⟩,rfl⟩ (by simpa using h)
theorem XkL (w:World)(n:Nd)(kv av:Value):YB ((w.alloc (.cells JN 46)).setCells w.heap.size 0 (n.cells kv av)) w.heap.size 0 n kv av∧Below w.heap.size w ((w.alloc (.cells JN 46)).setCells w.heap.size 0 (n.cells kv av)):=by
 have o:=(Own.start w).XU n kv av
 refine⟨?_,o.low⟩
 have h:=o.box (g:=w.heap.size) (o:= .cells (n.cells kv av).toArray 46 (0,0)) (by simp)
 have c:∀j v,(n.cells kv av)[j]?=some v→((w.alloc (.cells JN 46)).setCells w.heap.size 0 (n.cells kv av)).cell? ⟨w.heap.size,0+j,none⟩=some v:=fun j v hj=>by rw[cell_of_row _ _ _ _ _ _ h,Nat.zero_add];simpa using hj
 exact⟨c 0 _ rfl,c 1 _ rfl,c 2 _ rfl,c 3 _ rfl,c 4 _ rfl,c 5 _ rfl,c 6 _ rfl,c 7 _ rfl,c 8 _ rfl,c 9 _ rfl,c 10 _ rfl,c 11 _ rfl,c 12 _ rfl⟩
end
section
open Go.RowKit Go.Shelf
theorem XkM :(Tryz.prog.info? 43).map (fun i=>(i.zero,i.size,i.bytes))=some (some (.int .i64 0),1,8):=by
 kernel_rfl
/-- A slice of kinds that owns its row. -/
abbrev Xf.kinds (v : Value) (l : List Int) : Xf := .row 43 1 v l.length (l.map Xp)
theorem XkN {w:World}{b:Nat}{e:TypeId}{v:Value}{l:List Int}(h:w.ownsRow b e 1 v l.length (l.map Xp)):Xy w v l:=by
 have h':XT w (fun k=>if v.ownBlock=some k then 1 else 0) 1 e 1 v l.length (l.map Xp):=by refine⟨⟨h.1,?_⟩,fun g hg=>by simp[hg]⟩;rcases h.2 with h2|⟨g,cap,cur,h3,_,h4⟩;·{exact .inl h2};·exact .inr ⟨g,cap,cur,h3,Nat.zero_le _,h4⟩
 exact h'.reads
theorem Own.kinds {w0 w:World}{B:Nat}{v:Value}{x:List Int}{l:List Xf}(h:Own w0 B l w)(hm:Xf.kinds v x∈l):Xy w v x:=XkN (h.row hm)
/-- A move, as its cells. -/
abbrev mvO (b : Nat) (p n c : Int) (r : Bool) : Obj := .cells #[.pointer (some ⟨b, 0, none⟩), .int .i64 p, .int .i64 n, .int .i64 c, .bool r] 141 (0, 0)
theorem Z4 {w:World}{g b:Nat}{p n c:Int}{r:Bool}(h:w.heap[g]?=some (mvO b p n c r)):w.cell? ⟨g,0,none⟩=some (.pointer (some ⟨b,0,none⟩))∧w.cell? ⟨g,1,none⟩=some (.int .i64 p)∧w.cell? ⟨g,2,none⟩=some (.int .i64 n)∧w.cell? ⟨g,3,none⟩=some (.int .i64 c)∧w.cell? ⟨g,4,none⟩=some (.bool r):=⟨(cell_of_row w _ _ _ _ _ h).trans rfl,(cell_of_row w _ _ _ _ _ h).trans rfl,(cell_of_row w _ _ _ _ _ h).trans rfl,(cell_of_row w _ _ _ _ _ h).trans rfl,(cell_of_row w _ _ _ _ _ h).trans rfl⟩
theorem XkO (v:Value)(l:List Int)(x:Int)(w:World)(hv:Xy w v l):Calls Tryz.prog 252 #[v,.int .i64 x] w fun e w'=>e= .returned (.int .i64 (Yt (fun y=>decide (y=x)) l))∧w=w':=by
 obtain⟨av,cv,rfl,hc1,hc2,hc3⟩:=hv.form
 go_enter Tryz.func252,Tryz.ntmps252
 go_wp2
 go_loop [8](fun i=>∃k:Nat,k≤l.length∧i= .int .i64 k∧Hid (∀j y,j<k→l[j]?=some y→(fun y=>decide (y=x)) y=false))(fun i=>l.length-(intOf i).toNat)
 case atStart=>exact⟨0,Nat.zero_le _,rfl,fun j y hj=>by omega⟩
 case round=>obtain⟨k,hk,rfl,hT⟩:=hrel;by_cases hlt:k<l.length;·{obtain⟨b1,o1,rfl,hcs⟩:=hc3 (by omega);have hck:=hcs k hlt;clear hc3 hcs;have hy:l[k]?=some (l[k]?.getD 0):=by{simp[hlt]};generalize l[k]?.getD 0=y at hck hy;have HY:=Xqh hy;clear hy;by_cases hxy:x=y;·{have h1:(x==y)=true:=by{simp[hxy]};have HXY:=Xqh hxy;clear hxy;go_wp2;go_ret;exact⟨Zd (Xbc HY.out (by simp[HXY.out]) hT.out).symm,rfl⟩};·have h1:(x==y)=false:=by{simp[hxy]};have HXY:=Xqh hxy;clear hxy;go_wp2;go_round;(case rel=>exact⟨k+1,hlt,by go_num,fun j z hj hz=>by by_cases hjk:j<k;·{exact hT.out j z hjk hz};·have hjk:j=k:=by{omega};rw[hjk,HY.out]at hz;cases hz;simp;exact fun e=>HXY.out e.symm⟩);case measure=>simp[intOf];omega};·go_wp2;go_ret;exact⟨Zd (JT (fun j y hj=>hT.out j y (by have:=(List.getElem?_eq_some_iff.1 hj).1;omega) hj)).symm,rfl⟩
theorem Xbm (v:Value)(l:List Int)(x:Int)(w:World)(hv:Xy w v l):Calls Tryz.prog 250 #[v,.int .i64 x] w fun e w'=>e= .returned (.bool (decide (x∈l)))∧w=w':=by
 have hd:decide (0≤Yt (fun y=>decide (y=x)) l)=decide (x∈l):=by rw[Xd2,Bool.eq_iff_iff,List.any_eq_true];simp only[decide_eq_true_eq];exact⟨fun⟨y,h1,h2⟩=>h2▸h1,fun h=>⟨x,h,rfl⟩⟩
 have HC:=Xqh (XkO v l x w hv)
 have HD:=Xqh hd
 clear hd hv
 generalize Yt (fun y=>decide (y=x)) l=i at*
 generalize decide (x∈l)=z at*
 by_cases hi:0≤i
 ·have e:z=true:=by{rw[←HD.out];simp[hi]};subst e;clear HD;go_enter Tryz.func250,Tryz.ntmps250;go_wp2_with fail;refine HC.out.mono ?_;rintro e w1⟨rfl,rfl⟩;go_wp2;go_ret;exact⟨by simp,rfl⟩
 ·have e:z=false:=by{rw[←HD.out];simp[hi]};subst e;clear HD;go_enter Tryz.func250,Tryz.ntmps250;go_wp2_with fail;refine HC.out.mono ?_;rintro e w1⟨rfl,rfl⟩;go_wp2;go_ret;exact⟨by simp;omega,rfl⟩
theorem XkP {A:Ar}{c:Int}{K:List Int}{k:Nat}{x:Int}(s:Bool×List Int×List Int)(hx:K[k]?=some x):(K.take (k+1)).foldl (Zf A c) s=Zf A c ((K.take k).foldl (Zf A c) s) x:=by
 have hk:=(List.getElem?_eq_some_iff.1 hx).1
 rw[List.take_succ_eq_append_getElem hk,(List.getElem?_eq_some_iff.1 hx).2,List.foldl_append]
 rfl
theorem Xg4 {A:Ar}{c:Int}:∀(K:List Int)(s:Bool×List Int×List Int),(K.foldl (Zf A c) s).2.1.length+(K.foldl (Zf A c) s).2.2.length≤s.2.1.length+s.2.2.length+K.length
 | [],s=>by{simp}
 |x::K,s=>by{have:=Xg4 (A:=A) (c:=c) K (Zf A c s x);have h2:(Zf A c s x).2.1.length+(Zf A c s x).2.2.length≤s.2.1.length+s.2.2.length+1:=by{unfold Zf;split;·{dsimp only;omega};·split;·{simp;omega};·simp;omega};simp only[List.foldl_cons,List.length_cons];omega}
theorem Xg5 {w0 w:World}{B b:Nat}{A:Ar}{l:List Xf}{p n c:Int}{r:Bool}(o:Own w0 B l w)(hm:Xf.arena b A∈l)(hI:A.Inv)(hs:A.ns.length≤100000)(hp:A.has p):Calls Tryz.prog 249 #[.agg #[.pointer (some ⟨b,0,none⟩),.int .i64 p,.int .i64 n,.int .i64 c,.bool r]] w fun e w'=>∃v1 v2,e= .returned (.tuple #[v1,v2])∧Own w0 B (.kinds v1 (A.Zn p c).1:: .kinds v2 (A.Zn p c).2::l) w':=by
 obtain⟨i0,hi,hz0,hz1,hz2⟩:=info_parts XkM
 have HI:=Xqh hi
 clear hi
 have o1:=o.alloc (.cells #[.pointer (some ⟨b,0,none⟩),.int .i64 p,.int .i64 n,.int .i64 c,.bool r] 141)
 have HS:=Xqh (hI.short (by omega))
 have HK:=Xqh (Xap (b:=b) (A:=A) (h:=p) o1 (by simp[hm]) HS.out)
 have hko:A.YN p=(A.get p).Xc:=if_pos hp
 rw[hko]at HK
 have HM:=Xqh hm
 have hkl:=Ar.Yz hI.wf hp
 have HX:=Xqh (fun x(hx:x∈(A.get p).Xc)=>(XF hI hp hx).1)
 have HSP:Hid (A.Zn p c=((A.get p).Xc.foldl (Zf A c) (false,[],[])).2):=Xqh rfl
 clear o o1 hm hI hp hko
 generalize(A.get p).Xc=K at*
 go_enter Tryz.func249,Tryz.ntmps249
 go_wp2_with fail
 refine HK.out.mono ?_
 rintro e w1⟨ka,kc,rfl,o2⟩
 clear HK
 have o3:=(((o2.fresh (Below.refl _ _) ⟨fun _=>False,⟨World.ownsRow_nil _ 0 43 1,fun k=>⟨fun h=>h.elim,fun h=>by simp[Value.ownBlock]at h⟩⟩,fun k hk=>hk.elim⟩:Own w0 B (.kinds (.slice none 0 0) []::_) w1)).fresh (Below.refl _ _) ⟨fun _=>False,⟨World.ownsRow_nil _ 0 43 1,fun k=>⟨fun h=>h.elim,fun h=>by simp[Value.ownBlock]at h⟩⟩,fun k hk=>hk.elim⟩:Own w0 B (.kinds (.slice none 0 0) []:: .kinds (.slice none 0 0) []::_) w1)
 have HO:=Xqh o3
 clear o2 o3
 generalize hg:w.heap.size=g at*
 clear hg
 obtain⟨LL,hLL⟩:∃LL,LL=Xf.ints (.slice ka K.length kc) K:: .box g (mvO b p n c r)::l:=⟨_,rfl⟩
 have HLL:Hid (Xf.ints (.slice ka K.length kc) K∈LL∧Xf.box g (mvO b p n c r)∈LL∧Xf.arena b A∈LL):=Xqh (by subst hLL;exact⟨by simp,by simp,by simp[HM.out]⟩)
 rw[←hLL]at HO
 have HLE:=Xqh hLL
 clear hLL HM
 have HM:Hid (Xf.arena b A∈LL):=Xqh HLL.out.2.2
 go_wp2
 go_loopw [2,3,4,13](fun u2 u3 u4 i wr=>∃(k:Nat)(s:Bool×List Int×List Int),k≤K.length∧i= .int .i64 k∧Hid ((K.take k).foldl (Zf A c) (false,[],[])=s)∧u4= .bool s.1∧Hid (Own w0 B (.kinds u2 s.2.1:: .kinds u3 s.2.2::LL) wr))(fun _ _ _ i _=>K.length-(intOf i).toNat)
 case atStart=>exact⟨0,_,Nat.zero_le _,rfl,Xqh rfl,rfl,HO⟩
 case round=>obtain⟨k,s,hk,rfl,HST,rfl,hT⟩:=hrel;by_cases hlt:k<K.length;·{obtain⟨x,hx⟩:∃x,K[k]?=some x:=⟨_,List.getElem?_eq_getElem hlt⟩;have hri:Xy wr (.slice ka K.length kc) K:=hT.out.ints (by simp[HLL.out.1]);obtain⟨b1,o1,rfl,-,hcs⟩:=hri.cells (by omega);have c1:=hcs k x hx;obtain⟨m1,m2,m3,m4,m5⟩:=Z4 (hT.out.box (g:=g) (o:=mvO b p n c r) (by simp[HLL.out.2.1]));have hx2:=HX.out x (List.mem_of_getElem? hx);have hst:=XkP (A:=A) (c:=c) (false,[],[]) hx;have hsl:=Xg4 (A:=A) (c:=c) (K.take k) (false,[],[]);rw[HST.out]at hst hsl;have hl1:s.2.1.length≤100000∧s.2.2.length≤100000:=by{simp at hsl;omega};obtain⟨nd,hnd⟩:∃nd,A.get x=nd:=⟨_,rfl⟩;have HN:=Xqh hnd;unfold Zf at hst;rw[hnd]at hst;clear hnd hri hcs hx hsl HST;obtain⟨sb,l1,l2⟩:=s;dsimp only at*;obtain⟨hl1,hl2⟩:=hl1;by_cases hxc:x=c;·{rw[if_pos hxc]at hst;have HST2:=Xqh hst;have e1:(x==c)=true:=by{simp[hxc]};have hT2:=hT;clear hst hxc hT;go_wp2;go_roundw;(case rel=>exact⟨k+1,_,hlt,by go_num,HST2,rfl,hT2⟩);case measure=>simp[intOf];omega};·rw[if_neg hxc]at hst;have e1:(x==c)=false:=by{simp[hxc]};clear hxc;have hT3:=hT;clear hT;cases sb with|true=>{rw[if_pos rfl]at hst;have HST2:=Xqh hst;clear hst;have HC:=Xqh (Zv (b:=b) (A:=A) (n:=nd) hT3.out (by simp[HM.out]) HS.out hx2 HN.out);have HT:=Xqh hT3.out;go_wp2_with fail;refine HC.out.mono ?_;rintro e w3⟨rfl,o3,-⟩;have HR:=Xqh (YP (o3.row (e:=43) (size:=1) (v:=u3) (n:=l2.length) (xs:=l2.map Xp) (by simp)) (Nat.zero_le _));have HO3:=Xqh o3;clear o3 HC m1 m2 m3 m4 m5 c1;generalize nd.Xa=kd at*;go_wp2_with(at_builtin;refine wpList_append_own_at _ rfl _ _ 213 rfl 0 43 i0 _ 1 8 Tryz.underlying213 HI.out hz0 hz1 hz2 rfl (by decide) _ _ _ rfl (HR.out.alloc _) ⟨w3.heap.size,0,none⟩ 1 1 [Xp kd] rfl rfl ?c1 ?c2 ?c3 ?c4 ?c5 ?_);(case c1=>intro j u hj;rw[Addr.add_mid,Nat.zero_add];exact Yi rfl (by simpa[Xp]using hj));(case c2=>intro u hu;simp at hu;subst hu;rfl);(case c3=>unfold maxLen;omega);(case c4=>omega);(case c5=>first|(simp;done)|(simp;omega));intro v' w4 hown hgrow _ hat;have o4:=HO3.out.swap;have o5:=((o4.alloc (.cells #[.int .i64 kd] 43)).swap.grow hown hgrow (by simpa using hat)).swap.drop;have e1:(l2++ [kd]).length=l2.length+1:=by{simp};have e2:(l2++ [kd]).map Xp=l2.map Xp++ [Xp kd]:=by{simp};have o6:Own w0 B (.kinds v' (l2++ [kd]):: .kinds u2 l1::LL) w4:=by{unfold Xf.kinds;rw[e1,e2];exact o5};have HO6:=Xqh o6.swap;clear o4 o5 o6 hown hgrow hat HT hT3;go_wp2;go_roundw;(case rel=>exact⟨k+1,_,hlt,by go_num,HST2,rfl,HO6⟩);case measure=>simp[intOf];omega}|false=>rw[if_neg (by simp)]at hst;have HST2:=Xqh hst;clear hst;have HC:=Xqh (Zv (b:=b) (A:=A) (n:=nd) hT3.out (by simp[HM.out]) HS.out hx2 HN.out);have HT:=Xqh hT3.out;go_wp2_with fail;refine HC.out.mono ?_;rintro e w3⟨rfl,o3,-⟩;have HR:=Xqh (YP (o3.row (e:=43) (size:=1) (v:=u2) (n:=l1.length) (xs:=l1.map Xp) (by simp)) (Nat.zero_le _));have HO3:=Xqh o3;clear o3 HC m1 m2 m3 m4 m5 c1;generalize nd.Xa=kd at*;go_wp2_with(at_builtin;refine wpList_append_own_at _ rfl _ _ 213 rfl 0 43 i0 _ 1 8 Tryz.underlying213 HI.out hz0 hz1 hz2 rfl (by decide) _ _ _ rfl (HR.out.alloc _) ⟨w3.heap.size,0,none⟩ 1 1 [Xp kd] rfl rfl ?c1 ?c2 ?c3 ?c4 ?c5 ?_);(case c1=>intro j u hj;rw[Addr.add_mid,Nat.zero_add];exact Yi rfl (by simpa[Xp]using hj));(case c2=>intro u hu;simp at hu;subst hu;rfl);(case c3=>unfold maxLen;omega);(case c4=>omega);(case c5=>first|(simp;done)|(simp;omega));intro v' w4 hown hgrow _ hat;have o4:=HO3.out;have o5:=((o4.alloc (.cells #[.int .i64 kd] 43)).swap.grow hown hgrow (by simpa using hat)).swap.drop;have e1:(l1++ [kd]).length=l1.length+1:=by{simp};have e2:(l1++ [kd]).map Xp=l1.map Xp++ [Xp kd]:=by{simp};have o6:Own w0 B (.kinds v' (l1++ [kd]):: .kinds u3 l2::LL) w4:=by{unfold Xf.kinds;rw[e1,e2];exact o5};have HO6:=Xqh o6;clear o4 o5 o6 hown hgrow hat HT hT3;go_wp2;go_roundw;(case rel=>exact⟨k+1,_,hlt,by go_num,HST2,rfl,HO6⟩);case measure=>simp[intOf];omega};·have hkl2:K.take k=K:=List.take_of_length_le (by omega);rw[hkl2]at HST;have HF:Hid (A.Zn p c=s.2):=Xqh (by rw[HSP.out,HST.out]);have o4:=hT.out;rw[HLE.out]at o4;have HO4:=Xqh o4;clear o4 hT hkl2 HST HSP HO HLE HLL HM;go_wp2;go_ret2;refine⟨_,_,rfl,?_⟩;rw[HF.out];exact(((HO4.out.ZI).drop).ZI.drop)
end
section
open Classical
def Ar.parP (A : Ar) (h : Int) : Prop := (A.get h).Xd ≠ 0 → A.has (A.get h).Xd ∧ (A.get h).Xa ≠ 1 ∧ (A.get h).Xa ≠ 2 ∧ h ∈ (A.get (A.get h).Xd).Xc
def Ar.kidP (A : Ar) (h : Int) : Prop := ∀ (i : Nat) (k : Int), (A.get h).Xc[i]? = some k → A.has k ∧ (A.get k).Xd = h ∧ Yt (fun y => decide (y = k)) (A.get h).Xc = i
def Ar.ownP (A : Ar) (h : Int) : Prop :=
  (A.has (A.get h).doc ∧ (A.get (A.get h).doc).Xa = 1 ∧ ((A.get h).Xa = 1 → (A.get h).doc = h)) ∧
  (XN (A.get h) → A.has (A.get h).Xg ∧ (A.get (A.get h).Xg).Xa = 2 ∧ (A.get (A.get h).Xg).host = h) ∧
  ((A.get h).host = 0 ∨ A.has (A.get h).host ∧ XN (A.get (A.get h).host) ∧ (A.get (A.get h).host).Xg = h)
/-- What the Xn asks of one node. -/
def Ar.refP (A : Ar) (h : Int) : Prop :=
  unusedP (A.get h) ∧ XS (A.get h).space ∧ Ys (A.get h).Xb ∧ (XZ (A.get h).Xb).length = (A.get h).Xb.length ∧ A.parP h ∧ A.kidP h ∧ A.ownP h
theorem str_nil {s:ByteArray}(h:s.toList= []):s=ByteArray.empty:=str_inj (by rw[h];simp)
theorem nil_str {s:ByteArray}(h:s=ByteArray.empty):s.toList= []:=by
 rw[h]
 simp
theorem findI_at {l:List Int}(hn:l.Nodup){i:Nat}{k:Int}(h:l[i]?=some k):Yt (fun y=>decide (y=k)) l=i:=by
 refine Xbc h (by simp) (fun j y hj hy=>?_)
 simp only[decide_eq_false_iff_not]
 rintro rfl
 obtain⟨hi,ei⟩:=List.getElem?_eq_some_iff.1 h
 obtain⟨hj',ej⟩:=List.getElem?_eq_some_iff.1 hy
 unfold List.Nodup at hn
 rw[List.pairwise_iff_getElem]at hn
 exact hn j i hj' hi hj (by rw[ei,ej])
theorem findI_memI {l:List Int}{k:Int}(h:k∈l):0≤Yt (fun y=>decide (y=k)) l:=by
 have:=Xd2 (fun y=>decide (y=k)) l
 have h2:l.any (fun y=>decide (y=k))=true:=by rw[List.any_eq_true];exact⟨k,h,by simp⟩
 rw[h2]at this
 simpa using this
theorem findI_notmem {l:List Int}{k:Int}(h:k∉l):Yt (fun y=>decide (y=k)) l<0:=by
 rw[JT]
 ·omega
 ·intro j y hy;simp only[decide_eq_false_iff_not];rintro rfl;exact h (List.mem_of_getElem? hy)
theorem nodup_of_find {l:List Int}(h:∀(i:Nat)(k:Int),l[i]?=some k→Yt (fun y=>decide (y=k)) l=i):l.Nodup:=by
 refine nodup_of_inj (fun i j hi hj hij e=>?_)
 have a:=h i _ (List.getElem?_eq_getElem hi)
 have b:=h j _ (List.getElem?_eq_getElem hj)
 rw[e,b]at a
 omega
theorem refP_links {A:Ar}{h:Int}(hr:A.refP h):A.LinksOK h∧A.OnceOK h:=by
 obtain⟨⟨u1,u2,u3,u4,u5,u6,u7,u8,u9⟩,hs,ha,ho,hp,hk,hd,hc,hh⟩:=hr
 refine⟨⟨⟨u1,u2,fun hne=>?_,hs,fun h4=>⟨(u4 h4).1,(u4 h4).2.1⟩,fun h4 h3=>str_nil ((u4 h4).2.2 h3),fun h3=>⟨str_nil (u5 h3).1,str_nil (u5 h3).2⟩,fun hda=>?_,fun hq=>?_,fun hct=>?_,fun hho=>?_,ha,ho⟩,hd.1,hd.2.1,hd.2.2,fun hq=>⟨(hp hq).1,(hp hq).2.1,(hp hq).2.2.1⟩,fun k hkk=>?_,hc,fun hho=>?_⟩,?_,fun hq=>(hp hq).2.2.2⟩
 ·by_cases h1:(A.get h).Xa=1;·{exact Or.inl h1};·by_cases h2:(A.get h).Xa=2;·{exact Or.inr (Or.inl h2)};·by_cases h4:(A.get h).Xa=4;·{exact Or.inr (Or.inr h4)};·exact absurd (u3 h4 h1 h2) hne
 ·by_cases h5:(A.get h).Xa=5;·{exact Or.inl h5};·by_cases h6:(A.get h).Xa=6;·{exact Or.inr h6};·exact absurd (str_nil (u6 h5 h6)) hda
 ·exact u7.elim id (fun q=>by rw[q]at hq;cases hq)
 ·exact u8.elim id (fun q=>absurd q hct)
 ·exact u9.elim id (fun q=>absurd q hho)
 ·obtain⟨i,hi,e⟩:=List.getElem_of_mem hkk;have:=hk i k (by rw[List.getElem?_eq_getElem hi,e]);exact⟨this.1,this.2.1⟩
 ·exact hh.elim (fun q=>absurd q hho) id
 ·exact nodup_of_find (fun i k hi=>(hk i k hi).2.2)
theorem links_refP {A:Ar}{h:Int}(hl:A.LinksOK h)(ho:A.OnceOK h):A.refP h:=by
 obtain⟨f,d1,d2,d3,p,k,c,hh⟩:=hl
 refine⟨⟨f.k1,f.k6,fun h4 h1 h2=>?_,fun h4=>⟨(f.el h4).1,(f.el h4).2,fun h3=>nil_str (f.nm h4 h3)⟩,fun h3=>⟨nil_str (f.ps h3).1,nil_str (f.ps h3).2⟩,fun h5 h6=>?_,?_,?_,?_⟩,f.sp,f.at1,f.at2,fun hp=>⟨(p hp).1,(p hp).2.1,(p hp).2.2,ho.mem hp⟩,fun i k' hi=>⟨(k k' (List.mem_of_getElem? hi)).1,(k k' (List.mem_of_getElem? hi)).2,findI_at ho.nd hi⟩,⟨d1,d2,d3⟩,c,?_⟩
 ·by_cases hne:(A.get h).Xc= [];·{exact hne};·rcases f.Xc hne with q|q|q;·{exact absurd q h1};·{exact absurd q h2};·exact absurd q h4
 ·by_cases hd:(A.get h).data=ByteArray.empty;·{exact nil_str hd};·rcases f.da hd with q|q;·{exact absurd q h5};·exact absurd q h6
 ·by_cases hq:(A.get h).XI=true;·{exact Or.inl (f.qu hq)};·exact Or.inr (by simpa using hq)
 ·by_cases hq:(A.get h).Xg=0;·{exact Or.inr hq};·exact Or.inl (f.ct hq)
 ·by_cases hq:(A.get h).host=0;·{exact Or.inr hq};·exact Or.inl (f.ho hq)
 ·by_cases hq:(A.get h).host=0;·{exact Or.inl hq};·exact Or.inr (hh hq)
theorem refSound_iff (A:Ar):((∀h,A.has h→A.refP h)∧∀h,A.has h→¬∃j:Nat,1≤j∧j≤A.ns.length+1∧upI A j h=h)↔A.SoundP:=by
 constructor
 ·rintro⟨h1,h2⟩;have hl:=fun h hh=>(refP_links (h1 h hh)).1;exact⟨hl,fun h hh=>(refP_links (h1 h hh)).2,(rooted_iff (Ar.LinksOK.up hl)).1 (fun h hh j j1 j2 e=>h2 h hh ⟨j,j1,j2,e⟩)⟩
 ·rintro⟨h1,h2,h3⟩;exact⟨fun h hh=>links_refP (h1 h hh) (h2 h hh),fun h hh⟨j,j1,j2,e⟩=>(rooted_iff (Ar.LinksOK.up h1)).2 h3 h hh j j1 j2 e⟩
end
section
open Go.RowKit Classical
/-- A table. -/
def tab (m : Nat) (f : Nat → Value) : List Value := (List.range m).map f
theorem tab_length (m:Nat)(f:Nat→Value):(tab m f).length=m:=by
 simp[tab]
theorem tab_get {m:Nat}{f:Nat→Value}{x:Nat}(h:x<m):(tab m f)[x]?=some (f x):=by
 unfold tab
 rw[List.getElem?_map,List.getElem?_range h]
 rfl
theorem tab_set (m:Nat)(f:Nat→Value)(k:Nat)(u:Value):(tab m f).set k u=tab m (fun x=>if x=k then u else f x):=by
 apply List.ext_getElem?
 intro x
 rw[List.getElem?_set]
 by_cases hx:x<m
 ·rw[tab_get (f:=f) hx,tab_get (f:=fun x=>if x=k then u else f x) hx];by_cases hk:k=x;·{subst hk;simp[tab_length,hx]};·rw[if_neg hk,if_neg (fun e=>hk e.symm)]
 ·have h1:(tab m f)[x]?=none:=List.getElem?_eq_none (by rw[tab_length];omega);have h2:(tab m (fun x=>if x=k then u else f x))[x]?=none:=List.getElem?_eq_none (by rw[tab_length];omega);rw[h2];split;·{rw[if_neg (by rw[tab_length];omega)]};·exact h1
theorem tab_made (m:Nat)(z:Value):(madeCells #[z] (m*1)).toList=tab m (fun _=>z):=by
 apply List.ext_getElem?
 intro x
 by_cases hx:x<m
 ·rw[tab_get hx];simp[madeCells,hx,Nat.mod_one]
 ·rw[List.getElem?_eq_none (by simp[madeCells];omega),List.getElem?_eq_none (by rw[tab_length];omega)]
theorem tab_congr {m:Nat}{f g:Nat→Value}(h:∀x,x<m→f x=g x):tab m f=tab m g:=by
 unfold tab
 exact List.map_congr_left (fun x hx=>h x (List.mem_range.1 hx))
end
end Go.Proofs.YtpicinjcmjaogaaGreat
