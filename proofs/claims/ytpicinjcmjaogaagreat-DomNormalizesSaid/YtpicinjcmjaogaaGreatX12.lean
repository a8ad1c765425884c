import Derived.BigQuiet
import Derived.StillTailTactics
import Derived.BigRegion
import Derived.Deep.CutRange
import Derived.Test.YtpicinjcmjaogaaGreatX10
import Derived.Test.YtpicinjcmjaogaaGreatX11
set_option maxRecDepth 100000
set_option maxHeartbeats 4000000
set_option linter.unusedVariables false
namespace Go.Proofs.YtpicinjcmjaogaaGreat
section
open Go.RowKit
theorem XeS {w0 w:World}{B b:Nat}{A:Ar}{l:List Xf}{h:Int}(o:Own w0 B l w)(hm:Xf.arena b A∈l)(hI:A.Inv):Calls Tryz.prog 41 #[.pointer (some ⟨b,0,none⟩),.int .i64 h] w fun e w'=>e= .returned (.int .i64 (A.index h))∧w=w':=by
 obtain⟨ρ,hA⟩:=o.arena hm
 exact XjQ A ρ b h w hA (fun hh hp=>(hI.wf.link h hh hp).1)
theorem XkJ {A:Ar}{h:Int}(hp:(A.get h).Xd=0):A.next h=0:=by
 unfold Ar.next
 have:A.index h= -1:=if_neg (fun q=>q.2 hp)
 rw[this,if_neg (fun q=>by have:=q.1;omega)]
theorem XeT {A:Ar}(hI:A.Inv){h:Int}(hh:A.has h)(hp:(A.get h).Xd≠0):∃i:Nat,A.index h=i∧i<(A.get (A.get h).Xd).Xc.length∧(A.get (A.get h).Xd).Xc[i]?=some h:=by
 obtain⟨h1,h2,h3⟩:=hI.wf.link h hh hp
 obtain⟨i,e,hi,hg,_⟩:=XcI h2
 exact⟨i,by unfold Ar.index;rw[if_pos ⟨hh,hp⟩,e],hi,hg⟩
theorem Xc5 {w0 w:World}{B b:Nat}{A:Ar}{l:List Xf}{h:Int}(o:Own w0 B l w)(hm:Xf.arena b A∈l)(hI:A.Inv)(hs:A.ns.length≤1000000)(hh:A.has h):Calls Tryz.prog 120 #[.pointer (some ⟨b,0,none⟩),.int .i64 h] w fun e w'=>e= .returned (.int .i64 (A.next h))∧Own w0 B l w':=by
 have hpo:A.parentOf h=(A.get h).Xd:=if_pos hh
 have HI:=Xqh hI
 have HM:=Xqh hm
 have HP:=Xqh (Xev o hm (h:=h))
 have HK:=Xqh (Xap o hm (hI.short hs) (h:=(A.get h).Xd))
 rw[hpo]at HP
 by_cases hp:(A.get h).Xd=0
 ·have hx:A.index h= -1:=if_neg (fun q=>q.2 hp);have HN:=Xqh (XkJ hp);clear hp hI hs o hm hpo hh;go_enter Tryz.func120,Tryz.ntmps120;go_wp2_with fail;refine HP.out.mono ?_;rintro e w1⟨rfl,rfl⟩;go_wp2_with fail;refine HK.out.mono ?_;rintro e w1⟨ka,kc,rfl,o1⟩;clear HP HK;go_wp2_with fail;refine(XeS o1 (by simp[HM.out]) HI.out).mono ?_;rintro e w2⟨rfl,rfl⟩;rw[hx];have HO:=Xqh o1;clear o1;go_wp2;go_ret;rw[HN.out];exact⟨rfl,HO.out.drop⟩
 ·obtain⟨i,hx,hi,-⟩:=XeT hI hh hp;have hpp:=(hI.wf.link h hh hp).1;have hkl:=Ar.Yz hI.wf hpp;have hko:A.YN (A.get h).Xd=(A.get (A.get h).Xd).Xc:=if_pos hpp;rw[hko]at HK;have HN:Hid (A.next h=if i+1<(A.get (A.get h).Xd).Xc.length then(A.get (A.get h).Xd).Xc[i+1]?.getD 0 else 0):=Xqh (by unfold Ar.next;rw[hx];by_cases q:i+1<(A.get (A.get h).Xd).Xc.length;·{rw[if_pos ⟨by omega,by omega⟩,if_pos q];rfl};·rw[if_neg (fun e=>q (by have:=e.2;omega)),if_neg q]);generalize(A.get (A.get h).Xd).Xc=K at*;generalize(A.get h).Xd=p at*;have hil:(i:Int)≤1000000:=by{omega};clear hp hI o hm hpo hh hko hpp;by_cases hlt:i+1<K.length;·{rw[if_pos hlt]at HN;go_enter Tryz.func120,Tryz.ntmps120;go_wp2_with fail;refine HP.out.mono ?_;rintro e w1⟨rfl,rfl⟩;go_wp2_with fail;refine HK.out.mono ?_;rintro e w1⟨ka,kc,rfl,o1⟩;clear HP HK;go_wp2_with fail;refine(XeS o1 (by simp[HM.out]) HI.out).mono ?_;rintro e w2⟨rfl,rfl⟩;rw[hx];have hri:Xy w1 (.slice ka K.length kc) K:=o1.ints (by simp);obtain⟨b1,o2,rfl,-,hcs⟩:=hri.cells (by omega);have d1:=hcs (i+1) (K[i+1]?.getD 0) (by simp[List.getElem?_eq_getElem hlt]);have HO:=Xqh o1;clear o1 hcs;generalize K[i+1]?.getD 0=y at*;go_wp2;go_ret;rw[HN.out];exact⟨rfl,HO.out.drop⟩};·rw[if_neg hlt]at HN;go_enter Tryz.func120,Tryz.ntmps120;go_wp2_with fail;refine HP.out.mono ?_;rintro e w1⟨rfl,rfl⟩;go_wp2_with fail;refine HK.out.mono ?_;rintro e w1⟨ka,kc,rfl,o1⟩;clear HP HK;go_wp2_with fail;refine(XeS o1 (by simp[HM.out]) HI.out).mono ?_;rintro e w2⟨rfl,rfl⟩;rw[hx];have HO:=Xqh o1;clear o1;go_wp2;go_ret;rw[HN.out];exact⟨rfl,HO.out.drop⟩
theorem Xg3 {w0 w:World}{B:Nat}{l:List Xf}(o:Own w0 B l w)(x:Int):Own w0 B (.ints (.slice (some ⟨w.heap.size,0,none⟩) 1 1) [x]::l) (w.alloc (.cells #[.int .i64 x] 3)):=o.fresh (Xw w _) ⟨fun k=>k=w.heap.size,⟨Xed (l:= [x]) (heap_alloc_new w _) (by unfold maxLen;omega) rfl (Nat.le_refl _) (fun k hk=>by have:k=0:=by{simp at hk;exact hk};subst this;rfl),fun k=>⟨fun h=>by subst h;rfl,fun h=>by simp[Value.ownBlock]at h;omega⟩⟩,fun k hk=>by omega⟩
theorem XkK {w0 w:World}{B b:Nat}{A:Ar}{l:List Xf}{h:Int}(o:Own w0 B l w)(hm:Xf.arena b A∈l)(hS:A.YC)(hh:A.has h):Calls Tryz.prog 179 #[.pointer (some ⟨b,0,none⟩),.int .i64 h] w fun e w'=>∃a c,e= .returned (.slice a (A.X7 h).length c)∧Own w0 B (.ints (.slice a (A.X7 h).length c) (A.X7 h)::l) w':=by
 have HK:=Xqh (Zv o hm hS hh rfl)
 have hko:A.YN h=(A.get h).Xc:=if_pos hh
 have HM:=Xqh hm
 have HS:=Xqh hS
 clear hm hS
 by_cases hk:(A.get h).Xa=2
 ·have hn:A.X7 h=A.YN h:=by{unfold Ar.X7;rw[if_pos hk,hko]};rw[hn];clear hn hko;rw[hk]at HK;clear hk hh;go_enter Tryz.func179,Tryz.ntmps179;go_wp2_with fail;refine HK.out.mono ?_;rintro e w1⟨rfl,o1,-⟩;clear HK o;go_wp2_with fail;refine(Xap o1 HM.out HS.out).mono ?_;rintro e w2⟨a,c,rfl,o2⟩;have HO:=Xqh o2;clear o1 o2;go_wp2;go_ret;exact⟨a,c,rfl,HO.out⟩
 ·have hn:A.X7 h= [h]:=by{unfold Ar.X7;rw[if_neg hk]};rw[hn];have hk':((A.get h).Xa==2)=false:=by{simp[hk]};generalize(A.get h).Xa=kk at*;clear hn hko hk hh;go_enter Tryz.func179,Tryz.ntmps179;go_wp2_with fail;refine HK.out.mono ?_;rintro e w1⟨rfl,o1,-⟩;have HO:=Xqh (Xg3 o1 h);clear HK o o1;go_wp2;go_ret;exact⟨_,_,rfl,HO.out⟩
end
section
open Go.RowKit
/-- The worlds in which all that was there is as it was. -/
def Wld (w : World) : Type := { W : World // Below w.heap.size w W }
theorem Wld.inh (w:World):Nonempty (Wld w):=⟨⟨w,Below.refl _ _⟩⟩
instance XpZ (w : World) : Nonempty (Wld w) := Wld.inh w
theorem Wld.cell {w:World}{p:Addr}{v:Value}(h:w.cell? p=some v):∀x:Wld w,x.val.cell? p=some v:=fun x=>Below.old x.2 h
theorem Wld.call {P:Program}{f:FuncId}{args:Array Value}{w:World}{x:Wld w}{v:Value}(h:Calls P f args x.val fun e w'=>e= .returned v∧Below x.val.heap.size x.val w'):Calls P f args x.val fun e w''=>e= .returned v∧∃y:Wld w,w''=y.val:=h.mono fun _ w'⟨he,hB⟩=>⟨he,⟨⟨w',x.2.trans (hB.mono x.2.size)⟩,rfl⟩⟩
theorem Wld.same {P:Program}{f:FuncId}{args:Array Value}{w:World}{x:Wld w}{v:Value}(h:Calls P f args x.val fun e w'=>e= .returned v∧x.val=w'):Calls P f args x.val fun e w''=>e= .returned v∧∃y:Wld w,w''=y.val:=h.mono fun _ w'⟨he,hB⟩=>⟨he,⟨x,hB.symm⟩⟩
theorem XaV {P:Program}{id:Nat}{Q:Exit→Act→World→Prop}{a:Act}{w:World}{l:List Oper}(hm:P.follows .mixedOrders=true)(hB:Region.lexB .any l.toArray=true)(h:wpQuiet P l.toArray (fun W=>∃x:Wld w,W=x.val) (fun a'=>∀W,(∃x:Wld w,W=x.val)→Q .normal a' W) l a):(Code.region id l.toArray true).wp P Q a w:=wp_region_quiet (C:=fun W=>∃x:Wld w,W=x.val) hm hB ⟨⟨w.drew,Below.drew (Below.refl _ _)⟩,rfl⟩ (by simpa using h)
end
section
open Go.RowKit Go.Shelf
theorem XkM :(Tryz.prog.info? 43).map (fun i=>(i.zero,i.size,i.bytes))=some (some (.int .i64 0),1,8):=by
 kernel_rfl
/-- A slice of kinds that owns its row. -/
abbrev Xf.kinds (v : Value) (l : List Int) : Xf := .row 43 1 v l.length (l.map Xp)
theorem XkN {w:World}{b:Nat}{e:TypeId}{v:Value}{l:List Int}(h:w.ownsRow b e 1 v l.length (l.map Xp)):Xy w v l:=by
 have h':XT w (fun k=>if v.ownBlock=some k then 1 else 0) 1 e 1 v l.length (l.map Xp):=by refine⟨⟨h.1,?_⟩,fun g hg=>by simp[hg]⟩;rcases h.2 with h2|⟨g,cap,cur,h3,_,h4⟩;·{exact .inl h2};·exact .inr ⟨g,cap,cur,h3,Nat.zero_le _,h4⟩
 exact h'.reads
theorem Own.kinds {w0 w:World}{B:Nat}{v:Value}{x:List Int}{l:List Xf}(h:Own w0 B l w)(hm:Xf.kinds v x∈l):Xy w v x:=XkN (h.row hm)
/-- A move, as its cells. -/
abbrev mvO (b : Nat) (p n c : Int) (r : Bool) : Obj := .cells #[.pointer (some ⟨b, 0, none⟩), .int .i64 p, .int .i64 n, .int .i64 c, .bool r] 141 (0, 0)
theorem Z4 {w:World}{g b:Nat}{p n c:Int}{r:Bool}(h:w.heap[g]?=some (mvO b p n c r)):w.cell? ⟨g,0,none⟩=some (.pointer (some ⟨b,0,none⟩))∧w.cell? ⟨g,1,none⟩=some (.int .i64 p)∧w.cell? ⟨g,2,none⟩=some (.int .i64 n)∧w.cell? ⟨g,3,none⟩=some (.int .i64 c)∧w.cell? ⟨g,4,none⟩=some (.bool r):=⟨(cell_of_row w _ _ _ _ _ h).trans rfl,(cell_of_row w _ _ _ _ _ h).trans rfl,(cell_of_row w _ _ _ _ _ h).trans rfl,(cell_of_row w _ _ _ _ _ h).trans rfl,(cell_of_row w _ _ _ _ _ h).trans rfl⟩
theorem XkO (v:Value)(l:List Int)(x:Int)(w:World)(hv:Xy w v l):Calls Tryz.prog 252 #[v,.int .i64 x] w fun e w'=>e= .returned (.int .i64 (Yt (fun y=>decide (y=x)) l))∧w=w':=by
 obtain⟨av,cv,rfl,hc1,hc2,hc3⟩:=hv.form
 go_enter Tryz.func252,Tryz.ntmps252
 go_wp2
 go_loop [8](fun i=>∃k:Nat,k≤l.length∧i= .int .i64 k∧Hid (∀j y,j<k→l[j]?=some y→(fun y=>decide (y=x)) y=false))(fun i=>l.length-(intOf i).toNat)
 case atStart=>exact⟨0,Nat.zero_le _,rfl,fun j y hj=>by omega⟩
 case round=>obtain⟨k,hk,rfl,hT⟩:=hrel;by_cases hlt:k<l.length;·{obtain⟨b1,o1,rfl,hcs⟩:=hc3 (by omega);have hck:=hcs k hlt;clear hc3 hcs;have hy:l[k]?=some (l[k]?.getD 0):=by{simp[hlt]};generalize l[k]?.getD 0=y at hck hy;have HY:=Xqh hy;clear hy;by_cases hxy:x=y;·{have h1:(x==y)=true:=by{simp[hxy]};have HXY:=Xqh hxy;clear hxy;go_wp2;go_ret;exact⟨Zd (Xbc HY.out (by simp[HXY.out]) hT.out).symm,rfl⟩};·have h1:(x==y)=false:=by{simp[hxy]};have HXY:=Xqh hxy;clear hxy;go_wp2;go_round;(case rel=>exact⟨k+1,hlt,by go_num,fun j z hj hz=>by by_cases hjk:j<k;·{exact hT.out j z hjk hz};·have hjk:j=k:=by{omega};rw[hjk,HY.out]at hz;cases hz;simp;exact fun e=>HXY.out e.symm⟩);case measure=>simp[intOf];omega};·go_wp2;go_ret;exact⟨Zd (JT (fun j y hj=>hT.out j y (by have:=(List.getElem?_eq_some_iff.1 hj).1;omega) hj)).symm,rfl⟩
theorem Xbm (v:Value)(l:List Int)(x:Int)(w:World)(hv:Xy w v l):Calls Tryz.prog 250 #[v,.int .i64 x] w fun e w'=>e= .returned (.bool (decide (x∈l)))∧w=w':=by
 have hd:decide (0≤Yt (fun y=>decide (y=x)) l)=decide (x∈l):=by rw[Xd2,Bool.eq_iff_iff,List.any_eq_true];simp only[decide_eq_true_eq];exact⟨fun⟨y,h1,h2⟩=>h2▸h1,fun h=>⟨x,h,rfl⟩⟩
 have HC:=Xqh (XkO v l x w hv)
 have HD:=Xqh hd
 clear hd hv
 generalize Yt (fun y=>decide (y=x)) l=i at*
 generalize decide (x∈l)=z at*
 by_cases hi:0≤i
 ·have e:z=true:=by{rw[←HD.out];simp[hi]};subst e;clear HD;go_enter Tryz.func250,Tryz.ntmps250;go_wp2_with fail;refine HC.out.mono ?_;rintro e w1⟨rfl,rfl⟩;go_wp2;go_ret;exact⟨by simp,rfl⟩
 ·have e:z=false:=by{rw[←HD.out];simp[hi]};subst e;clear HD;go_enter Tryz.func250,Tryz.ntmps250;go_wp2_with fail;refine HC.out.mono ?_;rintro e w1⟨rfl,rfl⟩;go_wp2;go_ret;exact⟨by simp;omega,rfl⟩
theorem XkP {A:Ar}{c:Int}{K:List Int}{k:Nat}{x:Int}(s:Bool×List Int×List Int)(hx:K[k]?=some x):(K.take (k+1)).foldl (Zf A c) s=Zf A c ((K.take k).foldl (Zf A c) s) x:=by
 have hk:=(List.getElem?_eq_some_iff.1 hx).1
 rw[List.take_succ_eq_append_getElem hk,(List.getElem?_eq_some_iff.1 hx).2,List.foldl_append]
 rfl
theorem Xg4 {A:Ar}{c:Int}:∀(K:List Int)(s:Bool×List Int×List Int),(K.foldl (Zf A c) s).2.1.length+(K.foldl (Zf A c) s).2.2.length≤s.2.1.length+s.2.2.length+K.length
 | [],s=>by{simp}
 |x::K,s=>by{have:=Xg4 (A:=A) (c:=c) K (Zf A c s x);have h2:(Zf A c s x).2.1.length+(Zf A c s x).2.2.length≤s.2.1.length+s.2.2.length+1:=by{unfold Zf;split;·{dsimp only;omega};·split;·{simp;omega};·simp;omega};simp only[List.foldl_cons,List.length_cons];omega}
theorem Xg5 {w0 w:World}{B b:Nat}{A:Ar}{l:List Xf}{p n c:Int}{r:Bool}(o:Own w0 B l w)(hm:Xf.arena b A∈l)(hI:A.Inv)(hs:A.ns.length≤100000)(hp:A.has p):Calls Tryz.prog 249 #[.agg #[.pointer (some ⟨b,0,none⟩),.int .i64 p,.int .i64 n,.int .i64 c,.bool r]] w fun e w'=>∃v1 v2,e= .returned (.tuple #[v1,v2])∧Own w0 B (.kinds v1 (A.Zn p c).1:: .kinds v2 (A.Zn p c).2::l) w':=by
 obtain⟨i0,hi,hz0,hz1,hz2⟩:=info_parts XkM
 have HI:=Xqh hi
 clear hi
 have o1:=o.alloc (.cells #[.pointer (some ⟨b,0,none⟩),.int .i64 p,.int .i64 n,.int .i64 c,.bool r] 141)
 have HS:=Xqh (hI.short (by omega))
 have HK:=Xqh (Xap (b:=b) (A:=A) (h:=p) o1 (by simp[hm]) HS.out)
 have hko:A.YN p=(A.get p).Xc:=if_pos hp
 rw[hko]at HK
 have HM:=Xqh hm
 have hkl:=Ar.Yz hI.wf hp
 have HX:=Xqh (fun x(hx:x∈(A.get p).Xc)=>(XF hI hp hx).1)
 have HSP:Hid (A.Zn p c=((A.get p).Xc.foldl (Zf A c) (false,[],[])).2):=Xqh rfl
 clear o o1 hm hI hp hko
 generalize(A.get p).Xc=K at*
 go_enter Tryz.func249,Tryz.ntmps249
 go_wp2_with fail
 refine HK.out.mono ?_
 rintro e w1⟨ka,kc,rfl,o2⟩
 clear HK
 have o3:=(((o2.fresh (Below.refl _ _) ⟨fun _=>False,⟨World.ownsRow_nil _ 0 43 1,fun k=>⟨fun h=>h.elim,fun h=>by simp[Value.ownBlock]at h⟩⟩,fun k hk=>hk.elim⟩:Own w0 B (.kinds (.slice none 0 0) []::_) w1)).fresh (Below.refl _ _) ⟨fun _=>False,⟨World.ownsRow_nil _ 0 43 1,fun k=>⟨fun h=>h.elim,fun h=>by simp[Value.ownBlock]at h⟩⟩,fun k hk=>hk.elim⟩:Own w0 B (.kinds (.slice none 0 0) []:: .kinds (.slice none 0 0) []::_) w1)
 have HO:=Xqh o3
 clear o2 o3
 generalize hg:w.heap.size=g at*
 clear hg
 obtain⟨LL,hLL⟩:∃LL,LL=Xf.ints (.slice ka K.length kc) K:: .box g (mvO b p n c r)::l:=⟨_,rfl⟩
 have HLL:Hid (Xf.ints (.slice ka K.length kc) K∈LL∧Xf.box g (mvO b p n c r)∈LL∧Xf.arena b A∈LL):=Xqh (by subst hLL;exact⟨by simp,by simp,by simp[HM.out]⟩)
 rw[←hLL]at HO
 have HLE:=Xqh hLL
 clear hLL HM
 have HM:Hid (Xf.arena b A∈LL):=Xqh HLL.out.2.2
 go_wp2
 go_loopw [2,3,4,13](fun u2 u3 u4 i wr=>∃(k:Nat)(s:Bool×List Int×List Int),k≤K.length∧i= .int .i64 k∧Hid ((K.take k).foldl (Zf A c) (false,[],[])=s)∧u4= .bool s.1∧Hid (Own w0 B (.kinds u2 s.2.1:: .kinds u3 s.2.2::LL) wr))(fun _ _ _ i _=>K.length-(intOf i).toNat)
 case atStart=>exact⟨0,_,Nat.zero_le _,rfl,Xqh rfl,rfl,HO⟩
 case round=>obtain⟨k,s,hk,rfl,HST,rfl,hT⟩:=hrel;by_cases hlt:k<K.length;·{obtain⟨x,hx⟩:∃x,K[k]?=some x:=⟨_,List.getElem?_eq_getElem hlt⟩;have hri:Xy wr (.slice ka K.length kc) K:=hT.out.ints (by simp[HLL.out.1]);obtain⟨b1,o1,rfl,-,hcs⟩:=hri.cells (by omega);have c1:=hcs k x hx;obtain⟨m1,m2,m3,m4,m5⟩:=Z4 (hT.out.box (g:=g) (o:=mvO b p n c r) (by simp[HLL.out.2.1]));have hx2:=HX.out x (List.mem_of_getElem? hx);have hst:=XkP (A:=A) (c:=c) (false,[],[]) hx;have hsl:=Xg4 (A:=A) (c:=c) (K.take k) (false,[],[]);rw[HST.out]at hst hsl;have hl1:s.2.1.length≤100000∧s.2.2.length≤100000:=by{simp at hsl;omega};obtain⟨nd,hnd⟩:∃nd,A.get x=nd:=⟨_,rfl⟩;have HN:=Xqh hnd;unfold Zf at hst;rw[hnd]at hst;clear hnd hri hcs hx hsl HST;obtain⟨sb,l1,l2⟩:=s;dsimp only at*;obtain⟨hl1,hl2⟩:=hl1;by_cases hxc:x=c;·{rw[if_pos hxc]at hst;have HST2:=Xqh hst;have e1:(x==c)=true:=by{simp[hxc]};have hT2:=hT;clear hst hxc hT;go_wp2;go_roundw;(case rel=>exact⟨k+1,_,hlt,by go_num,HST2,rfl,hT2⟩);case measure=>simp[intOf];omega};·rw[if_neg hxc]at hst;have e1:(x==c)=false:=by{simp[hxc]};clear hxc;have hT3:=hT;clear hT;cases sb with|true=>{rw[if_pos rfl]at hst;have HST2:=Xqh hst;clear hst;have HC:=Xqh (Zv (b:=b) (A:=A) (n:=nd) hT3.out (by simp[HM.out]) HS.out hx2 HN.out);have HT:=Xqh hT3.out;go_wp2_with fail;refine HC.out.mono ?_;rintro e w3⟨rfl,o3,-⟩;have HR:=Xqh (YP (o3.row (e:=43) (size:=1) (v:=u3) (n:=l2.length) (xs:=l2.map Xp) (by simp)) (Nat.zero_le _));have HO3:=Xqh o3;clear o3 HC m1 m2 m3 m4 m5 c1;generalize nd.Xa=kd at*;go_wp2_with(at_builtin;refine wpList_append_own_at _ rfl _ _ 213 rfl 0 43 i0 _ 1 8 Tryz.underlying213 HI.out hz0 hz1 hz2 rfl (by decide) _ _ _ rfl (HR.out.alloc _) ⟨w3.heap.size,0,none⟩ 1 1 [Xp kd] rfl rfl ?c1 ?c2 ?c3 ?c4 ?c5 ?_);(case c1=>intro j u hj;rw[Addr.add_mid,Nat.zero_add];exact Yi rfl (by simpa[Xp]using hj));(case c2=>intro u hu;simp at hu;subst hu;rfl);(case c3=>unfold maxLen;omega);(case c4=>omega);(case c5=>first|(simp;done)|(simp;omega));intro v' w4 hown hgrow _ hat;have o4:=HO3.out.swap;have o5:=((o4.alloc (.cells #[.int .i64 kd] 43)).swap.grow hown hgrow (by simpa using hat)).swap.drop;have e1:(l2++ [kd]).length=l2.length+1:=by{simp};have e2:(l2++ [kd]).map Xp=l2.map Xp++ [Xp kd]:=by{simp};have o6:Own w0 B (.kinds v' (l2++ [kd]):: .kinds u2 l1::LL) w4:=by{unfold Xf.kinds;rw[e1,e2];exact o5};have HO6:=Xqh o6.swap;clear o4 o5 o6 hown hgrow hat HT hT3;go_wp2;go_roundw;(case rel=>exact⟨k+1,_,hlt,by go_num,HST2,rfl,HO6⟩);case measure=>simp[intOf];omega}|false=>rw[if_neg (by simp)]at hst;have HST2:=Xqh hst;clear hst;have HC:=Xqh (Zv (b:=b) (A:=A) (n:=nd) hT3.out (by simp[HM.out]) HS.out hx2 HN.out);have HT:=Xqh hT3.out;go_wp2_with fail;refine HC.out.mono ?_;rintro e w3⟨rfl,o3,-⟩;have HR:=Xqh (YP (o3.row (e:=43) (size:=1) (v:=u2) (n:=l1.length) (xs:=l1.map Xp) (by simp)) (Nat.zero_le _));have HO3:=Xqh o3;clear o3 HC m1 m2 m3 m4 m5 c1;generalize nd.Xa=kd at*;go_wp2_with(at_builtin;refine wpList_append_own_at _ rfl _ _ 213 rfl 0 43 i0 _ 1 8 Tryz.underlying213 HI.out hz0 hz1 hz2 rfl (by decide) _ _ _ rfl (HR.out.alloc _) ⟨w3.heap.size,0,none⟩ 1 1 [Xp kd] rfl rfl ?c1 ?c2 ?c3 ?c4 ?c5 ?_);(case c1=>intro j u hj;rw[Addr.add_mid,Nat.zero_add];exact Yi rfl (by simpa[Xp]using hj));(case c2=>intro u hu;simp at hu;subst hu;rfl);(case c3=>unfold maxLen;omega);(case c4=>omega);(case c5=>first|(simp;done)|(simp;omega));intro v' w4 hown hgrow _ hat;have o4:=HO3.out;have o5:=((o4.alloc (.cells #[.int .i64 kd] 43)).swap.grow hown hgrow (by simpa using hat)).swap.drop;have e1:(l1++ [kd]).length=l1.length+1:=by{simp};have e2:(l1++ [kd]).map Xp=l1.map Xp++ [Xp kd]:=by{simp};have o6:Own w0 B (.kinds v' (l1++ [kd]):: .kinds u3 l2::LL) w4:=by{unfold Xf.kinds;rw[e1,e2];exact o5};have HO6:=Xqh o6;clear o4 o5 o6 hown hgrow hat HT hT3;go_wp2;go_roundw;(case rel=>exact⟨k+1,_,hlt,by go_num,HST2,rfl,HO6⟩);case measure=>simp[intOf];omega};·have hkl2:K.take k=K:=List.take_of_length_le (by omega);rw[hkl2]at HST;have HF:Hid (A.Zn p c=s.2):=Xqh (by rw[HSP.out,HST.out]);have o4:=hT.out;rw[HLE.out]at o4;have HO4:=Xqh o4;clear o4 hT hkl2 HST HSP HO HLE HLL HM;go_wp2;go_ret2;refine⟨_,_,rfl,?_⟩;rw[HF.out];exact(((HO4.out.ZI).drop).ZI.drop)
end
section
open Go.RowKit Go.Shelf
attribute [local go_sem] Oper.semAt_some
theorem XkQ {α:Type}{K:List Int}{k:Nat}{x:Int}(g:Int→List α)(hx:K[k]?=some x):K.flatMap g=(K.take k).flatMap g++(g x++(K.drop (k+1)).flatMap g):=by
 have hk:=(List.getElem?_eq_some_iff.1 hx).1
 have e:K=K.take k++(x::K.drop (k+1)):=by have:=(List.take_append_drop k K).symm;rw[List.drop_eq_getElem_cons hk,(List.getElem?_eq_some_iff.1 hx).2]at this;exact this
 conv=>lhs;rw[e]
 rw[List.flatMap_append,List.flatMap_cons]
theorem Own.XkR {w0 w:World}{B:Nat}{G:Nat→Prop}{f:Nat→Option Obj}{l:List Xf}(h:Own w0 B l w)(hm:Xf.keep G f∈l):∀k,G k→k<w.heap.size:=let⟨_,⟨_,q,_⟩,_⟩:=h.get hm;q
theorem XkS {m m':Nat}{P:Program}{l:Nat}{args:Array Value}{W:World}{R:Ending→World→Prop}(h:YieldAt Fence.wide m P l args W R):YieldAt Fence.wide m' P l args W R:=by
 obtain⟨fn,tmps,assign,body,h1,h2⟩:=h
 exact⟨fn,tmps,assign,body,h1,h2.1,fun c cs _=>h2.2 c cs (room_wide _)⟩
theorem XkT {A:Ar}{b:Nat}(hI:A.Inv)(hsm:A.ns.length≤100000){w0:World}{B l n:Nat}{Lf:List Int→List Xf→Prop}{Jx:List Int→World→Prop}{Sp:List Int→Prop}(hLR:∀pre L,Lf pre L→∃A',Xf.arena b A'∈L∧A.Tree A'∧A'.Inv∧A'.ns.length≤1000000)(hY:∀pre x W1 L G f,Sp (pre++ [x])→Lf pre L→Own w0 B (.keep G f::L) W1→YieldAt Fence.wide (n-1) Tryz.prog l #[.int .i64 x] W1 fun e W'=>(e= .returned (.bool true)∧∃L',Lf (pre++ [x]) L'∧Own w0 B (.keep G f::L') W')∨(e= .returned (.bool false)∧Jx (pre++ [x]) W')):∀h,A.has h→∀(pre:List Int)(W:World)(L:List Xf)(G:Nat→Prop)(f:Nat→Option Obj),(∀l1 x l2,A.below h=l1++x::l2→Sp (pre++(l1++ [x])))→Lf pre L→Own w0 B (.keep G f::L) W→Calls Tryz.prog 182 #[.pointer (some ⟨b,0,none⟩),.int .i64 h,.func (.yield l) #[] #[]] W fun e W'=>(e= .returned (.bool true)∧∃L',Lf (pre++A.below h) L'∧Own w0 B (.keep G f::L') W')∨(e= .returned (.bool false)∧∃pre',Sp pre'∧Jx pre' W'):=by
 refine Jc hI (fun h hh _ ih pre W L G f hsp hlf o=>?_)
 obtain⟨A',hm,hT,hI',hs'⟩:=hLR _ _ hlf
 have hk':(if A'.has h then(A'.get h).Xc else [])=(A.get h).Xc:=by rw[if_pos (hT.has hh),hT.Xc hh]
 obtain⟨ρ,hA'⟩:=o.arena (b:=b) (A:=A') (by simp[hm])
 have HC:=Xqh (Xgt A' ρ b h W hA' (fun hh=>((hI'.short hs').get hh).1))
 have hkl:=Ar.Yz hI.wf hh
 have HBE:=Xqh (ZD hI hh)
 have HSP:=Xqh hsp
 have HIH:=Xqh ih
 have HLF:=Xqh hlf
 have HO:=Xqh o
 have HY:=Xqh hY
 clear hsp hlf o hA' hm hT hI' ih hLR hY
 rw[hk']at HC
 clear hk'
 generalize(A.get h).Xc=K at*
 refine(callsIn_wide (n:=8)).1 ?_
 refine callsIn_of_wp Tryz.func182 rfl trivial ?_ rfl
 simp only[Tryz.ntmps182,List.size_toArray,List.length_cons,List.length_nil,Nat.reduceAdd,Nat.reduceSub,Array.replicate_succ,Array.replicate_zero,List.push_toArray,List.append_toArray,List.nil_append,List.cons_append]
 gi_wp2_with fail
 refine⟨trivial,?_⟩
 refine(callsIn_wide.2 HC.out).mono ?_
 rintro e W1⟨hB1,v,rfl,hO⟩
 obtain⟨va,vc,rfl⟩:=X6 hO
 have HO1:=Xqh (HO.out.XkF hB1)
 have HOW:=Xqh hO
 have HF0:Hid (∀k,G k→f k=W1.heap[k]?):=Xqh (fun k hk=>((hB1.block k (HO.out.XkR (G:=G) (f:=f) (by simp) k hk)).trans (HO.out.kept (G:=G) (f:=f) (by simp) k hk)).symm)
 clear hO HC HO hB1
 gi_wp2
 gi_loopw [13](fun i wr=>∃(k:Nat),k≤K.length∧i= .int .i64 k∧Hid (∃L',Lf (pre++(K.take k).flatMap (fun k=>k::A.below k)) L'∧Own w0 B (.keep (fun k=>G k∨(W.heap.size≤k∧k<W1.heap.size)) (fun k=>W1.heap[k]?)::L') wr))(fun i _=>K.length-(intOf i).toNat)
 case atStart=>exact⟨0,Nat.zero_le _,rfl,Xqh ⟨L,by simpa using HLF.out,HO1.out⟩⟩
 case round=>obtain⟨k,hk,rfl,hT⟩:=hrel;by_cases hlt:k<K.length;·{obtain⟨x,hx⟩:∃x,K[k]?=some x:=⟨_,List.getElem?_eq_getElem hlt⟩;obtain⟨L',hl',o'⟩:=hT.out;have hkeep:∀q,W.heap.size≤q→q<W1.heap.size→wr.heap[q]?=W1.heap[q]?:=fun q h1 h2=>o'.kept (G:=fun k=>G k∨(W.heap.size≤k∧k<W1.heap.size)) (f:=fun k=>W1.heap[k]?) (by simp) q (.inr ⟨h1,h2⟩);obtain⟨b1,o1,rfl,-,hcs⟩:=(Xeu (Xc4 HOW.out hkeep)).cells (by omega);have d1:=hcs k x hx;have hcut:=XkQ (fun k=>k::A.below k) hx;have htk:=XeR (fun k=>k::A.below k) hx;rw[←HBE.out]at hcut;have HTK:=Xqh htk;have hsp1:=HSP.out ((K.take k).flatMap (fun k=>k::A.below k)) x (A.below x++(K.drop (k+1)).flatMap (fun k=>k::A.below k)) (by rw[hcut];simp);have hsp2:Hid (∀l1 y l2,A.below x=l1++y::l2→Sp ((pre++(K.take k).flatMap (fun k=>k::A.below k)++ [x])++(l1++ [y]))):=Xqh (fun l1 y l2 e=>by have:=HSP.out ((K.take k).flatMap (fun k=>k::A.below k)++x::l1) y (l2++(K.drop (k+1)).flatMap (fun k=>k::A.below k)) (by rw[hcut,e];simp);simpa using this);have hmem:=Xqh (List.mem_of_getElem? hx);generalize(K.take k).flatMap (fun k=>k::A.below k)=D at*;rw[←List.append_assoc]at hsp1;have HS1:=Xqh hsp1;obtain⟨fn,tmps,assign,body,hy,hR⟩:=XkS (m':=7) (HY.out (pre++D) x wr L' _ _ hsp1 hl' o');clear hcs hx hkeep hcut htk hl' o' hsp1 hT;gi_wp2;refine hR.mono ?_;rintro e W3(⟨rfl,L3,hl3,o3⟩|⟨rfl,hJ⟩);·{have HR:=Xqh (HIH.out x hmem.out (pre++D++ [x]) W3 L3 _ _ hsp2.out hl3 o3);clear hR hy o3 hl3;gi_wp2_with fail;refine⟨trivial,?_⟩;refine(callsIn_wide.2 HR.out).mono ?_;rintro e W4(⟨rfl,L4,hl4,o4⟩|⟨rfl,hJ⟩);·{have hrel:Hid (∃L',Lf (pre++(K.take (k+1)).flatMap (fun k=>k::A.below k)) L'∧Own w0 B (.keep (fun k=>G k∨(W.heap.size≤k∧k<W1.heap.size)) (fun k=>W1.heap[k]?)::L') W4):=Xqh ⟨L4,by rw[HTK.out];simpa using hl4,o4⟩;clear hl4 o4 HR;gi_wp2;go_roundw;(case rel=>exact⟨k+1,hlt,by go_num,hrel⟩);case measure=>simp[intOf];omega};·have HJ:=Xqh hJ;clear hJ HR;gi_wp2;go_ret;exact .inr ⟨rfl,HJ.out⟩};·have HJ:=Xqh hJ;clear hJ hR hy;gi_wp2_with fail;refine⟨trivial,?_⟩;gi_wp2;go_ret;exact .inr ⟨rfl,_,HS1.out,HJ.out⟩};·have hkl:K.take k=K:=List.take_of_length_le (by omega);obtain⟨L',hl',o'⟩:=hT.out;rw[hkl,←HBE.out]at hl';have HF:=Xqh (And.intro hl' o');clear hl' o' hT hkl;gi_wp2;go_ret;exact .inl ⟨rfl,_,HF.out.1,HF.out.2.XkG (fun _=> .inl) HF0.out⟩
/-- What the loops over below read of the rounds' memory: the two boxes, an arena with the same tree. -/
def Xbn (A : Ar) (b ab hb : Nat) (h : Int) (L : List Xf) : Prop :=
  Xf.box ab (.cells #[.pointer (some ⟨b, 0, none⟩)] 23 (0, 0)) ∈ L ∧ Xf.box hb (.cells #[.int .i64 h] 3 (0, 0)) ∈ L ∧ ∃ A', Xf.arena b A' ∈ L ∧ A.Tree A' ∧ A'.Inv ∧ A'.ns.length ≤ 1000000
theorem XeU {A:Ar}{b ab hb:Nat}{h:Int}(a:Xf)(L:List Xf)(r:Xbn A b ab hb h L):Xbn A b ab hb h (a::L):=by
 obtain⟨h1,h2,A',h3,h4⟩:=r
 exact⟨by simp[h1],by simp[h2],A',by simp[h3],h4⟩
theorem XeV (b:Nat)(h:Int)(w:World):Calls Tryz.prog 123 #[.pointer (some ⟨b,0,none⟩),.int .i64 h] w fun e w'=>e= .returned (.func (.func 181) #[] #[.pointer (some ⟨w.heap.size,0,none⟩),.pointer (some ⟨w.heap.size+1,0,none⟩)])∧w'=(w.alloc (.cells #[.pointer (some ⟨b,0,none⟩)] 23)).alloc (.cells #[.int .i64 h] 3):=by
 go_enter Tryz.func123,Tryz.ntmps123
 go_wp2
 go_ret
 exact⟨rfl,rfl⟩
theorem XeW {A:Ar}{b ab hb:Nat}{h:Int}(hI:A.Inv)(hsm:A.ns.length≤100000)(hh:A.has h)(w0:World)(B n:Nat):Xg1 Fence.wide n Tryz.prog 181 #[.pointer (some ⟨ab,0,none⟩),.pointer (some ⟨hb,0,none⟩)] (fun x:Int=> #[Value.int .i64 x]) (fun xs=>xs=A.below h) (fun pre=>∃rest,A.below h=pre++rest) (Xbn A b ab hb h) w0 B:=by
 intro l Lf Jx W L hLR hY hl o
 obtain⟨hab,hhb,-⟩:=hLR _ _ hl
 have k1:=XD (o.box hab)
 have k2:=XD (o.box hhb)
 have HC:=Xqh (XkT (n:=n) hI hsm (Sp:=fun pre=>∃rest,A.below h=pre++rest) (fun pre L q=>(hLR pre L q).2.2) hY h hh [] W L _ _ (fun l1 x l2 e=>⟨l2,by rw[e];simp⟩) hl (o.XkE (fun _=>none)))
 clear hY hLR hl o
 refine callsIn_wide.2 ((callsIn_wide (n:=8)).1 ?_)
 refine callsIn_of_wp Tryz.func181 rfl trivial ?_ rfl
 simp only[Tryz.ntmps181,List.size_toArray,List.length_cons,List.length_nil,Nat.reduceAdd,Nat.reduceSub,Array.replicate_succ,Array.replicate_zero,List.push_toArray,List.append_toArray,List.nil_append,List.cons_append]
 gi_wp2_with fail
 refine⟨trivial,?_⟩
 refine(callsIn_wide.2 HC.out).mono ?_
 rintro e W3(⟨rfl,L3,hl3,o3⟩|⟨rfl,pre',hs',hJ⟩)
 ·have HF:=Xqh (And.intro hl3 o3);clear hl3 o3 HC;gi_wp2;go_end0;exact⟨⟨_,rfl⟩,.inl ⟨_,L3,rfl,by simpa using HF.out.1,HF.out.2.drop⟩⟩
 ·have HF:=Xqh (And.intro hs' hJ);clear hs' hJ HC;gi_wp2;go_end0;exact⟨⟨_,rfl⟩,.inr ⟨pre',HF.out.1,HF.out.2⟩⟩
end
end Go.Proofs.YtpicinjcmjaogaaGreat
