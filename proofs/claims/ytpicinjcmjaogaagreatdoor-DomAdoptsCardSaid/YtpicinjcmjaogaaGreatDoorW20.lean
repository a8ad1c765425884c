import Derived.Deep.Slices
import Derived.Deep.Fields
import Derived.Lib.Bytealg
import Derived.Shelf.Abstract
import Derived.Laws.IdiomStrings
import Derived.Lib.IndexAny
import Derived.Test.YtpicinjcmjaogaaGreatDoorW08
import Derived.Test.YtpicinjcmjaogaaGreatDoorW09
set_option maxRecDepth 100000
set_option maxHeartbeats 4000000
set_option linter.unusedVariables false
namespace Go.Proofs.YtpicinjcmjaogaaGreatDoor
section
open Go.RowKit
theorem XgH {w0 w:World}{B b:Nat}{A:Ar}{l:List Xf}{h:Int}{n:Nd}{er:Int}(o:Own w0 B l w)(hm:Xf.arena b A∈l)(hS:A.YC)(hn:(if A.has h then A.get h else XL)=n)(he:(if A.has h then(0:Int)else 3)=er):Calls Tryz.prog 15 #[.pointer (some ⟨b,0,none⟩),.int .i64 h] w fun e w'=>∃ka kl kc aa al ac,e= .returned (.tuple #[.agg (n.cells (.slice ka kl kc) (.slice aa al ac)).toArray,.int .i64 er])∧Own w0 B l w'∧Below w.heap.size w w':=by
 subst hn
 subst he
 obtain⟨ρ,hA⟩:=o.arena hm
 refine(XcO A ρ b h w hA hS).mono ?_
 rintro e w'⟨hB,kv,av,rfl,h1,h2⟩
 obtain⟨ka,kc,rfl⟩:=X6 h1
 obtain⟨aa,ac,rfl⟩:=X6 h2
 exact⟨ka,_,kc,aa,_,ac,rfl,o.read hB,hB⟩
theorem Zv {w0 w:World}{B b:Nat}{A:Ar}{l:List Xf}{h:Int}{n:Nd}(o:Own w0 B l w)(hm:Xf.arena b A∈l)(hS:A.YC)(hh:A.has h)(hn:A.get h=n):Calls Tryz.prog 38 #[.pointer (some ⟨b,0,none⟩),.int .i64 h] w fun e w'=>e= .returned (.int .i64 n.Xa)∧Own w0 B l w'∧Below w.heap.size w w':=by
 have oS:=Own.start w
 have HC:=Xqh (JZ o hm hS hh hn)
 have HO:=Xqh o
 clear o
 go_enter Tryz.func38,Tryz.ntmps38
 go_wp2_with fail
 refine HC.out.mono ?_
 rintro e w1⟨ka,kl,kc,aa,al,ac,rfl,-,hB1⟩
 have o1:=oS.read hB1
 clear oS HC
 have HT:=Xqh (XV (w:=w1) n ka kc aa ac kl al)
 have o5:=o1.XU n (.slice ka kl kc) (.slice aa al ac)
 go_wp2_with((with_reducible refine wpList_store_mid ?_ 41 (.tmp 5) (.tmp 11) ?_ w1.heap.size 0 (n.cells (.slice ka kl kc) (.slice aa al ac)).toArray ?_ ?_ ?_ ?_ ?_ ?_);exact rfl;exact rfl;exact rfl;exact rfl;exact HT.out.1;exact XM _ _ _;exact all_oneCell_toArray HT.out.2;clear HT;generalize hw5:World.setCells _ _ _ _=w5 at o5⊢;generalize hg5:w1.heap.size=g5 at o5⊢;clear hw5 hg5;have q1:w5.cell? ⟨g5,0,none⟩=some (.int .i64 n.Xa):=(cell_of_row w5 _ _ _ _ _ (o5.box (g:=g5) (o:= .cells (n.cells (.slice ka kl kc) (.slice aa al ac)).toArray 41 (0,0)) (by simp))).trans rfl)
 go_wp2
 go_ret
 have hlow:=o5.low
 exact⟨rfl,HO.out.read hlow,hlow⟩
theorem XcV {w0 w:World}{B b:Nat}{A:Ar}{l:List Xf}{h:Int}{n:Nd}(o:Own w0 B l w)(hm:Xf.arena b A∈l)(hS:A.YC)(hh:A.has h)(hn:A.get h=n):Calls Tryz.prog 81 #[.pointer (some ⟨b,0,none⟩),.int .i64 h] w fun e w'=>e= .returned (.int .i64 n.doc)∧Own w0 B l w'∧Below w.heap.size w w':=by
 have oS:=Own.start w
 have HC:=Xqh (JZ o hm hS hh hn)
 have HO:=Xqh o
 clear o
 go_enter Tryz.func81,Tryz.ntmps81
 go_wp2_with fail
 refine HC.out.mono ?_
 rintro e w1⟨ka,kl,kc,aa,al,ac,rfl,-,hB1⟩
 have o1:=oS.read hB1
 clear oS HC
 have HT:=Xqh (XV (w:=w1) n ka kc aa ac kl al)
 have o5:=o1.XU n (.slice ka kl kc) (.slice aa al ac)
 go_wp2_with((with_reducible refine wpList_store_mid ?_ 41 (.tmp 5) (.tmp 11) ?_ w1.heap.size 0 (n.cells (.slice ka kl kc) (.slice aa al ac)).toArray ?_ ?_ ?_ ?_ ?_ ?_);exact rfl;exact rfl;exact rfl;exact rfl;exact HT.out.1;exact XM _ _ _;exact all_oneCell_toArray HT.out.2;clear HT;generalize hw5:World.setCells _ _ _ _=w5 at o5⊢;generalize hg5:w1.heap.size=g5 at o5⊢;clear hw5 hg5;have q1:w5.cell? ⟨g5,3,none⟩=some (.int .i64 n.doc):=(cell_of_row w5 _ _ _ _ _ (o5.box (g:=g5) (o:= .cells (n.cells (.slice ka kl kc) (.slice aa al ac)).toArray 41 (0,0)) (by simp))).trans rfl)
 go_wp2
 go_ret
 have hlow:=o5.low
 exact⟨rfl,HO.out.read hlow,hlow⟩
open Classical in
/-- The first error of a call with handles; the one at place opt may be 0. -/
noncomputable def chk (A : Ar) (opt : Int) (l : List Int) : Int := if ∀ (i : Nat) x, l[i]? = some x → (x = 0 ∧ (i : Int) = opt) ∨ A.has x then 0 else 3
theorem Xew {w0 w:World}{B b:Nat}{A:Ar}{ll:List Xf}{opt:Int}(o:Own w0 B ll w)(hm:Xf.arena b A∈ll)(hS:A.YC)(v:Value)(l:List Int)(hv:Xy w v l):Calls Tryz.prog 37 #[.pointer (some ⟨b,0,none⟩),.int .i64 opt,v] w fun e w'=>e= .returned (.int .i64 (chk A opt l))∧Own w0 B ll w'∧Below w.heap.size w w':=by
 obtain⟨av,cv,rfl,hc1,hc2,hc3⟩:=hv.form
 have HS:=Xqh hS
 have HM:=Xqh hm
 have HO:=Xqh o
 clear hS hv o hm
 go_enter Tryz.func37,Tryz.ntmps37
 go_wp2
 go_loopw [15](fun i wr=>∃k:Nat,k≤l.length∧i= .int .i64 k∧Hid (Below w.heap.size w wr)∧Hid (∀(j:Nat)x,j<k→l[j]?=some x→(x=0∧(j:Int)=opt)∨A.has x))(fun i _=>l.length-(intOf i).toNat)
 case atStart=>exact⟨0,Nat.zero_le _,rfl,Xqh (Below.refl _ _),Xqh (fun j x hj=>by omega)⟩
 case round=>obtain⟨k,hk,rfl,hB,hT⟩:=hrel;by_cases hlt:k<l.length;·{obtain⟨b1,o1,rfl,hcs⟩:=hc3 (by omega);have hck:=Below.old hB.out (hcs k hlt);clear hc3 hcs;obtain⟨x,hx⟩:∃x,l[k]?=some x:=⟨_,List.getElem?_eq_getElem hlt⟩;rw[hx]at hck;simp only[Option.getD_some]at hck;have HX:=Xqh hx;clear hx;have hnext:Hid ((x=0∧(k:Int)=opt)∨A.has x→∀(j:Nat)y,j<k+1→l[j]?=some y→(y=0∧(j:Int)=opt)∨A.has y):=Xqh (fun hok j y hj hy=>by by_cases hjk:j<k;·{exact hT.out j y hjk hy};·have:j=k:=by{omega};subst this;rw[HX.out]at hy;simp at hy;subst hy;exact hok);by_cases hz:x=0∧(k:Int)=opt;·{have hnx:=Xqh (hnext.out (.inl hz));obtain⟨rfl,rfl⟩:=hz;go_wp2;go_roundw;(case rel=>exact⟨k+1,hlt,by go_num,hB,hnx⟩);case measure=>simp[intOf];omega};·have HZ:=Xqh hz;clear hz;obtain⟨n,hn⟩:∃n,(if A.has x then A.get x else XL)=n:=⟨_,rfl⟩;by_cases hh:A.has x;·{have hnx:=Xqh (hnext.out (.inr hh));have h0:(x==0)=false:=by{have:=hh.1;simp;omega};have HC:=Xqh (XgH (HO.out.read hB.out) HM.out HS.out hn (if_pos hh));have oW:=(Own.start w).read hB.out;clear hnext hh hn;go_wp2_with fail;refine HC.out.mono ?_;rintro e w1⟨ka,kl,kc,aa,al,ac,rfl,-,hB1⟩;have o1:=oW.read hB1;clear oW HC;have HT:=Xqh (XV (w:=w1) n ka kc aa ac kl al);have o5:=o1.XU n (.slice ka kl kc) (.slice aa al ac);go_wp2_with((with_reducible refine wpList_store_mid ?_ 41 (.tmp 9) (.tmp 31) ?_ w1.heap.size 0 (n.cells (.slice ka kl kc) (.slice aa al ac)).toArray ?_ ?_ ?_ ?_ ?_ ?_);exact rfl;exact rfl;exact rfl;exact rfl;exact HT.out.1;exact XM _ _ _;exact all_oneCell_toArray HT.out.2;clear HT;generalize hw5:World.setCells _ _ _ _=w5 at o5⊢;generalize hg5:w1.heap.size=g5 at o5⊢;clear hw5 hg5;skip);go_wp2;have hBn:=Xqh o5.low;go_roundw;(case rel=>exact⟨k+1,hlt,by go_num,hBn,hnx⟩);case measure=>simp[intOf];omega};·have HC:=Xqh (XgH (HO.out.read hB.out) HM.out HS.out hn (if_neg hh));have oW:=(Own.start w).read hB.out;have hfin:Hid (chk A opt l=3):=Xqh (by unfold chk;rw[if_neg];intro hall;rcases hall k x HX.out with q|q;·{exact HZ.out q};·exact hh q);clear hnext hh hn;by_cases h0:x=0;·{subst h0;have hk0:((k:Int)==opt)=false:=by{simp;exact fun q=>HZ.out ⟨rfl,q⟩};go_wp2_with fail;refine HC.out.mono ?_;rintro e w1⟨ka,kl,kc,aa,al,ac,rfl,-,hB1⟩;have o1:=oW.read hB1;clear oW HC;have HT:=Xqh (XV (w:=w1) n ka kc aa ac kl al);have o5:=o1.XU n (.slice ka kl kc) (.slice aa al ac);go_wp2_with((with_reducible refine wpList_store_mid ?_ 41 (.tmp 9) (.tmp 31) ?_ w1.heap.size 0 (n.cells (.slice ka kl kc) (.slice aa al ac)).toArray ?_ ?_ ?_ ?_ ?_ ?_);exact rfl;exact rfl;exact rfl;exact rfl;exact HT.out.1;exact XM _ _ _;exact all_oneCell_toArray HT.out.2;clear HT;generalize hw5:World.setCells _ _ _ _=w5 at o5⊢;generalize hg5:w1.heap.size=g5 at o5⊢;clear hw5 hg5;skip);go_wp2;go_ret;have hlow:=o5.low;rw[hfin.out];exact⟨rfl,HO.out.read hlow,hlow⟩};·have h0':(x==0)=false:=by{simp[h0]};clear h0;go_wp2_with fail;refine HC.out.mono ?_;rintro e w1⟨ka,kl,kc,aa,al,ac,rfl,-,hB1⟩;have o1:=oW.read hB1;clear oW HC;have HT:=Xqh (XV (w:=w1) n ka kc aa ac kl al);have o5:=o1.XU n (.slice ka kl kc) (.slice aa al ac);go_wp2_with((with_reducible refine wpList_store_mid ?_ 41 (.tmp 9) (.tmp 31) ?_ w1.heap.size 0 (n.cells (.slice ka kl kc) (.slice aa al ac)).toArray ?_ ?_ ?_ ?_ ?_ ?_);exact rfl;exact rfl;exact rfl;exact rfl;exact HT.out.1;exact XM _ _ _;exact all_oneCell_toArray HT.out.2;clear HT;generalize hw5:World.setCells _ _ _ _=w5 at o5⊢;generalize hg5:w1.heap.size=g5 at o5⊢;clear hw5 hg5;skip);go_wp2;go_ret;have hlow:=o5.low;rw[hfin.out];exact⟨rfl,HO.out.read hlow,hlow⟩};·have hfin:Hid (chk A opt l=0):=Xqh (by unfold chk;rw[if_pos];intro j x hx;exact hT.out j x (by have:=(List.getElem?_eq_some_iff.1 hx).1;omega) hx);clear hT;go_wp2;go_ret;rw[hfin.out];exact⟨rfl,HO.out.read hB.out,hB.out⟩
end
section
open Go.RowKit Go.Shelf
theorem Xki (s:ByteArray)(c:Int)(w:World):Calls Tryz.prog 159 #[.string s,.int .u8 c] w fun e w'=>e= .returned (.int .i64 (Lib.indexByte s.data.toList c.toNat.toUInt8))∧w=w':=by
 go_enter Tryz.func159,Tryz.ntmps159
 go_wp2
 rw[run_callFunc_extern Tryz.func169 (by kernel_rfl) (by kernel_rfl) (by kernel_rfl) (e:=Extern.BytealgIndexByte.indexByte) (by kernel_rfl),Lib.run_indexByteString]
 simp only[Result.andThen]
 rw[Oper.upon_value]
 go_wp2
 go_ret
 exact⟨rfl,rfl⟩
theorem Xkj (s:ByteArray)(c:Int)(w:World):Calls Tryz.prog 148 #[.string s,.int .u8 c] w fun e w'=>e= .returned (.int .i64 (Lib.indexByte s.data.toList c.toNat.toUInt8))∧w=w':=by
 have HC:=Xqh (Xki s c w)
 go_enter Tryz.func148,Tryz.ntmps148
 go_wp2_with fail
 refine HC.out.mono ?_
 rintro e w1⟨rfl,rfl⟩
 clear HC
 go_wp2
 go_ret
 exact⟨rfl,rfl⟩
/-- A function value that tells a class of bytes, now and later. -/
def FnR (w : World) (v : Value) (p : UInt8 → Bool) : Prop :=
  ∃ n caps, v = .func (.func n) #[] caps ∧ Enters Tryz.prog n ∧ ∀ w', Below w.heap.size w w' → ∀ c : UInt8, Calls Tryz.prog n (#[.int .i32 (c.toNat : Int)] ++ caps) w' fun e w'' => e = .returned (.bool (p c)) ∧ Below w'.heap.size w' w''
theorem FnR.below {w w':World}{v:Value}{p:UInt8→Bool}(h:FnR w v p)(hb:Below w.heap.size w w'):FnR w' v p:=by
 obtain⟨n,caps,h1,h0,h2⟩:=h
 exact⟨n,caps,h1,h0,fun w'' hw=>h2 w'' (Below.Yb hb hw)⟩
theorem Xey (lo hi:Int)(c:UInt8)(a b:Nat)(w:World)(ha:w.cell? ⟨a,0,none⟩=some (.int .i32 lo))(hb:w.cell? ⟨b,0,none⟩=some (.int .i32 hi)):Calls Tryz.prog 149 #[.int .i32 (c.toNat:Int),.pointer (some ⟨a,0,none⟩),.pointer (some ⟨b,0,none⟩)] w fun e w'=>e= .returned (.bool (decide (lo≤(c.toNat:Int))&&decide ((c.toNat:Int)≤hi)))∧w=w':=by
 by_cases h:lo≤(c.toNat:Int)
 ·rw[decide_eq_true h];go_enter Tryz.func149,Tryz.ntmps149;go_wp2;go_ret;exact⟨by simp,rfl⟩
 ·rw[decide_eq_false h];have h':(c.toNat:Int)<lo:=by{omega};go_enter Tryz.func149,Tryz.ntmps149;go_wp2;go_ret;exact⟨by simp,rfl⟩
theorem Ju (lo hi:Int)(w:World):Calls Tryz.prog 125 #[.int .i32 lo,.int .i32 hi] w fun e w'=>∃a b,e= .returned (.func (.func 149) #[] #[.pointer (some ⟨a,0,none⟩),.pointer (some ⟨b,0,none⟩)])∧Below w.heap.size w w'∧w'.cell? ⟨a,0,none⟩=some (.int .i32 lo)∧w'.cell? ⟨b,0,none⟩=some (.int .i32 hi):=by
 go_enter Tryz.func125,Tryz.ntmps125
 go_wp2
 go_ret
 refine⟨_,_,rfl,Below.Yb (Xw _ _) (Xw _ _),JJ _ (Yi rfl rfl),Yi (by simp) rfl⟩
theorem JQ {lo hi:Int}{a b:Nat}{w:World}(ha:w.cell? ⟨a,0,none⟩=some (.int .i32 lo))(hb:w.cell? ⟨b,0,none⟩=some (.int .i32 hi)):FnR w (.func (.func 149) #[] #[.pointer (some ⟨a,0,none⟩),.pointer (some ⟨b,0,none⟩)]) (fun c=>decide (lo≤(c.toNat:Int))&&decide ((c.toNat:Int)≤hi)):=⟨_,_,rfl,enters_of Tryz.func149 (by kernel_rfl) rfl,fun w' hw c=>(Xey lo hi c a b w' (Below.old hw ha) (Below.old hw hb)).mono (fun e w''⟨h1,h2⟩=>⟨h1,by subst h2;exact Below.refl _ _⟩)⟩
/-- A row of function values. -/
def JD (w : World) (v : Value) (ps : List (UInt8 → Bool)) : Prop :=
  ∃ a c, v = .slice a ps.length c ∧ ps.length ≤ 100 ∧ (0 < ps.length → ∃ b o, a = some ⟨b, o, none⟩ ∧ ∀ (i : Nat) p, ps[i]? = some p → ∃ f, w.cell? ⟨b, o + i, none⟩ = some f ∧ FnR w f p)
theorem JD.below {w w':World}{v:Value}{ps:List (UInt8→Bool)}(h:JD w v ps)(hb:Below w.heap.size w w'):JD w' v ps:=by
 obtain⟨a,c,h1,h2,h3⟩:=h
 refine⟨a,c,h1,h2,fun h0=>?_⟩
 obtain⟨b,o,h4,h5⟩:=h3 h0
 refine⟨b,o,h4,fun i p hp=>?_⟩
 obtain⟨f,h6,h7⟩:=h5 i p hp
 exact⟨f,Below.old hb h6,h7.below hb⟩
theorem XbZ (ps:List (UInt8→Bool))(v:Value)(c:UInt8)(g:Nat)(w:World)(hg:w.cell? ⟨g,0,none⟩=some v)(hv:JD w v ps):Calls Tryz.prog 150 #[.int .i32 (c.toNat:Int),.pointer (some ⟨g,0,none⟩)] w fun e w'=>e= .returned (.bool (ps.any (fun p=>p c)))∧Below w.heap.size w w':=by
 have HV:=Xqh hv
 obtain⟨a,cc,rfl,hl,-⟩:=hv
 go_enter Tryz.func150,Tryz.ntmps150
 go_wp2
 go_loopw [8](fun i wr=>∃k:Nat,k≤ps.length∧i= .int .i64 k∧Hid (Below w.heap.size w wr)∧Hid (∀p∈ps.take k,p c=false))(fun i _=>ps.length-(intOf i).toNat)
 case atStart=>exact⟨0,Nat.zero_le _,rfl,Xqh (Below.refl _ _),Xqh (by simp)⟩
 case round=>obtain⟨k,hk,rfl,hB,hT⟩:=hrel;clear hg;by_cases hlt:k<ps.length;·{obtain⟨p,hp⟩:∃p,ps[k]?=some p:=⟨_,List.getElem?_eq_getElem hlt⟩;obtain⟨a',cc',he,-,h3⟩:=HV.out.below hB.out;obtain⟨b,o,rfl,h5⟩:=h3 (by omega);obtain⟨f,h6,n,caps,rfl,hE,h7⟩:=h5 k p hp;unfold Enters at hE;have hea:a=some ⟨b,o,none⟩:=by{injection he};subst hea;have HC:=Xqh (h7 wr (Below.refl _ _) c);have HP:=Xqh hp;clear he h3 h5 h7 hp;generalize hpc:p c=pc at*;have HPC:=Xqh hpc;clear hpc;cases pc with|true=>{go_wp2_with fail;refine HC.out.mono ?_;rintro e w1⟨rfl,hB1⟩;have HB:=Xqh (Below.Yb hB.out hB1);clear HC hB1;go_wp2;go_ret;exact⟨by rw[List.any_eq_true.2 ⟨p,List.mem_of_getElem? HP.out,HPC.out⟩];try rfl,HB.out⟩}|false=>go_wp2_with fail;refine HC.out.mono ?_;rintro e w1⟨rfl,hB1⟩;have HB:=Xqh (Below.Yb hB.out hB1);have HT2:Hid (∀q∈ps.take (k+1),q c=false):=Xqh (fun q hq=>by rw[List.take_add_one,HP.out]at hq;rcases List.mem_append.1 hq with hq|hq;·{exact hT.out q hq};·simp at hq;subst hq;exact HPC.out);clear HC hB1;go_wp2;go_roundw;(case rel=>exact⟨k+1,hlt,by go_num,HB,HT2⟩);case measure=>simp[intOf];omega};·have hkl:ps.take k=ps:=List.take_of_length_le (by omega);rw[hkl]at hT;have HF:Hid (ps.any (fun p=>p c)=false):=Xqh (by rw[List.any_eq_false];intro p hp;rw[hT.out p hp];decide);clear hT hkl;go_wp2;go_ret;exact⟨by rw[HF.out];try rfl,hB.out⟩
theorem Xb0 (ps:List (UInt8→Bool))(v:Value)(w:World)(hv:JD w v ps):Calls Tryz.prog 126 #[v] w fun e w'=>∃g,e= .returned (.func (.func 150) #[] #[.pointer (some ⟨g,0,none⟩)])∧Below w.heap.size w w'∧w'.cell? ⟨g,0,none⟩=some v∧JD w' v ps:=by
 have HV:=Xqh (hv.below (Xw w (.cells #[v] 174)))
 obtain⟨a,cc,rfl,hl,-⟩:=hv
 go_enter Tryz.func126,Tryz.ntmps126
 go_wp2
 go_ret
 exact⟨_,rfl,Xw _ _,Yi rfl rfl,HV.out⟩
theorem Xkk {ps:List (UInt8→Bool)}{v:Value}{g:Nat}{w:World}(hg:w.cell? ⟨g,0,none⟩=some v)(hv:JD w v ps):FnR w (.func (.func 150) #[] #[.pointer (some ⟨g,0,none⟩)]) (fun c=>ps.any (fun p=>p c)):=⟨_,_,rfl,enters_of Tryz.func150 (by kernel_rfl) rfl,fun w' hw c=>XbZ ps v c g w' (Below.old hw hg) (hv.below hw)⟩
end
section
open Go.RowKit Go.Shelf
theorem eqB (c k:UInt8):(c==k)=decide (c.toNat=k.toNat):=by
 rw[Bool.eq_iff_iff]
 simp[UInt8.toNat_inj]
theorem XgN (c:UInt8):IntKind.u8.wrap (c.toNat:Int)=c.toNat:=by
 have:=c.toNat_lt
 unfold IntKind.wrap
 have e1:IntKind.u8.bits=8:=rfl
 have e2:IntKind.u8.signed=false:=rfl
 rw[e1,e2]
 simp
 omega
theorem XeL (c:UInt8):wrap32 (c.toNat:Int)=c.toNat:=by
 have:=c.toNat_lt
 unfold wrap32
 omega
theorem Xc3 {n:Nat}{p:UInt8→Bool}(hE:Enters Tryz.prog n)(h:∀(c:UInt8)w,Calls Tryz.prog n #[.int .i32 (c.toNat:Int)] w fun e w'=>e= .returned (.bool (p c))∧Below w.heap.size w w')(w:World):FnR w (.func (.func n) #[] #[]) p:=⟨n,#[],rfl,hE,fun w' _ c=>h c w'⟩
theorem XeM {w:World}{t:TypeId}{fs:List Value}{ps:List (UInt8→Bool)}(hl:ps.length≤100)(h:∀(i:Nat)p,ps[i]?=some p→∃f,fs[i]?=some f∧FnR w f p):JD (w.alloc (.cells fs.toArray t)) (.slice (some ⟨w.heap.size,0,none⟩) ps.length ps.length) ps:=⟨_,_,rfl,hl,fun _=>⟨_,0,rfl,fun i p hp=>by obtain⟨f,h1,h2⟩:=h i p hp;exact⟨f,Yi rfl (by simpa using h1),h2.below (Xw _ _)⟩⟩⟩
theorem XgO {w:World}{t:TypeId}{f1 f2:Value}{p1 p2:UInt8→Bool}(h1:FnR w f1 p1)(h2:FnR w f2 p2):JD (w.alloc (.cells #[f1,f2] t)) (.slice (some ⟨w.heap.size,0,none⟩) 2 2) [p1,p2]:=XeM (fs:= [f1,f2]) (ps:= [p1,p2]) (by simp) (fun i p hp=>by match i,hp with|0,hp=>(cases hp;exact⟨_,rfl,h1⟩)|1,hp=>(cases hp;exact⟨_,rfl,h2⟩)|i+2,hp=>simp at hp)
theorem XgP {w:World}{t:TypeId}{f1 f2 f3:Value}{p1 p2 p3:UInt8→Bool}(h1:FnR w f1 p1)(h2:FnR w f2 p2)(h3:FnR w f3 p3):JD (w.alloc (.cells #[f1,f2,f3] t)) (.slice (some ⟨w.heap.size,0,none⟩) 3 3) [p1,p2,p3]:=XeM (fs:= [f1,f2,f3]) (ps:= [p1,p2,p3]) (by simp) (fun i p hp=>by match i,hp with|0,hp=>(cases hp;exact⟨_,rfl,h1⟩)|1,hp=>(cases hp;exact⟨_,rfl,h2⟩)|2,hp=>(cases hp;exact⟨_,rfl,h3⟩)|i+3,hp=>simp at hp)
theorem Xky {w:World}{t:TypeId}{f1 f2 f3 f4 f5:Value}{p1 p2 p3 p4 p5:UInt8→Bool}(h1:FnR w f1 p1)(h2:FnR w f2 p2)(h3:FnR w f3 p3)(h4:FnR w f4 p4)(h5:FnR w f5 p5):JD (w.alloc (.cells #[f1,f2,f3,f4,f5] t)) (.slice (some ⟨w.heap.size,0,none⟩) 5 5) [p1,p2,p3,p4,p5]:=XeM (fs:= [f1,f2,f3,f4,f5]) (ps:= [p1,p2,p3,p4,p5]) (by simp) (fun i p hp=>by match i,hp with|0,hp=>(cases hp;exact⟨_,rfl,h1⟩)|1,hp=>(cases hp;exact⟨_,rfl,h2⟩)|2,hp=>(cases hp;exact⟨_,rfl,h3⟩)|3,hp=>(cases hp;exact⟨_,rfl,h4⟩)|4,hp=>(cases hp;exact⟨_,rfl,h5⟩)|i+5,hp=>simp at hp)
theorem XgQ (c:UInt8)(w:World):Calls Tryz.prog 128 #[.int .i32 (c.toNat:Int)] w fun e w'=>e= .returned (.bool (ZE c))∧Below w.heap.size w w':=by
 go_enter Tryz.func128,Tryz.ntmps128
 go_wp2_with fail
 refine(Ju 65 90 w).mono ?_
 rintro e w1⟨a,b,rfl,hB1,h1,h2⟩
 have HB:=Xqh hB1
 have HC:=Xqh (Xey 65 90 c _ _ w1 h1 h2)
 clear hB1 h1 h2
 go_wp2_with fail
 refine HC.out.mono ?_
 rintro e w2⟨rfl,rfl⟩
 clear HC
 go_wp2
 go_ret
 refine⟨?_,HB.out⟩
 have:(decide ((65:Int)≤(c.toNat:Int))&&decide ((c.toNat:Int)≤90))=ZE c:=by rw[Bool.eq_iff_iff];simp[ZE];omega
 rw[←this]
 try rfl
theorem Xkz (c:UInt8)(w:World):Calls Tryz.prog 151 #[.int .i32 (c.toNat:Int)] w fun e w'=>e= .returned (.bool (Xaq c))∧Below w.heap.size w w':=by
 go_enter Tryz.func151,Tryz.ntmps151
 go_wp2_with fail
 refine(Ju 48 57 w).mono ?_
 rintro e w1⟨a,b,rfl,hB1,h1,h2⟩
 have HB:=Xqh hB1
 have HC:=Xqh (Xey 48 57 c _ _ w1 h1 h2)
 clear hB1 h1 h2
 go_wp2_with fail
 refine HC.out.mono ?_
 rintro e w2⟨rfl,rfl⟩
 clear HC
 go_wp2
 go_ret
 refine⟨?_,HB.out⟩
 have:(decide ((48:Int)≤(c.toNat:Int))&&decide ((c.toNat:Int)≤57))=Xaq c:=by rw[Bool.eq_iff_iff];simp[Xaq];omega
 rw[←this]
 try rfl
theorem XgR (c:UInt8)(w:World):Calls Tryz.prog 122 #[.int .i32 (c.toNat:Int)] w fun e w'=>e= .returned (.bool (Je c))∧Below w.heap.size w w':=by
 go_enter Tryz.func122,Tryz.ntmps122
 go_wp2_with fail
 refine(Ju 97 122 w).mono ?_
 rintro e w1⟨a,b,rfl,hB1,h1,h2⟩
 have HB:=Xqh hB1
 have HF:=Xqh (XgO (t:=159) (Xc3 (enters_of Tryz.func128 (by kernel_rfl) rfl) XgQ w1) (JQ h1 h2))
 have HE:=Xqh (Xb0 _ _ _ HF.out)
 have HB2:=Xqh (Below.Yb hB1 (Xw w1 (.cells #[.func (.func 128) #[] #[],.func (.func 149) #[] #[.pointer (some ⟨a,0,none⟩),.pointer (some ⟨b,0,none⟩)]] 159)))
 clear hB1 h1 h2
 go_wp2_with fail
 refine HE.out.mono ?_
 rintro e w2⟨g,rfl,hB2,h3,h4⟩
 have HB3:=Xqh (Below.Yb HB2.out hB2)
 have hc0:=(XbZ _ _ c _ w2 h3 h4)
 have hee:([ZE,fun c=>decide ((97:Int)≤(c.toNat:Int))&&decide ((c.toNat:Int)≤122)]:List (UInt8→Bool)).any (fun p=>p c)=Je c:=by have e1:(decide ((97:Int)≤(c.toNat:Int))&&decide ((c.toNat:Int)≤122))=(decide (97≤c.toNat)&&decide (c.toNat≤122)):=by{rw[Bool.eq_iff_iff];simp;omega};simp only[List.any_cons,List.any_nil,Bool.or_false,e1,Je]
 rw[hee]at hc0
 have HC:=Xqh hc0
 clear hc0 hee
 clear HE hB2 h3 h4 HF HB2 HB
 go_wp2_with fail
 refine HC.out.mono ?_
 rintro e w3⟨rfl,hB3⟩
 have HB4:=Xqh (Below.Yb HB3.out hB3)
 clear HC hB3
 go_wp2
 go_ret
 exact⟨rfl,HB4.out⟩
theorem XkA (c:UInt8)(w:World):Calls Tryz.prog 127 #[.int .i32 (c.toNat:Int)] w fun e w'=>e= .returned (.bool (Jt c))∧Below w.heap.size w w':=by
 have HF:=Xqh (XgO (t:=159) (Xc3 (enters_of Tryz.func122 (by kernel_rfl) rfl) XgR w) (Xc3 (enters_of Tryz.func151 (by kernel_rfl) rfl) Xkz w))
 have HE:=Xqh (Xb0 _ _ _ HF.out)
 have HB2:=Xqh (Xw w (.cells #[.func (.func 122) #[] #[],.func (.func 151) #[] #[]] 159))
 go_enter Tryz.func127,Tryz.ntmps127
 go_wp2_with fail
 refine HE.out.mono ?_
 rintro e w2⟨g,rfl,hB2,h3,h4⟩
 have HB3:=Xqh (Below.Yb HB2.out hB2)
 have hc0:=(XbZ _ _ c _ w2 h3 h4)
 have hee:([Je,Xaq]:List (UInt8→Bool)).any (fun p=>p c)=Jt c:=by simp[Jt]
 rw[hee]at hc0
 have HC:=Xqh hc0
 clear hc0 hee
 clear HE hB2 h3 h4 HF HB2
 go_wp2_with fail
 refine HC.out.mono ?_
 rintro e w3⟨rfl,hB3⟩
 have HB4:=Xqh (Below.Yb HB3.out hB3)
 clear HC hB3
 go_wp2
 go_ret
 exact⟨rfl,HB4.out⟩
theorem XkB (c:UInt8)(w:World):Calls Tryz.prog 147 #[.int .i32 (c.toNat:Int)] w fun e w'=>e= .returned (.bool (JC c))∧Below w.heap.size w w':=by
 go_enter Tryz.func147,Tryz.ntmps147
 go_wp2_with fail
 refine(Ju 9 10 w).mono ?_
 rintro e w1⟨a1,b1,rfl,hB1,h1,k1⟩
 go_wp2_with fail
 refine(Ju 12 13 w1).mono ?_
 rintro e w2⟨a2,b2,rfl,hB2,h2,k2⟩
 go_wp2_with fail
 refine(Ju 32 32 w2).mono ?_
 rintro e w3⟨a3,b3,rfl,hB3,h3,k3⟩
 have HF:=Xqh (XgP (t:=159) (((JQ h1 k1).below hB2).below hB3) ((JQ h2 k2).below hB3) (JQ h3 k3))
 have HE:=Xqh (Xb0 _ _ _ HF.out)
 have HB2:=Xqh (Below.Yb (Below.Yb (Below.Yb hB1 hB2) hB3) (Xw w3 (.cells #[.func (.func 149) #[] #[.pointer (some ⟨a1,0,none⟩),.pointer (some ⟨b1,0,none⟩)],.func (.func 149) #[] #[.pointer (some ⟨a2,0,none⟩),.pointer (some ⟨b2,0,none⟩)],.func (.func 149) #[] #[.pointer (some ⟨a3,0,none⟩),.pointer (some ⟨b3,0,none⟩)]] 159)))
 clear hB1 h1 k1 hB2 h2 k2 hB3 h3 k3
 go_wp2_with fail
 refine HE.out.mono ?_
 rintro e w4⟨g,rfl,hB2,h3,h4⟩
 have HB3:=Xqh (Below.Yb HB2.out hB2)
 have hc0:=(XbZ _ _ c _ w4 h3 h4)
 have hee:([fun c=>decide ((9:Int)≤(c.toNat:Int))&&decide ((c.toNat:Int)≤10),fun c=>decide ((12:Int)≤(c.toNat:Int))&&decide ((c.toNat:Int)≤13),fun c=>decide ((32:Int)≤(c.toNat:Int))&&decide ((c.toNat:Int)≤32)]:List (UInt8→Bool)).any (fun p=>p c)=JC c:=by rw[Bool.eq_iff_iff];simp only[JC,eqB,List.any_cons,List.any_nil,Bool.or_false,Bool.or_eq_true,Bool.and_eq_true,decide_eq_true_eq];have e1:(9:UInt8).toNat=9:=rfl;have e2:(10:UInt8).toNat=10:=rfl;have e3:(12:UInt8).toNat=12:=rfl;have e4:(13:UInt8).toNat=13:=rfl;have e5:(32:UInt8).toNat=32:=rfl;rw[e1,e2,e3,e4,e5];omega
 rw[hee]at hc0
 have HC:=Xqh hc0
 clear hc0 hee
 clear HE hB2 h3 h4 HF HB2
 go_wp2_with fail
 refine HC.out.mono ?_
 rintro e w5⟨rfl,hB3⟩
 have HB4:=Xqh (Below.Yb HB3.out hB3)
 clear HC hB3
 go_wp2
 go_ret
 exact⟨rfl,HB4.out⟩
theorem XkC (others:ByteArray)(c:UInt8)(g:Nat)(w:World)(hg:w.cell? ⟨g,0,none⟩=some (.string others)):Calls Tryz.prog 146 #[.int .i32 (c.toNat:Int),.pointer (some ⟨g,0,none⟩)] w fun e w'=>e= .returned (.bool (YI others.data.toList c))∧Below w.heap.size w w':=by
 have HC:=Xqh (XkB c w)
 have HG:=Xqh hg
 have hc8:(c.toNat:Int)<256:=by have:=c.toNat_lt;omega
 have HN:Hid (YI others.data.toList c=(!JC c&&decide ((c.toNat:Int)≠0)&&decide (Lib.indexByte others.data.toList c<0))):=Xqh (by unfold YI;rw[Lib.contains_iff_indexByte,bne,eqB];have e0:(0:UInt8).toNat=0:=rfl;rw[e0,Bool.eq_iff_iff];simp)
 have HU:Hid (((c.toNat:Int)).toNat.toUInt8=c):=Xqh (by simp)
 have hw8:=XgN c
 clear hg
 generalize JC c=sp at*
 go_enter Tryz.func146,Tryz.ntmps146
 go_wp2_with fail
 refine HC.out.mono ?_
 rintro e w1⟨rfl,hB⟩
 clear HC
 cases sp with|true=>{have HF:Hid (YI others.data.toList c=false):=Xqh (by rw[HN.out];simp);have HB:=Xqh hB;clear hB HN;go_wp2;go_ret;exact⟨by rw[HF.out];try rfl,HB.out⟩}|false=>by_cases h0:(c.toNat:Int)=0;·{have HF:Hid (YI others.data.toList c=false):=Xqh (by rw[HN.out,h0];simp);have HB:=Xqh hB;have h0':((c.toNat:Int)!=0)=false:=by{simp[h0]};clear hB HN h0;go_wp2;go_ret;exact⟨by rw[HF.out];try rfl,HB.out⟩};·have HF:Hid (YI others.data.toList c=decide (Lib.indexByte others.data.toList c<0)):=Xqh (by rw[HN.out,decide_eq_true h0];simp);have HB:=Xqh hB;have h0':((c.toNat:Int)!=0)=true:=bne_iff_ne.2 h0;have hg:=Below.old hB HG.out;clear hB HN h0;go_wp2_with fail;refine(Xkj others (c.toNat:Int) w1).mono ?_;rintro e w2⟨rfl,rfl⟩;rw[HU.out];go_wp2;go_ret;exact⟨by rw[HF.out];try rfl,HB.out⟩
theorem XgS (others:ByteArray)(w:World):Calls Tryz.prog 124 #[.string others] w fun e w'=>∃g,e= .returned (.func (.func 146) #[] #[.pointer (some ⟨g,0,none⟩)])∧Below w.heap.size w w'∧w'.cell? ⟨g,0,none⟩=some (.string others):=by
 go_enter Tryz.func124,Tryz.ntmps124
 go_wp2
 go_ret
 exact⟨_,rfl,Xw _ _,Yi rfl rfl⟩
theorem XgT {others:ByteArray}{g:Nat}{w:World}(hg:w.cell? ⟨g,0,none⟩=some (.string others)):FnR w (.func (.func 146) #[] #[.pointer (some ⟨g,0,none⟩)]) (YI others.data.toList):=⟨_,_,rfl,enters_of Tryz.func146 (by kernel_rfl) rfl,fun w' hw c=>XkC others c g w' (Below.old hw hg)⟩
theorem XeN (s:ByteArray)(v:Value)(p:UInt8→Bool)(w:World)(hv:FnR w v p)(hs:s.size≤1000000):Calls Tryz.prog 123 #[.string s,v] w fun e w'=>e= .returned (.bool (s.toList.all p))∧Below w.heap.size w w':=by
 have HV:=Xqh hv
 obtain⟨n,caps,rfl,hE,-⟩:=hv
 unfold Enters at hE
 go_enter Tryz.func123,Tryz.ntmps123
 go_wp2
 go_loopw [8](fun i wr=>∃k:Nat,k≤s.size∧i= .int .i64 k∧Hid (Below w.heap.size w wr)∧Hid (∀c∈s.toList.take k,p c=true))(fun i _=>s.size-(intOf i).toNat)
 case atStart=>exact⟨0,Nat.zero_le _,rfl,Xqh (Below.refl _ _),Xqh (by simp)⟩
 case round=>obtain⟨k,hk,rfl,hB,hT⟩:=hrel;by_cases hlt:k<s.size;·{obtain⟨n',caps',he,-,h7⟩:=HV.out.below hB.out;have hnc:n=n'∧caps=caps':=by{injection he with h1 h2 h3;injection h1 with h1;exact⟨h1,h3⟩};obtain⟨rfl,rfl⟩:=hnc;have hx:s.toList[k]?=some s[k]:=by{rw[Go.ByteArray.toList_eq,Array.getElem?_toList];exact Array.getElem?_eq_getElem (show k<s.data.size from hlt)};have HX:=Xqh hx;have HC:=Xqh (h7 wr (Below.refl _ _) s[k]);have hw32:wrap32 ((s[k].toNat:Nat):Int)=s[k].toNat:=XeL s[k];clear he h7 hx;generalize hpc:p s[k]=pc at*;have HPC:=Xqh hpc;clear hpc;cases pc with|true=>{go_wp2_with fail;refine HC.out.mono ?_;rintro e w1⟨rfl,hB1⟩;have HB:=Xqh (Below.Yb hB.out hB1);have HT2:Hid (∀q∈s.toList.take (k+1),p q=true):=Xqh (fun q hq=>by rw[List.take_add_one,HX.out]at hq;rcases List.mem_append.1 hq with hq|hq;·{exact hT.out q hq};·simp at hq;subst hq;exact HPC.out);clear HC hB1;go_wp2;go_roundw;(case rel=>exact⟨k+1,hlt,by go_num,HB,HT2⟩);case measure=>simp[intOf];omega}|false=>have HF:Hid (s.toList.all p=false):=Xqh (by rw[List.all_eq_false];exact⟨s[k],List.mem_of_getElem? HX.out,by rw[HPC.out];decide⟩);go_wp2_with fail;refine HC.out.mono ?_;rintro e w1⟨rfl,hB1⟩;have HB:=Xqh (Below.Yb hB.out hB1);clear HC hB1;go_wp2;go_ret;exact⟨by rw[HF.out];try rfl,HB.out⟩};·have hkl:s.toList.take k=s.toList:=List.take_of_length_le (by rw[Go.ByteArray.toList_eq,Array.length_toList];exact Nat.le_of_not_lt hlt);rw[hkl]at hT;have HF:Hid (s.toList.all p=true):=Xqh (List.all_eq_true.2 hT.out);clear hT hkl;go_wp2;go_ret;exact⟨by rw[HF.out];try rfl,hB.out⟩
/-- Bytes in a row that may be written. -/
def Jv (w : World) (g : Nat) (l : List UInt8) : Prop := ∀ j c, l[j]? = some c → w.cell? ⟨g, j, none⟩ = some (.int .u8 (c.toNat : Int)) ∧ w.frozen? ⟨g, j, none⟩ = false
theorem Jv.set {w:World}{g:Nat}{l:List UInt8}(h:Jv w g l){k:Nat}(hk:k<l.length)(c:UInt8):Jv (w.setCell ⟨g,k,none⟩ (.int .u8 (c.toNat:Int))) g (l.set k c):=by
 intro j d hj
 have hj':j<l.length:=by have:=(List.getElem?_eq_some_iff.1 hj).1;simpa using this
 by_cases e:k=j
 ·subst e;rw[List.getElem?_set_self hk]at hj;cases hj;obtain⟨h1,h2⟩:=h k l[k] (List.getElem?_eq_getElem hk);exact⟨World.cell?_setCell_same w _ _ h1,by rw[World.frozen?_setCell];exact h2⟩
 ·rw[List.getElem?_set_ne e]at hj;obtain⟨h1,h2⟩:=h j d hj;exact⟨by rw[World.cell?_setCell_other _ _ _ _ (fun q=>e (by injection q))];exact h1,by rw[World.frozen?_setCell];exact h2⟩
theorem Jv.drew {w:World}{g:Nat}{l:List UInt8}(h:Jv w g l):Jv w.drew g l:=h
theorem Jv.below {w w':World}{g:Nat}{l:List UInt8}(h:Jv w g l)(hb:Below w.heap.size w w'):Jv w' g l:=fun j c hj=>by{obtain⟨h1,h2⟩:=h j c hj;have hlt:g<w.heap.size:=World.block_lt_of_cell? w _ h1;exact⟨Below.old hb h1,(Below.frozen hb (p:=⟨g,j,none⟩) hlt).trans h2⟩}
theorem XeO {l:List UInt8}{k:Nat}{c:UInt8}(h:l[k]?=some c):((l.take k).map Yw++l.drop k)[k]?=some c:=by
 have hk:=(List.getElem?_eq_some_iff.1 h).1
 rw[List.getElem?_append_right (by simp;omega)]
 simp[List.length_take,Nat.min_eq_left (Nat.le_of_lt hk)]
 simpa using h
theorem XgU {l:List UInt8}{k:Nat}{c:UInt8}(h:l[k]?=some c):(((l.take k).map Yw++l.drop k).set k (Yw c))=(l.take (k+1)).map Yw++l.drop (k+1):=by
 have hk:=(List.getElem?_eq_some_iff.1 h).1
 have e:l.drop k=c::l.drop (k+1):=by rw[List.drop_eq_getElem_cons hk,(List.getElem?_eq_some_iff.1 h).2]
 rw[e,List.take_add_one,h,List.set_append_right _ _ (by simp;omega)]
 simp[Nat.min_eq_left (Nat.le_of_lt hk)]
theorem XkD {α:Type}{L:List α}{k:Nat}{c:α}(h:L[k]?=some c):L.set k c=L:=by
 apply List.ext_getElem?
 intro j
 rw[List.getElem?_set]
 split
 ·rename_i e;subst e;rw[if_pos (List.getElem?_eq_some_iff.1 h).1,h]
 ·rfl
theorem XaU (s:ByteArray):s.toList.length=s.size:=by
 rw[Go.ByteArray.toList_eq,Array.length_toList]
 rfl
theorem XgV {c:UInt8}(h:ZE c=true):((Yw c).toNat:Int)=c.toNat+32:=by
 unfold ZE at h
 simp only[Bool.and_eq_true,decide_eq_true_eq]at h
 have:ZE c=true:=by unfold ZE;simp[h]
 unfold Yw
 rw[if_pos this,UInt8.toNat_add]
 have e:(32:UInt8).toNat=32:=rfl
 rw[e]
 omega
theorem XgW {c:UInt8}(h:ZE c=false):Yw c=c:=by
 unfold Yw
 rw[h]
 rfl
theorem XgX (s:ByteArray)(w:World)(hs:s.size≤1000000):Calls Tryz.prog 102 #[.string s] w fun e w'=>e= .returned (.string (ZM s))∧Below w.heap.size w w':=by
 have hlen:=XaU s
 obtain⟨cap,C,hcap,hconv,hrow,hBB⟩:∃cap C,s.size≤cap∧(convert 9 63 (.string s)).run Tryz.prog w= .ok (.slice (some ⟨w.heap.size,0,none⟩) s.size cap) (w.drew.alloc (.cells C 5 (C.size,C.size+1)))∧Jv (w.alloc (.cells C 5 (C.size,C.size+1))) w.heap.size s.toList∧Below w.heap.size w (w.alloc (.cells C 5 (C.size,C.size+1))):=by have hc:s.size≤grownCap w s.size 0 5:=grownCap_ge _ _ _ _;refine⟨_,_,hc,run_bytes_of_string w 9 63 5 s Tryz.underlying9 Tryz.underlying63 Tryz.underlying5,fun j c hj=>?_,Xw _ _⟩;have hj':j<s.data.size:=by{have:=(List.getElem?_eq_some_iff.1 hj).1;rw[hlen]at this;exact this};refine⟨?_,?_⟩;·{rw[World.cell?_alloc_mark,bytesRow_at s _ j hj'];rw[Go.ByteArray.toList_eq,Array.getElem?_toList,Array.getElem?_eq_getElem hj']at hj;cases hj;rfl};·rw[World.frozen?_alloc_mark,decide_eq_false];·{rfl};·unfold bytesRow;simp;have:s.data.size=s.size:=rfl;omega
 have HR:=Xqh hrow
 have HB:=Xqh hBB
 clear hrow hBB
 go_enter Tryz.func102,Tryz.ntmps102
 go_wp2
 generalize hW:w.alloc (.cells C 5 (C.size,C.size+1))=W at*
 generalize hg:w.heap.size=g at*
 have HG:=Xqh hg
 clear hW hg hconv
 go_loopw [10](fun i wr=>∃k:Nat,k≤s.size∧i= .int .i64 k∧Hid (Below g w wr)∧Hid (Jv wr g ((s.toList.take k).map Yw++s.toList.drop k)))(fun i _=>s.size-(intOf i).toNat)
 case atStart=>exact⟨0,Nat.zero_le _,rfl,Xqh (Below.drew HB.out),Xqh (by simpa using HR.out.drew)⟩
 case round=>obtain⟨k,hk,rfl,hB,hT⟩:=hrel;by_cases hlt:k<s.size;·{obtain⟨c,hc⟩:∃c,s.toList[k]?=some c:=⟨_,List.getElem?_eq_getElem (by rw[hlen];exact hlt)⟩;have hat:((s.toList.take k).map Yw++s.toList.drop k)[k]?=some c:=XeO hc;obtain⟨c1,f1⟩:=hT.out k c hat;have HC:=Xqh hc;have HL:Hid (k<((s.toList.take k).map Yw++s.toList.drop k).length):=Xqh (List.getElem?_eq_some_iff.1 hat).1;have HU:=Xqh (XgQ c wr);have hw32:wrap32 ((c.toNat:Nat):Int)=c.toNat:=XeL c;clear hc hat;cases hu:ZE c with|true=>{have hl:=XgV hu;rw[hu]at HU;have HUP:=Xqh hu;clear hu;go_wp2_with fail;refine HU.out.mono ?_;rintro e w1⟨rfl,hB1⟩;have hT1:=hT.out.below hB1;obtain⟨c2,f2⟩:=hT1 k c (XeO HC.out);have HB1:=Xqh hB1;have HT1:=Xqh hT1;clear HU hB1 hT1 c1 f1;have hb1:65≤c.toNat∧c.toNat≤90:=by{have:=HUP.out;unfold ZE at this;simpa using this};have hv:((c.toNat:Int)-65+97)%256=(Yw c).toNat:=by{omega};have HV:=Xqh hv;clear hv hb1 hl;go_wp2;go_roundw;(case rel=>refine⟨k+1,hlt,by go_num,Xqh ?_,Xqh ?_⟩;·{exact(hB.out.trans (HB1.out.mono (by rw[←HG.out];exact hB.out.size))).setCell (Nat.le_refl _) _};·rw[HV.out,←XgU HC.out];exact HT1.out.set HL.out _);case measure=>simp[intOf];omega}|false=>have hl:=XgW hu;rw[hu]at HU;clear hu;go_wp2_with fail;refine HU.out.mono ?_;rintro e w1⟨rfl,hB1⟩;have HT1:Hid (Jv w1 g ((s.toList.take (k+1)).map Yw++s.toList.drop (k+1))):=Xqh (by have h9:=hT.out.below hB1;have h8:=XgU HC.out;rw[hl,XkD (XeO HC.out)]at h8;rw[←h8];exact h9);have HB1:Hid (Below g w w1):=Xqh (hB.out.trans (hB1.mono (by rw[←HG.out];exact hB.out.size)));clear HU hB1 c1 f1 hl;go_wp2;go_roundw;(case rel=>exact⟨k+1,hlt,by go_num,HB1,HT1⟩);case measure=>simp[intOf];omega};·have hkl:(s.toList.take k).map Yw++s.toList.drop k=s.toList.map Yw:=by{rw[List.take_of_length_le (by rw[hlen];omega),List.drop_of_length_le (by rw[hlen];omega),List.append_nil]};rw[hkl]at hT;have hback:=run_convert_bytes_back wr 63 9 5 ⟨g,0,none⟩ cap (s.toList.map Yw) Tryz.underlying63 Tryz.underlying5 Tryz.underlying9 (fun j hj=>by have:=(hT.out j _ (List.getElem?_eq_getElem hj)).1;rw[show(⟨g,0,none⟩:Addr).add j=⟨g,j,none⟩by(unfold Addr.add;split<;>simp_all)];exact this);rw[List.length_map,hlen]at hback;have HF:Hid (ZM s=⟨(s.toList.map Yw).toArray⟩):=Xqh rfl;clear hT hkl;generalize(⟨(s.toList.map Yw).toArray⟩:ByteArray)=r at*;go_wp2;go_ret;exact⟨by rw[HF.out];try rfl,by rw[HG.out];exact hB.out⟩
end
end Go.Proofs.YtpicinjcmjaogaaGreatDoor
