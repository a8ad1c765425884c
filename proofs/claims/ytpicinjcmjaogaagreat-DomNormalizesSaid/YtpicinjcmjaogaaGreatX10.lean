import Derived.Deep.Slices
import Derived.Deep.Fields
import Derived.Lib.Bytealg
import Derived.Shelf.Abstract
import Derived.Test.YtpicinjcmjaogaaGreatX09
set_option maxRecDepth 100000
set_option maxHeartbeats 4000000
set_option linter.unusedVariables false
namespace Go.Proofs.YtpicinjcmjaogaaGreat
section
open Go.RowKit
theorem XgH {w0 w:World}{B b:Nat}{A:Ar}{l:List Xf}{h:Int}{n:Nd}{er:Int}(o:Own w0 B l w)(hm:Xf.arena b A∈l)(hS:A.YC)(hn:(if A.has h then A.get h else XL)=n)(he:(if A.has h then(0:Int)else 3)=er):Calls Tryz.prog 34 #[.pointer (some ⟨b,0,none⟩),.int .i64 h] w fun e w'=>∃ka kl kc aa al ac,e= .returned (.tuple #[.agg (n.cells (.slice ka kl kc) (.slice aa al ac)).toArray,.int .i64 er])∧Own w0 B l w'∧Below w.heap.size w w':=by
 subst hn
 subst he
 obtain⟨ρ,hA⟩:=o.arena hm
 refine(XcO A ρ b h w hA hS).mono ?_
 rintro e w'⟨hB,kv,av,rfl,h1,h2⟩
 obtain⟨ka,kc,rfl⟩:=X6 h1
 obtain⟨aa,ac,rfl⟩:=X6 h2
 exact⟨ka,_,kc,aa,_,ac,rfl,o.read hB,hB⟩
theorem Zv {w0 w:World}{B b:Nat}{A:Ar}{l:List Xf}{h:Int}{n:Nd}(o:Own w0 B l w)(hm:Xf.arena b A∈l)(hS:A.YC)(hh:A.has h)(hn:A.get h=n):Calls Tryz.prog 90 #[.pointer (some ⟨b,0,none⟩),.int .i64 h] w fun e w'=>e= .returned (.int .i64 n.Xa)∧Own w0 B l w'∧Below w.heap.size w w':=by
 have oS:=Own.start w
 have HC:=Xqh (JZ o hm hS hh hn)
 have HO:=Xqh o
 clear o
 go_enter Tryz.func90,Tryz.ntmps90
 go_wp2_with fail
 refine HC.out.mono ?_
 rintro e w1⟨ka,kl,kc,aa,al,ac,rfl,-,hB1⟩
 have o1:=oS.read hB1
 clear oS HC
 have HT:=Xqh (XV (w:=w1) n ka kc aa ac kl al)
 have o5:=o1.XU n (.slice ka kl kc) (.slice aa al ac)
 go_wp2_with((with_reducible refine wpList_store_mid ?_ 46 (.tmp 5) (.tmp 11) ?_ w1.heap.size 0 (n.cells (.slice ka kl kc) (.slice aa al ac)).toArray ?_ ?_ ?_ ?_ ?_ ?_);exact rfl;exact rfl;exact rfl;exact rfl;exact HT.out.1;exact XM _ _ _;exact all_oneCell_toArray HT.out.2;clear HT;generalize hw5:World.setCells _ _ _ _=w5 at o5⊢;generalize hg5:w1.heap.size=g5 at o5⊢;clear hw5 hg5;have q1:w5.cell? ⟨g5,0,none⟩=some (.int .i64 n.Xa):=(cell_of_row w5 _ _ _ _ _ (o5.box (g:=g5) (o:= .cells (n.cells (.slice ka kl kc) (.slice aa al ac)).toArray 46 (0,0)) (by simp))).trans rfl)
 go_wp2
 go_ret
 have hlow:=o5.low
 exact⟨rfl,HO.out.read hlow,hlow⟩
theorem XcV {w0 w:World}{B b:Nat}{A:Ar}{l:List Xf}{h:Int}{n:Nd}(o:Own w0 B l w)(hm:Xf.arena b A∈l)(hS:A.YC)(hh:A.has h)(hn:A.get h=n):Calls Tryz.prog 139 #[.pointer (some ⟨b,0,none⟩),.int .i64 h] w fun e w'=>e= .returned (.int .i64 n.doc)∧Own w0 B l w'∧Below w.heap.size w w':=by
 have oS:=Own.start w
 have HC:=Xqh (JZ o hm hS hh hn)
 have HO:=Xqh o
 clear o
 go_enter Tryz.func139,Tryz.ntmps139
 go_wp2_with fail
 refine HC.out.mono ?_
 rintro e w1⟨ka,kl,kc,aa,al,ac,rfl,-,hB1⟩
 have o1:=oS.read hB1
 clear oS HC
 have HT:=Xqh (XV (w:=w1) n ka kc aa ac kl al)
 have o5:=o1.XU n (.slice ka kl kc) (.slice aa al ac)
 go_wp2_with((with_reducible refine wpList_store_mid ?_ 46 (.tmp 5) (.tmp 11) ?_ w1.heap.size 0 (n.cells (.slice ka kl kc) (.slice aa al ac)).toArray ?_ ?_ ?_ ?_ ?_ ?_);exact rfl;exact rfl;exact rfl;exact rfl;exact HT.out.1;exact XM _ _ _;exact all_oneCell_toArray HT.out.2;clear HT;generalize hw5:World.setCells _ _ _ _=w5 at o5⊢;generalize hg5:w1.heap.size=g5 at o5⊢;clear hw5 hg5;have q1:w5.cell? ⟨g5,3,none⟩=some (.int .i64 n.doc):=(cell_of_row w5 _ _ _ _ _ (o5.box (g:=g5) (o:= .cells (n.cells (.slice ka kl kc) (.slice aa al ac)).toArray 46 (0,0)) (by simp))).trans rfl)
 go_wp2
 go_ret
 have hlow:=o5.low
 exact⟨rfl,HO.out.read hlow,hlow⟩
open Classical in
/-- The first error of a call with handles; the one at place opt may be 0. -/
noncomputable def chk (A : Ar) (opt : Int) (l : List Int) : Int := if ∀ (i : Nat) x, l[i]? = some x → (x = 0 ∧ (i : Int) = opt) ∨ A.has x then 0 else 3
theorem Xew {w0 w:World}{B b:Nat}{A:Ar}{ll:List Xf}{opt:Int}(o:Own w0 B ll w)(hm:Xf.arena b A∈ll)(hS:A.YC)(v:Value)(l:List Int)(hv:Xy w v l):Calls Tryz.prog 89 #[.pointer (some ⟨b,0,none⟩),.int .i64 opt,v] w fun e w'=>e= .returned (.int .i64 (chk A opt l))∧Own w0 B ll w'∧Below w.heap.size w w':=by
 obtain⟨av,cv,rfl,hc1,hc2,hc3⟩:=hv.form
 have HS:=Xqh hS
 have HM:=Xqh hm
 have HO:=Xqh o
 clear hS hv o hm
 go_enter Tryz.func89,Tryz.ntmps89
 go_wp2
 go_loopw [15](fun i wr=>∃k:Nat,k≤l.length∧i= .int .i64 k∧Hid (Below w.heap.size w wr)∧Hid (∀(j:Nat)x,j<k→l[j]?=some x→(x=0∧(j:Int)=opt)∨A.has x))(fun i _=>l.length-(intOf i).toNat)
 case atStart=>exact⟨0,Nat.zero_le _,rfl,Xqh (Below.refl _ _),Xqh (fun j x hj=>by omega)⟩
 case round=>obtain⟨k,hk,rfl,hB,hT⟩:=hrel;by_cases hlt:k<l.length;·{obtain⟨b1,o1,rfl,hcs⟩:=hc3 (by omega);have hck:=Below.old hB.out (hcs k hlt);clear hc3 hcs;obtain⟨x,hx⟩:∃x,l[k]?=some x:=⟨_,List.getElem?_eq_getElem hlt⟩;rw[hx]at hck;simp only[Option.getD_some]at hck;have HX:=Xqh hx;clear hx;have hnext:Hid ((x=0∧(k:Int)=opt)∨A.has x→∀(j:Nat)y,j<k+1→l[j]?=some y→(y=0∧(j:Int)=opt)∨A.has y):=Xqh (fun hok j y hj hy=>by by_cases hjk:j<k;·{exact hT.out j y hjk hy};·have:j=k:=by{omega};subst this;rw[HX.out]at hy;simp at hy;subst hy;exact hok);by_cases hz:x=0∧(k:Int)=opt;·{have hnx:=Xqh (hnext.out (.inl hz));obtain⟨rfl,rfl⟩:=hz;go_wp2;go_roundw;(case rel=>exact⟨k+1,hlt,by go_num,hB,hnx⟩);case measure=>simp[intOf];omega};·have HZ:=Xqh hz;clear hz;obtain⟨n,hn⟩:∃n,(if A.has x then A.get x else XL)=n:=⟨_,rfl⟩;by_cases hh:A.has x;·{have hnx:=Xqh (hnext.out (.inr hh));have h0:(x==0)=false:=by{have:=hh.1;simp;omega};have HC:=Xqh (XgH (HO.out.read hB.out) HM.out HS.out hn (if_pos hh));have oW:=(Own.start w).read hB.out;clear hnext hh hn;go_wp2_with fail;refine HC.out.mono ?_;rintro e w1⟨ka,kl,kc,aa,al,ac,rfl,-,hB1⟩;have o1:=oW.read hB1;clear oW HC;have HT:=Xqh (XV (w:=w1) n ka kc aa ac kl al);have o5:=o1.XU n (.slice ka kl kc) (.slice aa al ac);go_wp2_with((with_reducible refine wpList_store_mid ?_ 46 (.tmp 9) (.tmp 31) ?_ w1.heap.size 0 (n.cells (.slice ka kl kc) (.slice aa al ac)).toArray ?_ ?_ ?_ ?_ ?_ ?_);exact rfl;exact rfl;exact rfl;exact rfl;exact HT.out.1;exact XM _ _ _;exact all_oneCell_toArray HT.out.2;clear HT;generalize hw5:World.setCells _ _ _ _=w5 at o5⊢;generalize hg5:w1.heap.size=g5 at o5⊢;clear hw5 hg5;skip);go_wp2;have hBn:=Xqh o5.low;go_roundw;(case rel=>exact⟨k+1,hlt,by go_num,hBn,hnx⟩);case measure=>simp[intOf];omega};·have HC:=Xqh (XgH (HO.out.read hB.out) HM.out HS.out hn (if_neg hh));have oW:=(Own.start w).read hB.out;have hfin:Hid (chk A opt l=3):=Xqh (by unfold chk;rw[if_neg];intro hall;rcases hall k x HX.out with q|q;·{exact HZ.out q};·exact hh q);clear hnext hh hn;by_cases h0:x=0;·{subst h0;have hk0:((k:Int)==opt)=false:=by{simp;exact fun q=>HZ.out ⟨rfl,q⟩};go_wp2_with fail;refine HC.out.mono ?_;rintro e w1⟨ka,kl,kc,aa,al,ac,rfl,-,hB1⟩;have o1:=oW.read hB1;clear oW HC;have HT:=Xqh (XV (w:=w1) n ka kc aa ac kl al);have o5:=o1.XU n (.slice ka kl kc) (.slice aa al ac);go_wp2_with((with_reducible refine wpList_store_mid ?_ 46 (.tmp 9) (.tmp 31) ?_ w1.heap.size 0 (n.cells (.slice ka kl kc) (.slice aa al ac)).toArray ?_ ?_ ?_ ?_ ?_ ?_);exact rfl;exact rfl;exact rfl;exact rfl;exact HT.out.1;exact XM _ _ _;exact all_oneCell_toArray HT.out.2;clear HT;generalize hw5:World.setCells _ _ _ _=w5 at o5⊢;generalize hg5:w1.heap.size=g5 at o5⊢;clear hw5 hg5;skip);go_wp2;go_ret;have hlow:=o5.low;rw[hfin.out];exact⟨rfl,HO.out.read hlow,hlow⟩};·have h0':(x==0)=false:=by{simp[h0]};clear h0;go_wp2_with fail;refine HC.out.mono ?_;rintro e w1⟨ka,kl,kc,aa,al,ac,rfl,-,hB1⟩;have o1:=oW.read hB1;clear oW HC;have HT:=Xqh (XV (w:=w1) n ka kc aa ac kl al);have o5:=o1.XU n (.slice ka kl kc) (.slice aa al ac);go_wp2_with((with_reducible refine wpList_store_mid ?_ 46 (.tmp 9) (.tmp 31) ?_ w1.heap.size 0 (n.cells (.slice ka kl kc) (.slice aa al ac)).toArray ?_ ?_ ?_ ?_ ?_ ?_);exact rfl;exact rfl;exact rfl;exact rfl;exact HT.out.1;exact XM _ _ _;exact all_oneCell_toArray HT.out.2;clear HT;generalize hw5:World.setCells _ _ _ _=w5 at o5⊢;generalize hg5:w1.heap.size=g5 at o5⊢;clear hw5 hg5;skip);go_wp2;go_ret;have hlow:=o5.low;rw[hfin.out];exact⟨rfl,HO.out.read hlow,hlow⟩};·have hfin:Hid (chk A opt l=0):=Xqh (by unfold chk;rw[if_pos];intro j x hx;exact hT.out j x (by have:=(List.getElem?_eq_some_iff.1 hx).1;omega) hx);clear hT;go_wp2;go_ret;rw[hfin.out];exact⟨rfl,HO.out.read hB.out,hB.out⟩
end
section
open Go.RowKit Go.Shelf
theorem Xki (s:ByteArray)(c:Int)(w:World):Calls Tryz.prog 242 #[.string s,.int .u8 c] w fun e w'=>e= .returned (.int .i64 (Lib.indexByte s.data.toList c.toNat.toUInt8))∧w=w':=by
 go_enter Tryz.func242,Tryz.ntmps242
 go_wp2
 rw[run_callFunc_extern Tryz.func248 (by kernel_rfl) (by kernel_rfl) (by kernel_rfl) (e:=Extern.BytealgIndexByte.indexByte) (by kernel_rfl),Lib.run_indexByteString]
 simp only[Result.andThen]
 rw[Oper.upon_value]
 go_wp2
 go_ret
 exact⟨rfl,rfl⟩
theorem Xkj (s:ByteArray)(c:Int)(w:World):Calls Tryz.prog 212 #[.string s,.int .u8 c] w fun e w'=>e= .returned (.int .i64 (Lib.indexByte s.data.toList c.toNat.toUInt8))∧w=w':=by
 have HC:=Xqh (Xki s c w)
 go_enter Tryz.func212,Tryz.ntmps212
 go_wp2_with fail
 refine HC.out.mono ?_
 rintro e w1⟨rfl,rfl⟩
 clear HC
 go_wp2
 go_ret
 exact⟨rfl,rfl⟩
/-- A function value that tells a class of bytes, now and later. -/
def FnR (w : World) (v : Value) (p : UInt8 → Bool) : Prop :=
  ∃ n caps, v = .func (.func n) #[] caps ∧ Enters Tryz.prog n ∧ ∀ w', Below w.heap.size w w' → ∀ c : UInt8, Calls Tryz.prog n (#[.int .i32 (c.toNat : Int)] ++ caps) w' fun e w'' => e = .returned (.bool (p c)) ∧ Below w'.heap.size w' w''
theorem FnR.below {w w':World}{v:Value}{p:UInt8→Bool}(h:FnR w v p)(hb:Below w.heap.size w w'):FnR w' v p:=by
 obtain⟨n,caps,h1,h0,h2⟩:=h
 exact⟨n,caps,h1,h0,fun w'' hw=>h2 w'' (Below.Yb hb hw)⟩
theorem Xey (lo hi:Int)(c:UInt8)(a b:Nat)(w:World)(ha:w.cell? ⟨a,0,none⟩=some (.int .i32 lo))(hb:w.cell? ⟨b,0,none⟩=some (.int .i32 hi)):Calls Tryz.prog 213 #[.int .i32 (c.toNat:Int),.pointer (some ⟨a,0,none⟩),.pointer (some ⟨b,0,none⟩)] w fun e w'=>e= .returned (.bool (decide (lo≤(c.toNat:Int))&&decide ((c.toNat:Int)≤hi)))∧w=w':=by
 by_cases h:lo≤(c.toNat:Int)
 ·rw[decide_eq_true h];go_enter Tryz.func213,Tryz.ntmps213;go_wp2;go_ret;exact⟨by simp,rfl⟩
 ·rw[decide_eq_false h];have h':(c.toNat:Int)<lo:=by{omega};go_enter Tryz.func213,Tryz.ntmps213;go_wp2;go_ret;exact⟨by simp,rfl⟩
theorem Ju (lo hi:Int)(w:World):Calls Tryz.prog 163 #[.int .i32 lo,.int .i32 hi] w fun e w'=>∃a b,e= .returned (.func (.func 213) #[] #[.pointer (some ⟨a,0,none⟩),.pointer (some ⟨b,0,none⟩)])∧Below w.heap.size w w'∧w'.cell? ⟨a,0,none⟩=some (.int .i32 lo)∧w'.cell? ⟨b,0,none⟩=some (.int .i32 hi):=by
 go_enter Tryz.func163,Tryz.ntmps163
 go_wp2
 go_ret
 refine⟨_,_,rfl,Below.Yb (Xw _ _) (Xw _ _),JJ _ (Yi rfl rfl),Yi (by simp) rfl⟩
theorem JQ {lo hi:Int}{a b:Nat}{w:World}(ha:w.cell? ⟨a,0,none⟩=some (.int .i32 lo))(hb:w.cell? ⟨b,0,none⟩=some (.int .i32 hi)):FnR w (.func (.func 213) #[] #[.pointer (some ⟨a,0,none⟩),.pointer (some ⟨b,0,none⟩)]) (fun c=>decide (lo≤(c.toNat:Int))&&decide ((c.toNat:Int)≤hi)):=⟨_,_,rfl,enters_of Tryz.func213 (by kernel_rfl) rfl,fun w' hw c=>(Xey lo hi c a b w' (Below.old hw ha) (Below.old hw hb)).mono (fun e w''⟨h1,h2⟩=>⟨h1,by subst h2;exact Below.refl _ _⟩)⟩
/-- A row of function values. -/
def JD (w : World) (v : Value) (ps : List (UInt8 → Bool)) : Prop :=
  ∃ a c, v = .slice a ps.length c ∧ ps.length ≤ 100 ∧ (0 < ps.length → ∃ b o, a = some ⟨b, o, none⟩ ∧ ∀ (i : Nat) p, ps[i]? = some p → ∃ f, w.cell? ⟨b, o + i, none⟩ = some f ∧ FnR w f p)
theorem JD.below {w w':World}{v:Value}{ps:List (UInt8→Bool)}(h:JD w v ps)(hb:Below w.heap.size w w'):JD w' v ps:=by
 obtain⟨a,c,h1,h2,h3⟩:=h
 refine⟨a,c,h1,h2,fun h0=>?_⟩
 obtain⟨b,o,h4,h5⟩:=h3 h0
 refine⟨b,o,h4,fun i p hp=>?_⟩
 obtain⟨f,h6,h7⟩:=h5 i p hp
 exact⟨f,Below.old hb h6,h7.below hb⟩
theorem XbZ (ps:List (UInt8→Bool))(v:Value)(c:UInt8)(g:Nat)(w:World)(hg:w.cell? ⟨g,0,none⟩=some v)(hv:JD w v ps):Calls Tryz.prog 214 #[.int .i32 (c.toNat:Int),.pointer (some ⟨g,0,none⟩)] w fun e w'=>e= .returned (.bool (ps.any (fun p=>p c)))∧Below w.heap.size w w':=by
 have HV:=Xqh hv
 obtain⟨a,cc,rfl,hl,-⟩:=hv
 go_enter Tryz.func214,Tryz.ntmps214
 go_wp2
 go_loopw [8](fun i wr=>∃k:Nat,k≤ps.length∧i= .int .i64 k∧Hid (Below w.heap.size w wr)∧Hid (∀p∈ps.take k,p c=false))(fun i _=>ps.length-(intOf i).toNat)
 case atStart=>exact⟨0,Nat.zero_le _,rfl,Xqh (Below.refl _ _),Xqh (by simp)⟩
 case round=>obtain⟨k,hk,rfl,hB,hT⟩:=hrel;clear hg;by_cases hlt:k<ps.length;·{obtain⟨p,hp⟩:∃p,ps[k]?=some p:=⟨_,List.getElem?_eq_getElem hlt⟩;obtain⟨a',cc',he,-,h3⟩:=HV.out.below hB.out;obtain⟨b,o,rfl,h5⟩:=h3 (by omega);obtain⟨f,h6,n,caps,rfl,hE,h7⟩:=h5 k p hp;unfold Enters at hE;have hea:a=some ⟨b,o,none⟩:=by{injection he};subst hea;have HC:=Xqh (h7 wr (Below.refl _ _) c);have HP:=Xqh hp;clear he h3 h5 h7 hp;generalize hpc:p c=pc at*;have HPC:=Xqh hpc;clear hpc;cases pc with|true=>{go_wp2_with fail;refine HC.out.mono ?_;rintro e w1⟨rfl,hB1⟩;have HB:=Xqh (Below.Yb hB.out hB1);clear HC hB1;go_wp2;go_ret;exact⟨by rw[List.any_eq_true.2 ⟨p,List.mem_of_getElem? HP.out,HPC.out⟩];try rfl,HB.out⟩}|false=>go_wp2_with fail;refine HC.out.mono ?_;rintro e w1⟨rfl,hB1⟩;have HB:=Xqh (Below.Yb hB.out hB1);have HT2:Hid (∀q∈ps.take (k+1),q c=false):=Xqh (fun q hq=>by rw[List.take_add_one,HP.out]at hq;rcases List.mem_append.1 hq with hq|hq;·{exact hT.out q hq};·simp at hq;subst hq;exact HPC.out);clear HC hB1;go_wp2;go_roundw;(case rel=>exact⟨k+1,hlt,by go_num,HB,HT2⟩);case measure=>simp[intOf];omega};·have hkl:ps.take k=ps:=List.take_of_length_le (by omega);rw[hkl]at hT;have HF:Hid (ps.any (fun p=>p c)=false):=Xqh (by rw[List.any_eq_false];intro p hp;rw[hT.out p hp];decide);clear hT hkl;go_wp2;go_ret;exact⟨by rw[HF.out];try rfl,hB.out⟩
theorem Xb0 (ps:List (UInt8→Bool))(v:Value)(w:World)(hv:JD w v ps):Calls Tryz.prog 164 #[v] w fun e w'=>∃g,e= .returned (.func (.func 214) #[] #[.pointer (some ⟨g,0,none⟩)])∧Below w.heap.size w w'∧w'.cell? ⟨g,0,none⟩=some v∧JD w' v ps:=by
 have HV:=Xqh (hv.below (Xw w (.cells #[v] 202)))
 obtain⟨a,cc,rfl,hl,-⟩:=hv
 go_enter Tryz.func164,Tryz.ntmps164
 go_wp2
 go_ret
 exact⟨_,rfl,Xw _ _,Yi rfl rfl,HV.out⟩
theorem Xkk {ps:List (UInt8→Bool)}{v:Value}{g:Nat}{w:World}(hg:w.cell? ⟨g,0,none⟩=some v)(hv:JD w v ps):FnR w (.func (.func 214) #[] #[.pointer (some ⟨g,0,none⟩)]) (fun c=>ps.any (fun p=>p c)):=⟨_,_,rfl,enters_of Tryz.func214 (by kernel_rfl) rfl,fun w' hw c=>XbZ ps v c g w' (Below.old hw hg) (hv.below hw)⟩
end
end Go.Proofs.YtpicinjcmjaogaaGreat
