import Derived.Deep.RegionHeld3
import Derived.Test.YtpicinjcmjaogaaGreatDoorW42
set_option maxRecDepth 100000
set_option maxHeartbeats 4000000
set_option linter.unusedVariables false
namespace Go.Proofs.YtpicinjcmjaogaaGreatDoor
section
open Go.RowKit
theorem setc {w:World}{b i c j:Nat}{v:Value}{x:Value}(h:w.cell? ⟨c,j,none⟩=some x)(hn:c≠b):(w.setCell ⟨b,i,none⟩ v).cell? ⟨c,j,none⟩=some x:=by
 rw[World.cell?_setCell_other _ _ _ _ (by intro e;injection e with e1 e2 e3;exact hn e1.symm)]
 exact h
theorem seti {w:World}{b i j:Nat}{v x:Value}(h:w.cell? ⟨b,j,none⟩=some x)(hn:j≠i):(w.setCell ⟨b,i,none⟩ v).cell? ⟨b,j,none⟩=some x:=by
 rw[World.cell?_setCell_other _ _ _ _ (by intro e;injection e with e1 e2 e3;exact hn e2.symm)]
 exact h
theorem RepT.setCell {w:World}{g b i:Nat}{n:Int}{v:Value}(h:RepT w g)(hb:w.cell? ⟨b,0,none⟩=some (.int .u32 n)):RepT (w.setCell ⟨b,i,none⟩ v) g:=by
 have hg:g≠b:=fun e=>by have:=h.tab 0 (by omega) (by omega);rw[e,hb]at this;cases this
 refine⟨fun c h1 h2=>setc (h.tab c h1 h2) hg,fun c hc=>?_,?_⟩
 ·obtain⟨r,k,e0,e1,e2⟩:=h.esc c hc;have hr:r≠b:=fun e=>by{rw[e,hb]at e1;cases e1};exact⟨r,k,setc e0 hg,setc e1 hr,setc e2 hr⟩
 ·obtain⟨t,k,e0,e1,e2,e3⟩:=h.rep;have ht:t≠b:=fun e=>by{rw[e,hb]at e1;cases e1};exact⟨t,k,setc e0 hg,setc e1 ht,setc e2 ht,setc e3 ht⟩
/-- The pairs lie in a row. -/
structure Pairs (w : World) (o : Nat) : Prop where
  s0 : w.cell? ⟨o, 0, none⟩ = some (.string ⟨#[34]⟩)
  s1 : w.cell? ⟨o, 1, none⟩ = some (.string ⟨#[92, 34]⟩)
  s2 : w.cell? ⟨o, 2, none⟩ = some (.string ⟨#[92]⟩)
  s3 : w.cell? ⟨o, 3, none⟩ = some (.string ⟨#[92, 92]⟩)
  s4 : w.cell? ⟨o, 4, none⟩ = some (.string ⟨#[10]⟩)
  s5 : w.cell? ⟨o, 5, none⟩ = some (.string ⟨#[92, 110]⟩)
/-- What buildOnce leaves. -/
structure Built (B b g : Nat) (n m : Int) (w0 w : World) : Prop where
  c0 : w.cell? ⟨b, 0, none⟩ = some (.int .u32 n)
  c1 : w.cell? ⟨b, 1, none⟩ = some (.int .i32 m)
  c3 : w.cell? ⟨b, 3, none⟩ = some (.iface 220 (.pointer (some ⟨g, 0, none⟩)))
  fz : ∀ i : Nat, w.frozen? ⟨b, i, none⟩ = false
  rep : RepT w g
  low : Below B w0 w
theorem q_buildOnce (B b o oc:Nat)(w0 w:World)(hB:Below B w0 w)(hb:B≤b)(h0:w.cell? ⟨b,0,none⟩=some (.int .u32 0))(h1:w.cell? ⟨b,1,none⟩=some (.int .i32 1))(h3:w.cell? ⟨b,3,none⟩=some .nilIface)(h4:w.cell? ⟨b,4,none⟩=some (.slice (some ⟨o,0,none⟩) 6 oc))(hP:Pairs w o)(fz:∀i:Nat,w.frozen? ⟨b,i,none⟩=false):Calls Tryz.prog 154 #[.pointer (some ⟨b,0,none⟩)] w fun e W=>e= .returned (.tuple #[])∧∃g,Built B b g 0 1 w0 W:=by
 have HQ:=Xqh (q_build b o oc w h4 hP.s0 hP.s1 hP.s2 hP.s3 hP.s4 hP.s5)
 have hbl:=World.block_lt_of_cell? w _ h0
 have HF:=Xqh (fun(W:World)(q:Below w.heap.size w W)(i:Nat)=>(frozen_heap (q.block b hbl) i).trans (fz i))
 have HP:=Xqh hP
 clear hP
 go_enter Tryz.func154,Tryz.ntmps154
 go_wp2_with fail
 refine HQ.out.mono ?_
 rintro e w1⟨g,rfl,hR,hB1⟩
 have a0:=Below.old hB1 h0
 have a1:=Below.old hB1 h1
 have a3:=Below.old hB1 h3
 have a4:=Below.old hB1 h4
 have f3:=HF.out w1 hB1 3
 have f4:=HF.out w1 hB1 4
 have HR:=Xqh hR
 have HB:=Xqh (hB.trans (hB1.mono (by omega)))
 have HF1:=Xqh (HF.out w1 hB1)
 clear HQ HF hR hB1 h0 h1 h3 h4 hbl fz HP
 go_wp2
 go_end0
 refine⟨rfl,g,?_⟩
 refine⟨seti (seti a0 (by decide)) (by decide),seti (seti a1 (by decide)) (by decide),seti (World.cell?_setCell_same _ _ _ a3) (by decide),fun i=>?_,(HR.out.setCell a0).setCell (seti a0 (by decide)),(HB.out.setCell (p:=⟨b,3,none⟩) hb _).setCell (p:=⟨b,4,none⟩) hb _⟩
 rw[World.frozen?_setCell,World.frozen?_setCell]
 exact HF1.out i
theorem Built.done {B b g:Nat}{w0 w:World}(h:Built B b g 0 1 w0 w)(hb:B≤b):Built B b g 1 0 w0 ((w.drew.setCell ⟨b,0,none⟩ (.int .u32 1)).setCell ⟨b,1,none⟩ (.int .i32 0)):=by
 have a0:w.drew.cell? ⟨b,0,none⟩=some (.int .u32 0):=h.c0
 have a1:w.drew.cell? ⟨b,1,none⟩=some (.int .i32 1):=h.c1
 have a3:w.drew.cell? ⟨b,3,none⟩=_:=h.c3
 have e0:(w.drew.setCell ⟨b,0,none⟩ (.int .u32 1)).cell? ⟨b,0,none⟩=some (.int .u32 1):=World.cell?_setCell_same _ _ _ a0
 have hR:RepT w.drew g:=⟨h.rep.tab,h.rep.esc,h.rep.rep⟩
 refine⟨seti e0 (by decide),World.cell?_setCell_same _ _ _ (seti a1 (by decide)),seti (seti a3 (by decide)) (by decide),fun i=>?_,(hR.setCell a0).setCell e0,((Below.drew h.low).setCell (p:=⟨b,0,none⟩) hb _).setCell (p:=⟨b,1,none⟩) hb _⟩
 rw[World.frozen?_setCell,World.frozen?_setCell]
 exact h.fz i
theorem q_Replace (b o oc:Nat)(s:ByteArray)(w:World)(hs:s.size≤100000000000000)(h0:w.cell? ⟨b,0,none⟩=some (.int .u32 0))(h1:w.cell? ⟨b,1,none⟩=some (.int .i32 0))(h3:w.cell? ⟨b,3,none⟩=some .nilIface)(h4:w.cell? ⟨b,4,none⟩=some (.slice (some ⟨o,0,none⟩) 6 oc))(hP:Pairs w o)(hob:o≠b)(fz:∀i:Nat,w.frozen? ⟨b,i,none⟩=false):Calls Tryz.prog 136 #[.pointer (some ⟨b,0,none⟩),.string s] w fun e w'=>e= .returned (.string ⟨(s.toList.flatMap escB).toArray⟩)∧Below b w w':=by
 have hP1:Pairs (w.setCell ⟨b,1,none⟩ (.int .i32 1)) o:=⟨setc hP.s0 hob,setc hP.s1 hob,setc hP.s2 hob,setc hP.s3 hob,setc hP.s4 hob,setc hP.s5 hob⟩
 have HD:=Xqh (q_do b w (fun W=>∃g,Built b b g 0 1 w W) h0 h1 (fz 1) (q_buildOnce b b o oc w _ ((Below.refl _ _).setCell (p:=⟨b,1,none⟩) (Nat.le_refl _) _) (Nat.le_refl _) (seti h0 (by decide)) (World.cell?_setCell_same _ _ _ h1) (seti h3 (by decide)) (seti h4 (by decide)) hP1 (fun i=>by rw[World.frozen?_setCell];exact fz i)) (fun W hW=>by obtain⟨g,q⟩:=hW;exact⟨q.c0,q.fz 0,q.c1,q.fz 1⟩))
 have hbl:=World.block_lt_of_cell? w _ h0
 clear h0 h1 h3 h4 hP fz hP1
 go_enter Tryz.func136,Tryz.ntmps136
 go_wp2_with fail
 refine HD.out.mono ?_
 rintro e w1⟨rfl,W,⟨g,hW⟩,hw1⟩
 have hD:=hW.done (Nat.le_refl _)
 rw[←hw1]at hD
 have c3:=hD.c3
 have HQ:=Xqh (fun W(q:Below w1.heap.size w1 W)=>q_replace g s W (hD.rep.below q) hs)
 have HB:=Xqh hD.low
 clear hD hw1 hW HD
 have hm:∀(n:Nat)(w:World),(method (n+1) 220 (.pointer (some ⟨g,0,none⟩)) "Replace").run Tryz.prog w= .ok (231,.pointer (some ⟨g,0,none⟩)) w:=fun _ _=>by kernel_rfl
 go_wp2_with fail
 refine(HQ.out _ (Below.refl _ _)).mono ?_
 rintro e w2⟨rfl,hB2⟩
 have HB2:=Xqh (HB.out.trans (hB2.mono (Nat.le_trans (Nat.le_of_lt hbl) HB.out.size)))
 clear HQ HB hB2 hm
 go_wp2
 go_ret
 exact⟨rfl,HB2.out⟩
def pairsV : List Value := [.string ⟨#[34]⟩, .string ⟨#[92, 34]⟩, .string ⟨#[92]⟩, .string ⟨#[92, 92]⟩, .string ⟨#[10]⟩, .string ⟨#[92, 110]⟩]
/-- A new Replacer. -/
structure Fresh (b o oc : Nat) (w : World) : Prop where
  c0 : w.cell? ⟨b, 0, none⟩ = some (.int .u32 0)
  c1 : w.cell? ⟨b, 1, none⟩ = some (.int .i32 0)
  c3 : w.cell? ⟨b, 3, none⟩ = some .nilIface
  c4 : w.cell? ⟨b, 4, none⟩ = some (.slice (some ⟨o, 0, none⟩) 6 oc)
  prs : Pairs w o
  ne : o ≠ b
  fz : ∀ i : Nat, w.frozen? ⟨b, i, none⟩ = false
theorem q_new (w:World):Calls Tryz.prog 135 #[.slice (some ⟨w.heap.size,0,none⟩) 6 6] (w.alloc (.cells pairsV.toArray 9)) fun e w'=>∃b o oc,e= .returned (.pointer (some ⟨b,0,none⟩))∧Fresh b o oc w'∧w.heap.size≤b∧Below w.heap.size w w':=by
 obtain⟨i0,hi,hz0,hz1,hz2⟩:=info_parts (show(Tryz.prog.info? 9).map (fun i=>(i.zero,i.size,i.bytes))=some (some (.string ⟨#[]⟩),1,16)by kernel_rfl)
 have HI:=Xqh hi
 have HN:Hid ((w.alloc (.cells pairsV.toArray 9)).ownsRow w.heap.size 9 1 (.slice none 0 0) 0 []):=Xqh (World.ownsRow_nil _ _ _ _)
 clear hi
 go_enter Tryz.func135,Tryz.ntmps135
 go_wp2_with(at_builtin;refine wpList_append_own_at _ rfl _ _ 176 rfl w.heap.size 9 i0 _ 1 16 Tryz.underlying176 HI.out hz0 hz1 hz2 rfl (by decide) (.slice none 0 0) 0 _ rfl HN.out ⟨w.heap.size,0,none⟩ 6 6 pairsV rfl rfl ?a1 ?a2 ?a3 ?a4 ?a5 ?_)
 case a1=>intro j u hj;rw[Addr.add_mid,Nat.zero_add];exact Yi rfl (by simpa using hj)
 case a2=>intro u hu;simp[pairsV]at hu;rcases hu with rfl|rfl|rfl|rfl|rfl|rfl<;>rfl
 case a3=>unfold maxLen;omega
 case a4=>omega
 case a5=>simp
 intro v' w4 hown hgrow hne _
 have HO:=Xqh hown
 have HG:=Xqh hgrow
 have HNE:=Xqh hne
 obtain⟨va,vc,rfl⟩:=q_form hown
 clear hown hgrow hne
 go_wp2
 go_ret
 have hB4:Below w.heap.size w w4:=((Below.refl _ w).alloc (Nat.le_refl _) _).grown HG.out (Nat.le_trans (Nat.le_succ _) (by simp)) (fun k hk=>by simp[Value.ownBlock]at hk)
 rcases HO.out.2 with⟨hv,h0⟩|⟨o,cap,cur,hv,hbo,hcur,hr⟩
 ·exact absurd h0 (by decide)
 have e1:va=some ⟨o,0,none⟩:=by injection hv
 subst e1
 have hol:=lt_of_block hcur
 have hp:∀j u,pairsV[j]?=some u→w4.cell? ⟨o,j,none⟩=some u:=by intro j u hj;have:=HO.out.cells (g:=o) rfl j u hj;rwa[Addr.add_mid,Nat.zero_add]at this
 refine⟨w4.heap.size,o,vc,rfl,⟨Yi rfl rfl,Yi rfl rfl,Yi rfl rfl,Yi rfl rfl,⟨JJ _ (hp 0 _ rfl),JJ _ (hp 1 _ rfl),JJ _ (hp 2 _ rfl),JJ _ (hp 3 _ rfl),JJ _ (hp 4 _ rfl),JJ _ (hp 5 _ rfl)⟩,by omega,fun i=>?_⟩,hB4.size,hB4.alloc hB4.size _⟩
 exact frozen_of_row _ _ _ _ _ (heap_alloc_new _ _)
theorem q_quote (s:ByteArray)(w:World)(hs:s.size≤100000000000000):Calls Tryz.prog 115 #[.string s] w fun e w'=>e= .returned (.string ⟨(quoteS s).toArray⟩)∧Below w.heap.size w w':=by
 have HN:=Xqh (q_new w)
 go_enter Tryz.func115,Tryz.ntmps115
 go_wp2_with fail
 refine HN.out.mono ?_
 rintro e w1⟨b,o,oc,rfl,hF,hb,hB1⟩
 have HR:=Xqh (q_Replace b o oc s w1 hs hF.c0 hF.c1 hF.c3 hF.c4 hF.prs hF.ne hF.fz)
 have HB1:=Xqh hB1
 clear HN hF hB1
 go_wp2_with fail
 refine HR.out.mono ?_
 rintro e w2⟨rfl,hB2⟩
 have HB2:=Xqh (HB1.out.trans (hB2.mono hb))
 clear HR HB1 hB2
 obtain⟨q,hq,hql⟩:∃q:ByteArray,q=⟨(s.toList.flatMap escB).toArray⟩∧q.size≤200000000000000:=⟨_,rfl,by have h1:=esc_len s.toList;have h2:s.toList.length=s.size:=by{rw[Go.ByteArray.toList_eq];rfl};show((s.toList.flatMap escB).toArray).size≤_;rw[List.size_toArray];omega⟩
 rw[←hq]
 have HQ:=Xqh hq
 clear hq
 go_wp2
 all_goals(try(exfalso;omega))
 go_ret
 refine⟨congrArg (fun x=>Ending.returned (.string x)) ?_,HB2.out⟩
 rw[HQ.out]
 apply ByteArray.ext
 simp[quoteS,quoteL]
end
section
open Go.RowKit
theorem quote_held (s:ByteArray)(w:World)(hs:s.size≤400):∃q:ByteArray,q.size≤802∧Hid (q=⟨(quoteS s).toArray⟩)∧Hid (∀W,Below w.heap.size w W→Calls Tryz.prog 115 #[.string s] W fun e W'=>e= .returned (.string q)∧Below w.heap.size w W'):=by
 refine⟨_,?_,Xqh rfl,Xqh (fun W hW=>(q_quote s W (by omega)).mono ?_)⟩
 ·have h1:=quoteL_len s.toList;have h2:s.toList.length=s.size:=by{rw[Go.ByteArray.toList_eq];rfl};show((quoteS s).toArray).size≤_;rw[List.size_toArray];unfold quoteS;omega
 ·rintro e W'⟨rfl,hB⟩;exact⟨rfl,hW.trans (hB.mono hW.size)⟩
theorem quote_heldB (s:ByteArray)(w:World)(hs:s.size≤100000000000000):∃q:ByteArray,q.size≤200000000000002∧Hid (q=⟨(quoteS s).toArray⟩)∧Hid (∀W,Below w.heap.size w W→Calls Tryz.prog 115 #[.string s] W fun e W'=>e= .returned (.string q)∧Below w.heap.size w W'):=by
 refine⟨_,?_,Xqh rfl,Xqh (fun W hW=>(q_quote s W (by omega)).mono ?_)⟩
 ·have h1:=quoteL_len s.toList;have h2:s.toList.length=s.size:=by{rw[Go.ByteArray.toList_eq];rfl};show((quoteS s).toArray).size≤_;rw[List.size_toArray];unfold quoteS;omega
 ·rintro e W'⟨rfl,hB⟩;exact⟨rfl,hW.trans (hB.mono hW.size)⟩
theorem XE.cellsQ {w:World}{a:Option Addr}{n c:Nat}{l:List Xm}(h:XE w (.slice a n c) l)(hp:0<l.length):∃b o,a=some ⟨b,o,none⟩∧n=l.length∧∀j x,l[j]?=some x→w.cell? ⟨b,o+j*3,none⟩=some (.int .i64 x.1)∧w.cell? ⟨b,o+j*3+1,none⟩=some (.string x.2.1)∧w.cell? ⟨b,o+j*3+2,none⟩=some (.string x.2.2):=by
 obtain⟨a',c',e,h2,h3,h4⟩:=h.form
 simp at e
 obtain⟨rfl,rfl,rfl⟩:=e
 obtain⟨b,o,h5,h6⟩:=h4 hp
 exact⟨b,o,h5,rfl,h6⟩
theorem digits2 (i:Nat)(hi:i<100):(Lib.decDigits i).length≤2:=by
 by_cases h:i<10
 ·rw[Lib.decDigits_one h];simp
 ·rw[Lib.decDigits_two h hi];simp
theorem itoa_held (x:Int)(hx:0≤x∧x<100):∃q:ByteArray,q.size≤2∧Hid (q=⟨(Lib.decDigits x.toNat).toArray⟩)∧Hid (∀W,Calls Tryz.prog 116 #[.int .i64 x] W fun e W'=>e= .returned (.string q)∧W'=W):=by
 obtain⟨i,rfl⟩:∃i:Nat,x=i:=⟨x.toNat,by omega⟩
 refine⟨_,?_,Xqh rfl,Xqh (fun W=>(q_itoa i (by omega) W).mono ?_)⟩
 ·show((Lib.decDigits (i:Int).toNat).toArray).size≤_;rw[List.size_toArray];exact digits2 _ (by omega)
 ·rintro e W'⟨rfl,rfl⟩;exact⟨rfl,rfl⟩
theorem q_line (nb o:Nat)(n:Nd)(kv av:Value)(w:World)(F:YB w nb o n kv av)(hA:XE w av n.Xb)(hs:(n.name.size≤400∧n.data.size≤100000000000000∧n.pub.size≤400∧n.sys.size≤400)∧(n.Xb.length≤120∧∀a∈n.Xb,XcQ a))(hsp:0≤n.space∧n.space<100)(hasp:∀a∈n.Xb,0≤a.1∧a.1<100):Calls Tryz.prog 76 #[.pointer (some ⟨nb,o,none⟩)] w fun e w'=>e= .returned (.string ⟨(lineL n).toArray⟩)∧Below w.heap.size w w':=by
 have c0:=F.c0
 have c5:=F.c5
 have c7:=F.c7
 have c8:=F.c8
 have c9:=F.c9
 have c10:=F.c10
 have c12:=F.c12
 obtain⟨qn,ln,HEN,HQN⟩:=quote_held n.name w hs.1.1
 obtain⟨qd,ld,HED,HQD⟩:=quote_heldB n.data w hs.1.2.1
 obtain⟨qp,lp,HEP,HQP⟩:=quote_held n.pub w hs.1.2.2.1
 obtain⟨qs,ls,HES,HQS⟩:=quote_held n.sys w hs.1.2.2.2
 go_enter Tryz.func76,Tryz.ntmps76
 by_cases k1:n.Xa=1
 case pos=>have e1:(n.Xa==1)=true:=by{simp[k1]};have HL:=Xqh (show lineL n=_ from if_pos k1);clear k1;by_cases hq:n.XI=true;(case pos=>have HL2:=Xqh (show lineL n=_ from HL.out.trans (if_pos hq));rw[hq]at c10;go_wp2;go_ret;exact⟨by rw[HL2.out];rfl,Below.refl _ _⟩);case neg=>have HL2:=Xqh (show lineL n=_ from HL.out.trans (if_neg hq));rw[Bool.eq_false_iff.2 hq]at c10;go_wp2;go_ret;exact⟨by rw[HL2.out];rfl,Below.refl _ _⟩
 have e1:(n.Xa==1)=false:=by simp[k1]
 by_cases k2:n.Xa=2
 case pos=>have e2:(n.Xa==2)=true:=by{simp[k2]};have HL:=Xqh (show lineL n=_ from(if_neg k1).trans (if_pos k2));clear k1 k2;by_cases hq:n.host=0;(case pos=>have HL2:=Xqh (show lineL n=_ from HL.out.trans (if_neg (fun q=>q hq)));rw[hq]at c12;go_wp2;go_ret;exact⟨by rw[HL2.out];rfl,Below.refl _ _⟩);case neg=>have HL2:=Xqh (show lineL n=_ from HL.out.trans (if_pos hq));have eq0:(n.host !=0)=true:=by{simp[hq]};go_wp2;go_ret;exact⟨by rw[HL2.out];rfl,Below.refl _ _⟩
 have e2:(n.Xa==2)=false:=by simp[k2]
 by_cases k3:n.Xa=3
 case pos=>have e3:(n.Xa==3)=true:=by{simp[k3]};have HL:=Xqh (show lineL n=_ from(if_neg k1).trans ((if_neg k2).trans (if_pos k3)));clear k1 k2 k3;go_wp2_with fail;have a1:¬9223372036854775807<8+qn.size:=by{omega};have a2:¬9223372036854775807<8+qn.size+1:=by{omega};have a3:¬9223372036854775807<8+qn.size+1+qp.size:=by{omega};have a4:¬9223372036854775807<8+qn.size+1+qp.size+1:=by{omega};have a5:¬9223372036854775807<8+qn.size+1+qp.size+1+qs.size:=by{omega};go_region_held3(fun w'=>w'.cell? ⟨nb,o+5,none⟩=some (.string n.name)∧w'.cell? ⟨nb,o+8,none⟩=some (.string n.pub)∧w'.cell? ⟨nb,o+9,none⟩=some (.string n.sys))(first|(exact⟨c5,c8,c9⟩)|(exact⟨x5,x8,x9⟩)|(exact⟨y5,y8,y9⟩)|(exact⟨z5,z8,z9⟩))(first|(go_at_call_of 115(Value.string n.name);refine(HQN.out _ (Below.drew (Below.refl _ _))).mono ?_;rintro e w1⟨rfl,hB1⟩;have x5:=Below.old hB1 c5;have x8:=Below.old hB1 c8;have x9:=Below.old hB1 c9)|(go_at_call_of 115(Value.string n.pub);refine(HQP.out _ hB1).mono ?_;rintro e w2⟨rfl,hB2⟩;have y5:=Below.old hB2 c5;have y8:=Below.old hB2 c8;have y9:=Below.old hB2 c9)|(go_at_call_of 115(Value.string n.sys);refine(HQS.out _ hB2).mono ?_;rintro e w3⟨rfl,hB3⟩;have z5:=Below.old hB3 c5;have z8:=Below.old hB3 c8;have z9:=Below.old hB3 c9));all_goals go_wp2;go_ret;refine⟨congrArg (fun x=>Ending.returned (.string x)) ?_,hB3⟩;rw[HEN.out,HEP.out,HES.out,HL.out];apply ByteArray.ext;simp
 have e3:(n.Xa==3)=false:=by simp[k3]
 by_cases k5:n.Xa=5
 case pos=>have e5:(n.Xa==5)=true:=by{simp[k5]};have HL:=Xqh (show lineL n=_ from(if_neg k1).trans ((if_neg k2).trans ((if_neg k3).trans (if_pos k5))));clear k1 k2 k3 k5;go_wp2_with fail;refine(HQD.out _ (Below.refl _ _)).mono ?_;rintro e w1⟨rfl,hB⟩;have HB:=Xqh hB;clear hB;go_wp2;(all_goals(try(exfalso;omega)));go_ret;refine⟨congrArg (fun x=>Ending.returned (.string x)) ?_,HB.out⟩;rw[HED.out,HL.out];apply ByteArray.ext;simp
 have e5:(n.Xa==5)=false:=by simp[k5]
 by_cases k6:n.Xa=6
 case pos=>have e6:(n.Xa==6)=true:=by{simp[k6]};have HL:=Xqh (show lineL n=_ from(if_neg k1).trans ((if_neg k2).trans ((if_neg k3).trans ((if_neg k5).trans (if_pos k6)))));clear k1 k2 k3 k5 k6;go_wp2_with fail;refine(HQD.out _ (Below.refl _ _)).mono ?_;rintro e w1⟨rfl,hB⟩;have HB:=Xqh hB;clear hB;go_wp2;(all_goals(try(exfalso;omega)));go_ret;refine⟨congrArg (fun x=>Ending.returned (.string x)) ?_,HB.out⟩;rw[HED.out,HL.out];apply ByteArray.ext;simp
 have e6:(n.Xa==6)=false:=by simp[k6]
 have HL:=Xqh (show lineL n=elemL n++attrsL n.Xb from(if_neg k1).trans ((if_neg k2).trans ((if_neg k3).trans ((if_neg k5).trans (if_neg k6)))))
 clear k1 k2 k3 k5 k6
 have c4:=F.c4
 have c6:=F.c6
 obtain⟨aa,ac,rfl,-⟩:=hA.form
 obtain⟨qi,li,HEI,HQI⟩:=itoa_held n.space hsp
 obtain⟨qe,hqe⟩:∃qe:ByteArray,qe=⟨#[101,108,101,109,101,110,116,32]⟩++qi++⟨#[32]⟩++qn:=⟨_,rfl⟩
 have le:qe.size≤820:=by rw[hqe];simp only[ByteArray.size_append];show 8+qi.size+1+qn.size≤820;omega
 have HQE:=Xqh hqe
 clear hqe
 have HA:=Xqh hA
 have HS:=Xqh (And.intro hs.2 hasp)
 clear hA hs hasp
 go_upto_region 16 with fail
 go_cut [3]from 61 to 73(fun v wx=>v= .string qe∧Hid (Below w.heap.size w wx))
 case first=>clear le;have a1:¬9223372036854775807<8+qi.size:=by{omega};have a2:¬9223372036854775807<8+qi.size+1:=by{omega};have a3:¬9223372036854775807<8+qi.size+1+qn.size:=by{omega};go_region_held3(fun w'=>w'.cell? ⟨nb,o+4,none⟩=some (.int .i64 n.space)∧w'.cell? ⟨nb,o+5,none⟩=some (.string n.name))(first|(exact⟨c4,c5⟩)|(exact⟨x4,x5⟩))(first|(go_at_call 116;refine(HQI.out _).mono ?_;rintro e w1⟨rfl,rfl⟩)|(go_at_call_of 115(Value.string n.name);refine(HQN.out _ (Below.drew (Below.refl _ _))).mono ?_;rintro e w1⟨rfl,hB1⟩;have x4:=Below.old hB1 c4;have x5:=Below.old hB1 c5));all_goals go_wp2;go_meet;exact⟨by rw[HQE.out],hB1⟩
 case rest=>obtain⟨rfl,HB⟩:=hcut;have HAB:=Xqh (XE.below HA.out HB.out);obtain⟨W,hw⟩:∃W,W=wc:=⟨_,rfl⟩;subst hw;have d6:=Below.old HB.out c6;clear c0 c5 c7 c8 c9 c10 c12 c4 c6 F;go_wp2_with fail;go_loopw [3,5,79](fun s _x i wr=>∃k:Nat,k≤n.Xb.length∧i= .int .i64 k∧∃q:ByteArray,s= .string q∧q.size≤820+k*2000∧Hid (q=⟨#[101,108,101,109,101,110,116,32]⟩++qi++⟨#[32]⟩++qn++⟨(attrsL (n.Xb.take k)).toArray⟩)∧Hid (Below W.heap.size W wr))(fun _ _ i _=>n.Xb.length-(intOf i).toNat);(case atStart=>exact⟨0,Nat.zero_le _,rfl,qe,rfl,le,Xqh (by rw[HQE.out];apply ByteArray.ext;simp[attrsL]),Xqh (Below.refl _ _)⟩);case round=>obtain⟨k,hk,rfl,q,rfl,lq,HQ,HW⟩:=hrel;by_cases hlt:k<n.Xb.length;·{obtain⟨b1,o1,rfl,-,hcs1⟩:=XE.cellsQ HAB.out (by omega);obtain⟨x,hx⟩:∃x,n.Xb[k]?=some x:=⟨_,List.getElem?_eq_getElem hlt⟩;obtain⟨d1,d2,d3⟩:=hcs1 k x hx;have r1:=Below.old HW.out d1;have r2:=Below.old HW.out d2;have r3:=Below.old HW.out d3;have hxm:=List.mem_of_getElem? hx;have hxs:=HS.out.1.2 x hxm;have hxr:=HS.out.2 x hxm;have HX:=Xqh hx;have hkl:k<120:=Nat.lt_of_lt_of_le hlt HS.out.1.1;clear hcs1 d1 d2 d3 hx hxm;obtain⟨xs,xn,xv⟩:=x;dsimp only at r1 r2 r3 hxr;have hx1:xn.size≤400:=hxs.1;have hx2:xv.size≤400:=hxs.2;clear hxs;go_upto_region 20 with fail;have g1:(wr.alloc (.cells #[.int .i64 xs,.string xn,.string xv] 120)).cell? ⟨wr.heap.size,0,none⟩=some (.int .i64 xs):=Yi rfl rfl;have g2:(wr.alloc (.cells #[.int .i64 xs,.string xn,.string xv] 120)).cell? ⟨wr.heap.size,1,none⟩=some (.string xn):=Yi rfl rfl;have g3:(wr.alloc (.cells #[.int .i64 xs,.string xn,.string xv] 120)).cell? ⟨wr.heap.size,2,none⟩=some (.string xv):=Yi rfl rfl;have HBb:=Xqh (Xw wr (.cells #[.int .i64 xs,.string xn,.string xv] 120));generalize wr.alloc (.cells #[.int .i64 xs,.string xn,.string xv] 120)=Wb at*;obtain⟨qa,la,HEA,HQA⟩:=quote_held xn Wb hx1;obtain⟨qv,lv,HEV,HQV⟩:=quote_held xv Wb hx2;obtain⟨qk,lk,HEK,HQK⟩:=itoa_held xs hxr;have HLQ:=Xqh lq;have HLS:=Xqh (And.intro la (And.intro lv lk));have a1:¬9223372036854775807<1+qk.size:=by{omega};have a2:¬9223372036854775807<1+qk.size+1:=by{omega};have a3:¬9223372036854775807<1+qk.size+1+qa.size:=by{omega};have a4:¬9223372036854775807<1+qk.size+1+qa.size+1:=by{omega};have a5:¬9223372036854775807<1+qk.size+1+qa.size+1+qv.size:=by{omega};have a6:¬9223372036854775807<q.size+(1+qk.size+1+qa.size+1+qv.size):=by{omega};clear r1 r2 r3;go_region_held3(fun w'=>w'.cell? ⟨wr.heap.size,0,none⟩=some (.int .i64 xs)∧w'.cell? ⟨wr.heap.size,1,none⟩=some (.string xn)∧w'.cell? ⟨wr.heap.size,2,none⟩=some (.string xv))(first|(exact⟨g1,g2,g3⟩)|(exact⟨x1,x2,x3⟩)|(exact⟨y1,y2,y3⟩))(first|(go_at_call 116;refine(HQK.out _).mono ?_;rintro e w1⟨rfl,rfl⟩)|(go_at_call_of 115(Value.string xn);refine(HQA.out _ (Below.drew (Below.refl _ _))).mono ?_;rintro e w1⟨rfl,hB1⟩;have x1:=Below.old hB1 g1;have x2:=Below.old hB1 g2;have x3:=Below.old hB1 g3)|(go_at_call_of 115(Value.string xv);refine(HQV.out _ hB1).mono ?_;rintro e w2⟨rfl,hB2⟩;have y1:=Below.old hB2 g1;have y2:=Below.old hB2 g2;have y3:=Below.old hB2 g3));all_goals have HB2:=Xqh hB2;clear a1 a2 a3 a4 a5 a6;go_wp2;go_roundw;(case rel=>refine⟨k+1,hlt,by go_num,_,rfl,?_,?_,?_⟩;·{have h1:=HLQ.out;have h2:=HLS.out;simp only[ByteArray.size_append];show q.size+(1+qk.size+1+qa.size+1+qv.size)≤_;omega};·{refine Xqh ?_;rw[HQ.out,HEA.out,HEV.out,HEK.out];apply ByteArray.ext;simp[attrsL,attrL,List.take_add_one,HX.out]};·exact Xqh (HW.out.trans ((HBb.out.trans (HB2.out.mono HBb.out.size)).mono HW.out.size)));case measure=>simp[intOf];omega};·have hke:k=n.Xb.length:=by{omega};have HFI:=Xqh (show q=⟨(lineL n).toArray⟩by rw[HQ.out,HL.out,hke,List.take_length,HEI.out,HEN.out];apply ByteArray.ext;simp[elemL]);go_wp2;go_ret;exact⟨by rw[HFI.out];rfl,HB.out.trans (HW.out.mono HB.out.size)⟩
end
end Go.Proofs.YtpicinjcmjaogaaGreatDoor
