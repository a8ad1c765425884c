import Derived.Deep.QuietTactic
import Derived.BigQuiet
import Derived.Test.YtpicinjcmjaogaaGreatDoorW40
import Derived.Test.YtpicinjcmjaogaaGreatDoorW43
set_option maxRecDepth 100000
set_option maxHeartbeats 4000000
set_option linter.unusedVariables false
namespace Go.Proofs.YtpicinjcmjaogaaGreatDoor
section
open Go.RowKit
abbrev IsB (B b : Nat) (l : List UInt8) (w : World) : Prop := Lib.IsBuilder 65 5 B b (Lib.byteCells l) w
theorem IsB.below {B b:Nat}{l:List UInt8}{w w':World}(h:IsB B b l w)(hB:Below w.heap.size w w'):IsB B b l w':=by
 have key:∀p,Lib.BuilderAt 65 5 B b p (Lib.byteCells l) w→Lib.BuilderAt 65 5 B b p (Lib.byteCells l) w':=by rintro p⟨h1,v,h2,h3,h4⟩;exact⟨h1,v,by rw[hB.block b (lt_of_block h2)];exact h2,Z0 h3 hB,h4⟩
 exact h.imp (key _) (key _)
theorem Xy.cellsQ {w:World}{a:Option Addr}{n c:Nat}{l:List Int}(h:Xy w (.slice a n c) l)(hp:0<l.length):∃b o,a=some ⟨b,o,none⟩∧n=l.length∧∀j x,l[j]?=some x→w.cell? ⟨b,o+j,none⟩=some (.int .i64 x):=by
 obtain⟨a',c',e,h2,h3,h4⟩:=h.form
 simp at e
 obtain⟨rfl,rfl,rfl⟩:=e
 obtain⟨b,o,h5,h6⟩:=h4 hp
 exact⟨b,o,h5,rfl,fun j x hx=>by have hj:=(List.getElem?_eq_some_iff.1 hx).1;rw[h6 j hj,hx];rfl⟩
theorem repeat_pad :∀d:Nat,Lib.repeatL [32,32] d=List.replicate (2*d) 32
 |0=>rfl
 |d+1=>by{rw[show 2*(d+1)=2*d+1+1 by(omega),List.replicate_succ,List.replicate_succ,←repeat_pad d];rfl}
/-- What the text of a node is written by: into a Builder in hand. -/
def DumpC (W0 : World) (b B bb : Nat) (A : Ar) (h : Int) : Prop := ∀ (d : Nat) (l : List UInt8) (W : World), Below B W0 W → IsB B bb l W → d + A.ns.length ≤ 200000 + A.depth h → l.length + (A.dump h d).length ≤ 220000000000000 →
  Calls Tryz.prog 33 #[.pointer (some ⟨b, 0, none⟩), .pointer (some ⟨bb, 0, none⟩), .int .i64 h, .int .i64 d] W fun e W' => e = .returned (.tuple #[]) ∧ IsB B bb (l ++ A.dump h d) W' ∧ Below B W0 W'
theorem dump_step (W0:World)(ρ:Nat→Nat)(b B bb:Nat)(A:Ar)(hI:A.Inv)(hA:Xz W0 ρ b A)(hB0:B=W0.heap.size)(h:Int)(hh:A.has h)(hs:((A.get h).name.size≤400∧(A.get h).data.size≤100000000000000∧(A.get h).pub.size≤400∧(A.get h).sys.size≤400)∧((A.get h).Xb.length≤120∧∀a∈(A.get h).Xb,XcQ a))(hsp:0≤(A.get h).space∧(A.get h).space<100)(hasp:∀a∈(A.get h).Xb,0≤a.1∧a.1<100)(hc:(A.get h).Xg≠0→DumpC W0 b B bb A (A.get h).Xg)(hk:∀k∈(A.get h).Xc,DumpC W0 b B bb A k):DumpC W0 b B bb A h:=by
 intro d l W hW hb hdep hlen
 obtain⟨a,c,mv,h0,h1,hf,hlt,hm,hN⟩:=hA.head
 have hp:=hh.1
 have hq:=hh.2
 unfold Ar.n at hq
 obtain⟨nb,rfl,hr,hnb,hfn,hNx⟩:=hN (by omega)
 obtain⟨kv,av,F,hK,hAt⟩:=hNx h hh
 have hde:=dump_eq hI hh d
 have hll:(lineD (A.get h) d).length=2*d+((lineL (A.get h)).length+1):=by unfold lineD;simp
 have hd2:2*d+(lineL (A.get h)).length+1≤(A.dump h d).length:=by rw[hde,List.length_append];omega
 have HLINE:=Xqh (fun(w:World)(q:Below W0.heap.size W0 w)=>q_line nb ((h.toNat-1)*13) (A.get h) kv av w (F.below q) (hAt.reads.below q) hs hsp hasp)
 have HOLD:=Xqh (fun(w:World)(q:Below W0.heap.size W0 w)(p:Addr)(v:Value)(e:W0.cell? p=some v)=>Below.old q e)
 have hdl:=XbT hI hh
 have HREP:=Xqh (fun w=>q_repeat ⟨#[32,32]⟩ d w (by omega) (by show 2*d≤_;omega))
 have HCD:Hid ((A.get h).Xg≠0→d+1+A.ns.length≤200000+A.depth (A.get h).Xg):=Xqh (fun z=>by obtain⟨z1,z2,_⟩:=ZL hI hh z;have:=Jq hI z1 hh z2;omega)
 have HKD:Hid (∀k∈(A.get h).Xc,d+1+A.ns.length≤200000+A.depth k):=Xqh (fun k z=>by obtain⟨z1,z2,_⟩:=XF hI hh z;have:=Jq hI z1 hh z2;omega)
 have hdd:(d:Int)≤220000000000000:=by omega
 clear hdep hdl
 have c11:=F.c11
 have c2:=F.c2
 subst hB0
 have e0:=Below.old hW h0
 have HW:=Xqh hW
 have HBL:=Xqh hb
 have HLEN:=Xqh (And.intro hlen hd2)
 have HDE:=Xqh hde
 have HC:=Xqh hc
 have HK:=Xqh hk
 clear hW hb hlen hde hll hc hk hs hsp hasp hN hNx
 go_enter Tryz.func33,Tryz.ntmps33
 go_wp2_with(go_at_call 43;refine(XY b nb _ c h _ e0 hp hq hm).mono ?_;rintro e w'⟨rfl,rfl⟩)
 refine(HREP.out _).mono ?_
 rintro e w1⟨rfl,hB1⟩
 have HB1:=Xqh (HW.out.trans (hB1.mono HW.out.size))
 have HI1:=Xqh (HBL.out.below hB1)
 clear hB1 HREP HW HBL
 have hL1:=HLEN.out
 go_wp2_with fail
 refine(q_writeString9 _ bb _ _ w1 HI1.out (by rw[Lib.byteCells_length];show l.length+(Lib.repeatL [32,32] d).length≤_;rw[repeat_pad,List.length_replicate];omega) HB1.out.size).mono ?_
 rintro e w2⟨rfl,hI2,hB2⟩
 have HB2:=Xqh (HB1.out.trans hB2)
 have HI2:Hid (IsB W0.heap.size bb (l++List.replicate (2*d) 32) w2):=Xqh (by refine Or.inr ?_;rw[Lib.byteCells_append,←repeat_pad];exact hI2)
 clear hI2 hB2 HI1 HB1
 have e2:=HOLD.out w2 HB2.out _ _ h0
 go_wp2_with fail
 refine(HLINE.out w2 HB2.out).mono ?_
 rintro e w3⟨rfl,hB3⟩
 have HB3:=Xqh (HB2.out.trans (hB3.mono HB2.out.size))
 have HI3:=Xqh (HI2.out.below hB3)
 clear hB3 HI2 HB2 HLINE e2
 go_wp2_with fail
 refine(q_writeString9 _ bb _ _ w3 HI3.out (by rw[Lib.byteCells_length,List.length_append,List.length_replicate];show _+(lineL (A.get h)).length≤_;omega) HB3.out.size).mono ?_
 rintro e w4⟨rfl,hI4,hB4⟩
 have HB4:=Xqh (HB3.out.trans hB4)
 have HI4:Hid (IsB W0.heap.size bb (l++List.replicate (2*d) 32++lineL (A.get h)) w4):=Xqh (by refine Or.inr ?_;rw[Lib.byteCells_append (l++List.replicate (2*d) 32)];exact hI4)
 clear hI4 hB4 HI3 HB3
 go_wp2_with fail
 refine(q_writeByte9 _ bb _ 10 w4 HI4.out (by rw[Lib.byteCells_length];simp only[List.length_append,List.length_replicate];omega) HB4.out.size).mono ?_
 rintro e w5⟨rfl,hI5,hB5⟩
 have HB5:=Xqh (HB4.out.trans hB5)
 have HI5:Hid (IsB W0.heap.size bb (l++lineD (A.get h) d) w5):=Xqh (by refine Or.inr ?_;have e:l++lineD (A.get h) d=l++List.replicate (2*d) 32++lineL (A.get h)++ [10]:=by{simp[lineD]};rw[e,Lib.byteCells_append _ [10]];exact hI5)
 clear hI5 hB5 HI4 HB4 hL1
 have g11:=HOLD.out w5 HB5.out _ _ c11
 obtain⟨ct,hct⟩:∃ct,ct=(if(A.get h).Xg≠0 then A.dump (A.get h).Xg (d+1)else []):=⟨_,rfl⟩
 have hde2:A.dump h d=lineD (A.get h) d++(ct++(A.get h).Xc.flatMap (fun k=>A.dump k (d+1))):=by rw[hct];exact HDE.out
 have hlen2:l.length+((lineD (A.get h) d).length+(ct.length+((A.get h).Xc.flatMap (fun k=>A.dump k (d+1))).length))≤220000000000000:=by have:=HLEN.out.1;rw[hde2]at this;simpa[List.length_append]using this
 have HDE2:=Xqh hde2
 have HLEN2:=Xqh hlen2
 have HCT:=Xqh hct
 clear hde2 hlen2 hct HDE
 go_upto_if 31 with fail
 go_cut [31]from 31 to 41(fun _v wx=>Hid (IsB W0.heap.size bb (l++lineD (A.get h) d++ct) wx)∧Hid (Below W0.heap.size W0 wx))
 case first=>by_cases hz:(A.get h).Xg=0;(case pos=>have hze:((A.get h).Xg !=0)=false:=by{simp[hz]};have HI6:Hid (IsB W0.heap.size bb (l++lineD (A.get h) d++ct) w5):=Xqh (by rw[HCT.out,if_neg (fun q=>q hz),List.append_nil];exact HI5.out);clear hz;go_wp2;go_meet;exact⟨HI6,HB5⟩);case neg=>have hze:((A.get h).Xg !=0)=true:=by{simp[hz]};have hcte:ct=A.dump (A.get h).Xg (d+1):=HCT.out.trans (if_pos hz);have HCC:=Xqh (HC.out hz (d+1) (l++lineD (A.get h) d) w5 HB5.out HI5.out (HCD.out hz) (by rw[←hcte,List.length_append];have:=HLEN2.out;omega));have HCTE:=Xqh hcte;clear hz hcte;go_wp2_with fail;refine HCC.out.mono ?_;rintro e w6⟨rfl,hI6,hB6⟩;rw[←HCTE.out]at hI6;have HI6:=Xqh hI6;have HB6:=Xqh hB6;clear hI6 hB6;go_wp2;go_meet;exact⟨HI6,HB6⟩
 case rest=>obtain⟨HI6,HB6⟩:=hcut;obtain⟨w6,hw⟩:∃W,W=wc:=⟨_,rfl⟩;subst hw;have HKR:=Xqh (fun(w:World)(q:Below W0.heap.size W0 w)=>Xy.below (show Xy W0 kv (A.get h).Xc from hK.reads) q);obtain⟨ka,kc,rfl,hk1,hk2,-⟩:=(show Xy W0 kv (A.get h).Xc from hK.reads).form;have hkm:(A.get h).Xc.length≤9223372036854775807:=Nat.le_trans hk1 hk2;have g2:=HOLD.out w6 HB6.out _ _ c2;clear g11 HI5 HB5 HC hK hAt;go_wp2_with fail;go_loopw [10,48](fun _x i wr=>∃k:Nat,k≤(A.get h).Xc.length∧i= .int .i64 k∧Hid (IsB W0.heap.size bb (l++lineD (A.get h) d++ct++((A.get h).Xc.take k).flatMap (fun x=>A.dump x (d+1))) wr)∧Hid (Below W0.heap.size W0 wr))(fun _ i _=>(A.get h).Xc.length-(intOf i).toNat);(case atStart=>exact⟨0,Nat.zero_le _,rfl,Xqh (by rw[List.take_zero,List.flatMap_nil,List.append_nil];exact HI6.out),HB6⟩);case round=>obtain⟨k,hkk,rfl,HI,HB⟩:=hrel;by_cases hlt:k<(A.get h).Xc.length;·{obtain⟨b1,o1,rfl,-,hcs⟩:=Xy.cellsQ (HKR.out wr HB.out) (by omega);obtain⟨x,hx⟩:∃x,(A.get h).Xc[k]?=some x:=⟨_,List.getElem?_eq_getElem hlt⟩;have d1:=hcs k x hx;have hst:((A.get h).Xc.take (k+1)).flatMap (fun x=>A.dump x (d+1))=((A.get h).Xc.take k).flatMap (fun x=>A.dump x (d+1))++A.dump x (d+1):=by{rw[List.take_add_one,hx];simp};have hl2:(((A.get h).Xc.take (k+1)).flatMap (fun x=>A.dump x (d+1))).length≤((A.get h).Xc.flatMap (fun x=>A.dump x (d+1))).length:=by{(conv=>rhs;rw[←List.take_append_drop (k+1) (A.get h).Xc,List.flatMap_append,List.length_append]);omega};rw[hst,List.length_append]at hl2;have HCC:=Xqh (HK.out x (List.mem_of_getElem? hx) (d+1) _ wr HB.out HI.out (HKD.out x (List.mem_of_getElem? hx)) (by simp only[List.length_append];have:=HLEN2.out;omega));have HST:=Xqh hst;clear hcs hx hst hl2;go_wp2_with fail;refine HCC.out.mono ?_;rintro e w7⟨rfl,hI7,hB7⟩;have HI7:Hid (IsB W0.heap.size bb (l++lineD (A.get h) d++ct++((A.get h).Xc.take (k+1)).flatMap (fun x=>A.dump x (d+1))) w7):=Xqh (by rw[HST.out,←List.append_assoc];exact hI7);have HB7:=Xqh hB7;clear hI7 hB7 HCC;go_wp2;go_roundw;(case rel=>exact⟨k+1,hlt,by go_num,HI7,HB7⟩);case measure=>simp[intOf];omega};·have hke:(A.get h).Xc.take k=(A.get h).Xc:=List.take_of_length_le (by omega);have HIE:Hid (IsB W0.heap.size bb (l++A.dump h d) wr):=Xqh (by have:=HI.out;rw[hke,List.append_assoc,List.append_assoc,←HDE2.out]at this;exact this);clear hke;go_wp2;go_end0;exact⟨rfl,HIE.out,HB.out⟩
theorem q_dump (W0:World)(ρ:Nat→Nat)(b bb:Nat)(A:Ar)(hI:A.Inv)(hA:Xz W0 ρ b A)(hs:∀x,A.has x→((A.get x).name.size≤400∧(A.get x).data.size≤100000000000000∧(A.get x).pub.size≤400∧(A.get x).sys.size≤400)∧((A.get x).Xb.length≤120∧∀a∈(A.get x).Xb,XcQ a))(hsp:∀x,A.has x→(0≤(A.get x).space∧(A.get x).space<100)∧∀a∈(A.get x).Xb,0≤a.1∧a.1<100):∀h,A.has h→DumpC W0 b W0.heap.size bb A h:=Jc hI (fun h hh hc hk=>dump_step W0 ρ b _ bb A hI hA rfl h hh (hs h hh) (hsp h hh).1 (hsp h hh).2 hc hk)
theorem q_Dump (w:World)(ρ:Nat→Nat)(b:Nat)(A:Ar)(hI:A.Inv)(hA:Xz w ρ b A)(hs:∀x,A.has x→((A.get x).name.size≤400∧(A.get x).data.size≤100000000000000∧(A.get x).pub.size≤400∧(A.get x).sys.size≤400)∧((A.get x).Xb.length≤120∧∀a∈(A.get x).Xb,XcQ a))(hsp:∀x,A.has x→(0≤(A.get x).space∧(A.get x).space<100)∧∀a∈(A.get x).Xb,0≤a.1∧a.1<100)(hns:A.ns.length≤100000)(h:Int)(hlen:(A.dump h 0).length≤220000000000000):Calls Tryz.prog 8 #[.pointer (some ⟨b,0,none⟩),.int .i64 h] w fun e w'=>e= .returned (.string ⟨(A.dump h 0).toArray⟩)∧Below w.heap.size w w':=by
 obtain⟨a,c,mv,h0,h1,hf,hlt,hm,hN⟩:=hA.head
 clear hN hf h1
 have HH:=Xqh (fun W(q:Below w.heap.size w W)=>ZH A b a c h W (Below.old q h0))
 have HD:=Xqh (fun(hh:A.has h)=>q_dump w ρ b w.heap.size A hI hA hs hsp h hh 0 [])
 clear hs hsp h0 hA
 go_enter Tryz.func8,Tryz.ntmps8
 by_cases hh:A.has h
 case neg=>have hd:A.dump h 0= []:=if_neg hh;have hb:decide (A.has h)=false:=decide_eq_false hh;have HDE:=Xqh hd;clear hd;go_wp2_with fail;refine(HH.out w (Below.refl _ _)).mono ?_;rintro e w1⟨rfl,rfl⟩;rw[hb];go_wp2;go_ret;exact⟨by rw[HDE.out];rfl,Below.refl _ _⟩
 have hb:decide (A.has h)=true:=decide_eq_true hh
 have HDD:=Xqh (HD.out hh)
 go_wp2_with fail
 refine(HH.out w (Below.refl _ _)).mono ?_
 rintro e w1⟨rfl,rfl⟩
 rw[hb]
 have HFB:=Xqh (Lib.fresh_isBuilder 65 5 w)
 have HBA:=Xqh (Xw w (.cells #[.pointer none,.slice none 0 0] 65))
 go_wp2_with fail
 refine(HDD.out _ HBA.out HFB.out (by omega) (by simpa using hlen)).mono ?_
 rintro e w2⟨rfl,hI2,hB2⟩
 have HI2:=Xqh hI2
 have HB2:=Xqh hB2
 clear hI2 hB2 HFB HBA
 go_wp2_with fail
 refine(q_string _ _ _ _ HI2.out HB2.out.size).mono ?_
 rintro e w3⟨rfl,hB3⟩
 have HB3:=Xqh (HB2.out.trans hB3)
 clear hB3
 go_wp2
 go_ret
 exact⟨rfl,HB3.out⟩
end
section
open Go.RowKit Classical
def allProper9 (l : List OpD) : Prop := ∀ x ∈ l, x.proper
theorem proper9 (v:Value)(l:List OpD)(w:World)(hv:JW w v l):Calls Tryz.prog 5 #[v] w fun e w'=>e= .returned (.bool (decide (allProper9 l)))∧w=w':=by
 obtain⟨av,cv,rfl,hc1,hc2,hc3⟩:=id hv
 have HL:=Xqh hv
 clear hv
 go_enter Tryz.func5,Tryz.ntmps5
 go_wp2
 go_loopw [3](fun i wr=>∃k:Nat,k≤l.length∧i= .int .i64 k∧Hid (allProper9 (l.take k))∧wr=w)(fun i _=>l.length-(intOf i).toNat)
 case atStart=>exact⟨0,Nat.zero_le _,rfl,Xqh (fun x hx=>by simp at hx),rfl⟩
 case round=>obtain⟨k,hk,rfl,hT,rfl⟩:=hrel;by_cases hlt:k<l.length;·{obtain⟨b1,o1,rfl,hcs⟩:=hc3 (by omega);obtain⟨x,hx⟩:∃x,l[k]?=some x:=⟨_,List.getElem?_eq_getElem hlt⟩;obtain⟨av,F⟩:=hcs k x hx;obtain⟨c0,-⟩:=F.facts;have HX:=Xqh hx;have HN:Hid (x.proper→allProper9 (l.take (k+1))):=Xqh (fun q y hy=>by rw[List.take_add_one,HX.out]at hy;rcases List.mem_append.1 hy with z|z;·{exact hT.out y z};·simp at z;subst z;exact q);have HB:Hid (¬x.proper→¬allProper9 l):=Xqh (fun q z=>q (z x (List.mem_of_getElem? HX.out)));unfold OpD.proper at HN HB;clear hc3 hcs F hx HX HL;generalize x.Xa=kd at*;by_cases h8:8≤kd;·{have g8:kd≥8:=h8;have d8:decide (8≤kd)=true:=by{simp[h8]};by_cases h13:kd≤13;·{have HF:=Xqh (HB.out (fun q=>q ⟨h8,h13⟩));have d13:decide (kd≤13)=true:=by{simp[h13]};clear HN HB;go_wp2;go_ret;exact⟨XW (decide_eq_false HF.out).symm,rfl⟩};·have HF:=Xqh (HN.out (fun q=>h13 q.2));have d13:decide (kd≤13)=false:=by{simp[h13]};clear HN HB;go_wp2;go_roundw;(case rel=>exact⟨k+1,by omega,by go_num,HF,by trivial⟩);case measure=>simp[intOf];omega};·have HF:=Xqh (HN.out (fun q=>h8 q.1));have d8:decide (8≤kd)=false:=by{simp[h8]};clear HN HB;go_wp2;go_roundw;(case rel=>exact⟨k+1,by omega,by go_num,HF,by trivial⟩);case measure=>simp[intOf];omega};·have HF:=Xqh (show allProper9 l by have:=hT.out;rwa[List.take_of_length_le (by omega)]at this);clear hT hc3 HL;go_wp2;go_ret;exact⟨XW (decide_eq_true HF.out).symm,rfl⟩
theorem Root_own9 {w0 w:World}{B b:Nat}{A:Ar}{l:List Xf}{h:Int}(o:Own w0 B l w)(hm:Xf.arena b A∈l)(hI:A.Inv){r:Int}(hr:A.root h=r):Calls Tryz.prog 16 #[.pointer (some ⟨b,0,none⟩),.int .i64 h] w fun e w'=>e= .returned (.int .i64 r)∧Own w0 B l w':=by
 subst hr
 obtain⟨ρ,hA⟩:=o.arena hm
 refine(Root_all A ρ b h w hA hI.wf).mono ?_
 rintro e w'⟨rfl,hB⟩
 exact⟨rfl,o.read hB⟩
theorem Same_own9 {w0 w:World}{D b c:Nat}{A B:Ar}{l:List Xf}{h k:Int}{r:Bool}(o:Own w0 D l w)(h1:Xf.arena b A∈l)(h2:Xf.arena c B∈l)(hI:A.Inv)(hJ:B.Inv)(hr:decide (ZJ A B h k)=r):Calls Tryz.prog 13 #[.pointer (some ⟨b,0,none⟩),.int .i64 h,.pointer (some ⟨c,0,none⟩),.int .i64 k] w fun e w'=>e= .returned (.bool r)∧Own w0 D l w':=by
 obtain⟨ρ,hA⟩:=o.arena h1
 obtain⟨σ,hB⟩:=o.arena h2
 refine(Same_any A B ρ σ b c hI hJ h k w hA hB).mono ?_
 rintro e w'⟨rfl,m,rfl⟩
 exact⟨by rw[hr],o.read (Below.drewN (Below.refl _ _) _)⟩
theorem Dump_own9 {w0 w:World}{B b:Nat}{A:Ar}{l:List Xf}{h:Int}(o:Own w0 B l w)(hm:Xf.arena b A∈l)(hI:A.Inv)(hS:Sz A)(hn:A.ns.length≤100000)(hl:(A.dump h 0).length≤220000000000000){q:ByteArray}(hq:⟨(A.dump h 0).toArray⟩=q):Calls Tryz.prog 8 #[.pointer (some ⟨b,0,none⟩),.int .i64 h] w fun e w'=>e= .returned (.string q)∧Own w0 B l w':=by
 subst hq
 obtain⟨ρ,hA⟩:=o.arena hm
 refine(q_Dump w ρ b A hI hA hS.at (spaces_of hI) hn h hl).mono ?_
 rintro e w'⟨rfl,hB⟩
 exact⟨rfl,o.read hB⟩
theorem adopt_err {A:Ar}{n d:Int}(h:(A.YV n d).1≠0):(A.YV n d).2=A:=by
 unfold Ar.YV at h⊢
 split
 ·split;·{rfl};·rename_i q z;rw[if_pos q,if_neg z]at h;exact absurd rfl h
 ·rfl
theorem DomAdopts_some (v0:Value)(l:List OpD)(n d:Int)(w:World)(hv:JW w v0 l)(hs:Jj l 100)(hp:allProper9 l):Calls Tryz.prog 3 #[v0,.int .i64 n,.int .i64 d] w fun e w'=>e= .returned (.bool true)∧Below w.heap.size w w':=by
 have HS:=Xqh (XdA v0 l 100 w hv)
 have HPR:=Xqh (fun W(hb:Below w.heap.size w W)=>proper9 v0 l W (hv.below hb))
 have HD:=Xqh (show decide (Jj l 100)=true from decide_eq_true hs)
 have HP:=Xqh (show decide (allProper9 l)=true from decide_eq_true hp)
 obtain⟨i1,-,hlen,-⟩:=XfA hs (by omega) (Nat.le_refl l.length)
 have hP5:=p5_run hs (by omega) hp l.length (Nat.le_refl _)
 rw[List.take_length]at i1 hlen hP5
 obtain⟨z1,z2,z3⟩:=Xir hs (by omega)
 have hSz:=run5_sz z1 z2 z3 i1
 have hdl:=run5_dump z1 z2 z3 i1 (by omega) n
 have HRUN:=Xqh (fun W(ll:List Xf)(o:Own w w.heap.size ll W)=>Run5_own o v0 l (hv.below o.low) hs (by omega))
 have HSH:=Xqh (i1.short (show(Zj l).ns.length≤1000000 by omega))
 obtain⟨av0,cv0,rfl,-⟩:=hv
 have o0:=Own.start w
 clear hs hp z1 z2 z3
 generalize Zj l=A at*
 obtain⟨q,hq⟩:∃q:ByteArray,⟨(A.dump n 0).toArray⟩=q:=⟨_,rfl⟩
 obtain⟨er,her⟩:∃er,(A.YV n d).1=er:=⟨_,rfl⟩
 obtain⟨B,hB⟩:∃B,(A.YV n d).2=B:=⟨_,rfl⟩
 have HDU:=Xqh (fun(W:World)(b:Nat)(ll:List Xf)(o:Own w w.heap.size (.arena b A::ll) W)=>Dump_own9 (b:=b) (A:=A) o (by simp) i1 hSz (by omega) (by omega) hq)
 have HAD:=Xqh (fun(W:World)(b:Nat)(ll:List Xf)(o:Own w w.heap.size (.arena b A::ll) W)=>Xmf (n:=n) (d:=d) o i1 (by omega))
 rw[her,hB]at HAD
 have HER:Hid (er≠0→B=A):=Xqh (fun z=>by rw[←hB];exact adopt_err (by rw[her];exact z))
 have HOK:Hid (er=0→AdL A B n d):=Xqh (fun z=>by rw[←hB];exact(adopt_law i1 hP5 (her.trans z)).1)
 have HSZ:=Xqh hSz
 have HI:=Xqh i1
 have HDL:=Xqh hdl
 have HQ:=Xqh hq
 clear i1 hP5 hSz hdl hq her hB
 go_enter Tryz.func3,Tryz.ntmps3
 go_wp2_with fail
 refine HS.out.mono ?_
 rintro e w1⟨rfl,hB1⟩
 rw[HD.out]
 have HPR1:=Xqh (HPR.out w1 hB1)
 have o1:=o0.read hB1
 clear hB1 o0 HS HD HPR
 go_wp2_with fail
 refine HPR1.out.mono ?_
 rintro e w2⟨rfl,rfl⟩
 rw[HP.out]
 clear HPR1 HP
 go_wp2_with fail
 refine(HRUN.out _ _ o1).mono ?_
 rintro e w2⟨rfl,o2⟩
 generalize w1.heap.size=b at*
 clear o1 HRUN
 go_wp2_with fail
 refine(HDU.out _ _ _ o2).mono ?_
 rintro e w3⟨rfl,o3⟩
 clear o2 HDU
 go_wp2_with fail
 refine(Copy_own o3 (b:=b) (A:=A) (by simp) HSH.out).mono ?_
 rintro e w4⟨bc,rfl,o4⟩
 have o5:=o4.swap
 clear o3 o4
 go_wp2_with fail
 refine(HAD.out _ _ _ o5).mono ?_
 rintro e w6⟨rfl,o6⟩
 clear o5 HAD
 by_cases h0:er=0
 case neg=>obtain rfl:=HER.out h0;have e1:(er !=0)=true:=by{simp[h0]};clear HOK HER h0;have HEQ:=Xqh (Equal_own (b:=b) (c:=bc) (A:=B) (B:=B) (r:=true) o6 (by simp) (by simp) HI.out HI.out (by omega) (by omega) (by simp));clear o6;go_wp2_with fail;refine HEQ.out.mono ?_;rintro e w7⟨rfl,o7⟩;clear HEQ;go_wp2_with fail;refine(XdO w7).mono ?_;rintro e w8⟨rfl,hB8⟩;have HX:=Xqh (o7.back hB8);clear hB8 o7;go_wp2;go_ret;exact⟨rfl,HX.out⟩
 case pos=>subst h0;have HL:=Xqh (HOK.out rfl);have hlB:=HL.out.le1;have HSB:=Xqh (HL.out.inv.short (show B.ns.length≤1000000 by omega));have HPA:=Xqh (Xev (h:=n) o6 (b:=b) (A:=B) (by simp));rw[HL.out.top]at HPA;have HDB:=Xqh (Dump_own9 (h:=n) (q:=q) o6 (b:=b) (A:=B) (by simp) HL.out.inv (HL.out.sz HSZ.out) (by omega) (by rw[HL.out.text];have:=HDL.out;omega) (by rw[HL.out.text];exact HQ.out));clear HOK HER o6;go_wp2_with fail;refine HPA.out.mono ?_;rintro e w7⟨rfl,rfl⟩;clear HPA;go_wp2_with fail;refine HDB.out.mono ?_;rintro e w7⟨rfl,o7⟩;have e2:(q.toList==q.toList)=true:=by{simp};have HSA:=Xqh (Same_own9 (b:=b) (c:=bc) (A:=B) (B:=A) (h:=n) (k:=n) (r:=true) o7 (by simp) (by simp) HL.out.inv HI.out (decide_eq_true HL.out.Xcc));clear HDB o7;go_wp2_with fail;refine HSA.out.mono ?_;rintro e w8⟨rfl,o8⟩;have HO:=Xqh o8.swap.drop;clear o8 HSA e2 HQ HDL HSZ HSH HI;go_wp2_with fail;go_loopw [10,11,12](fun i _n _e wr=>∃k:Nat,k≤B.ns.length∧i= .int .i64 ((k:Int)+1)∧Hid (Own w w.heap.size [.arena b B] wr))(fun i _ _ _=>B.ns.length+1-(intOf i).toNat);(case atStart=>exact⟨0,Nat.zero_le _,rfl,HO⟩);case round=>obtain⟨k,hk,rfl,hT⟩:=hrel;clear HO;have HLN:=Xqh (XkI hT.out (b:=b) (A:=B) (by simp));go_wp2_with fail;refine HLN.out.mono ?_;rintro e w9⟨rfl,rfl⟩;clear HLN;by_cases hlt:k<B.ns.length;·{have hh:B.has ((k:Int)+1):=⟨by omega,by unfold Ar.n;omega⟩;obtain⟨x,hx⟩:∃x,B.get ((k:Int)+1)=x:=⟨_,rfl⟩;obtain⟨r,hr⟩:∃r,B.root ((k:Int)+1)=r:=⟨_,rfl⟩;have HDO:Hid (r=n→x.doc=d):=Xqh (fun z=>by rw[←hx];exact HL.out.docs _ hh (hr.trans z));have HND:=Xqh (JZ hT.out (b:=b) (A:=B) (by simp) HSB.out hh hx);have HRT:=Xqh (fun(W:World)(g:Nat)(ob:Obj)(o:Own w w.heap.size [.box g ob,.arena b B] W)=>Root_own9 o (b:=b) (A:=B) (by simp) HL.out.inv hr);clear hT hh hx hr;go_wp2_with fail;refine HND.out.mono ?_;rintro e w10⟨ka,kl,kc,aa,al,ac,rfl,o10,-⟩;clear HND;have HT:=Xqh (XV (w:=w10) x ka kc aa ac kl al);have o11:=o10.XU x (.slice ka kl kc) (.slice aa al ac);clear o10;go_wp2_with((with_reducible refine wpList_store_mid ?_ 41 (.tmp 11) (.tmp 69) ?_ w10.heap.size 0 (x.cells (.slice ka kl kc) (.slice aa al ac)).toArray ?_ ?_ ?_ ?_ ?_ ?_);exact rfl;exact rfl;exact rfl;exact rfl;exact HT.out.1;exact XM _ _ _;exact all_oneCell_toArray HT.out.2;clear HT;generalize hw5:World.setCells _ _ _ _=w11 at o11⊢;generalize hg5:w10.heap.size=g11 at o11⊢;clear hw5 hg5);refine(HRT.out _ _ _ o11).mono ?_;rintro e w12⟨rfl,o12⟩;have d3:w12.cell? ⟨g11,3,none⟩=some (.int .i64 x.doc):=(cell_of_row w12 _ _ _ _ _ (o12.box (g:=g11) (o:= .cells (x.cells (.slice ka kl kc) (.slice aa al ac)).toArray 41 (0,0)) (by simp))).trans rfl;have HO12:=Xqh o12.drop;clear o11 o12 HRT;by_cases hrn:r=n;·{have e3:(r==n)=true:=by{simp[hrn]};rw[HDO.out hrn]at d3;have e4:(d !=d)=false:=by{simp};clear hrn HDO;go_wp2;go_roundw;(case rel=>exact⟨k+1,by omega,by go_num,HO12⟩);case measure=>simp[intOf];omega};·have e3:(r==n)=false:=by{simp[hrn]};clear hrn HDO;go_wp2;go_roundw;(case rel=>exact⟨k+1,by omega,by go_num,HO12⟩);case measure=>simp[intOf];omega};·have o4:=hT.out;clear hT;go_wp2_with fail;refine(XdO _).mono ?_;rintro e w9⟨rfl,hB9⟩;have HX:=Xqh (o4.back hB9);clear hB9 o4;go_wp2;go_ret;exact⟨rfl,HX.out⟩
theorem DomAdopts_any (v0:Value)(l:List OpD)(n d:Int)(w:World)(hv:JW w v0 l):Calls Tryz.prog 3 #[v0,.int .i64 n,.int .i64 d] w fun e w'=>e= .returned (.bool true)∧Below w.heap.size w w':=by
 by_cases hs:Jj l 100
 ·by_cases hp:allProper9 l;·{exact DomAdopts_some v0 l n d w hv hs hp};·have HS:=Xqh (XdA v0 l 100 w hv);have HPR:=Xqh (fun W(hb:Below w.heap.size w W)=>proper9 v0 l W (hv.below hb));have HD:=Xqh (show decide (Jj l 100)=true from decide_eq_true hs);have HP:=Xqh (show decide (allProper9 l)=false from decide_eq_false hp);obtain⟨av0,cv0,rfl,-⟩:=hv;clear hs hp;go_enter Tryz.func3,Tryz.ntmps3;go_wp2_with fail;refine HS.out.mono ?_;rintro e w1⟨rfl,hB1⟩;rw[HD.out];have HPR1:=Xqh (HPR.out w1 hB1);clear HS HD HPR;go_wp2_with fail;refine HPR1.out.mono ?_;rintro e w2⟨rfl,rfl⟩;rw[HP.out];clear HPR1 HP;go_wp2_with fail;refine(XdO w1).mono ?_;rintro e w2⟨rfl,hB2⟩;go_wp2;go_ret;exact⟨rfl,hB1.trans (hB2.mono hB1.size)⟩
 ·have HS:=Xqh (XdA v0 l 100 w hv);have HD:=Xqh (show decide (Jj l 100)=false from decide_eq_false hs);obtain⟨av,cv,rfl,-⟩:=hv;clear hs;go_enter Tryz.func3,Tryz.ntmps3;go_wp2_with fail;refine HS.out.mono ?_;rintro e w1⟨rfl,hB1⟩;rw[HD.out];go_wp2_with fail;refine(XdO w1).mono ?_;rintro e w2⟨rfl,hB2⟩;go_wp2;go_ret;exact⟨rfl,hB1.trans (hB2.mono hB1.size)⟩
end
end Go.Proofs.YtpicinjcmjaogaaGreatDoor
