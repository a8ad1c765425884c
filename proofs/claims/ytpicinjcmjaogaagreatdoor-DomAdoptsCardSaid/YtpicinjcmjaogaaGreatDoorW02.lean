import Derived.Test.YtpicinjcmjaogaaGreatDoorRows
import Derived.Deep.QuietTactic
import Derived.BigQuiet
import Derived.Deep.RegionHeld3
import Derived.Deep.DeepFit
import Derived.Deep.LoopGhost
import Derived.Deep.MidRow
import Derived.Deep.RegionLaw
import Derived.Deep.AppendLies
import Derived.Ground.Names2Prog
import Derived.Shelf.Slices.Delete
import Derived.Shelf.Slices.Cells
import Derived.Shelf.Spec.SlicesInsertGrow
import Derived.Test.YtpicinjcmjaogaaGreatDoorW01
set_option maxRecDepth 100000
set_option maxHeartbeats 4000000
set_option linter.unusedVariables false
namespace Go.Proofs.YtpicinjcmjaogaaGreatDoor
section
open Go.RowKit
theorem XW {a b:Bool}(h:a=b):Ending.returned (.bool a)= .returned (.bool b):=by
 rw[h]
theorem Zd {a b:Int}(h:a=b):Ending.returned (.int .i64 a)= .returned (.int .i64 b):=by
 rw[h]
theorem ZH (A:Ar)(b:Nat)(a:Option Addr)(c:Nat)(h:Int)(w:World)(h0:w.cell? ⟨b,0,none⟩=some (.slice a A.ns.length c)):Calls Tryz.prog 32 #[.pointer (some ⟨b,0,none⟩),.int .i64 h] w fun e w'=>e= .returned (.bool (decide (A.has h)))∧w=w':=by
 by_cases h1:1≤h
 ·go_enter Tryz.func32,Tryz.ntmps32;go_wp2;go_ret;exact⟨XW (by simp[Ar.has,Ar.n,h1]),rfl⟩
 ·go_enter Tryz.func32,Tryz.ntmps32;go_wp2;go_ret;exact⟨XW (decide_eq_false (fun hc=>by have:=hc.1;omega)).symm,rfl⟩
theorem Xjn (A:Ar)(b:Nat)(a:Option Addr)(c:Nat)(w:World)(h0:w.cell? ⟨b,0,none⟩=some (.slice a A.ns.length c)):Calls Tryz.prog 14 #[.pointer (some ⟨b,0,none⟩)] w fun e w'=>e= .returned (.int .i64 A.n)∧w=w':=by
 go_enter Tryz.func14,Tryz.ntmps14
 go_wp2
 go_ret
 exact⟨rfl,rfl⟩
theorem XY (b nb:Nat)(n c:Nat)(h:Int)(w:World)(h0:w.cell? ⟨b,0,none⟩=some (.slice (some ⟨nb,0,none⟩) n c))(h1:1≤h)(h2:h≤n)(hm:(n:Int)≤9223372036854775807):Calls Tryz.prog 43 #[.pointer (some ⟨b,0,none⟩),.int .i64 h] w fun e w'=>e= .returned (.pointer (some ⟨nb,(h.toNat-1)*13,none⟩))∧w=w':=by
 go_enter Tryz.func43,Tryz.ntmps43
 go_wp2
 go_ret
 exact⟨by simp,rfl⟩
/-- The first handle of a list that is none: ErrHandle. -/
def Yc (A : Ar) (l : List Int) : Int := if ∀ h ∈ l, A.has h then 0 else 3
theorem YH (A:Ar)(b:Nat)(a:Option Addr)(c:Nat)(v:Value)(l:List Int)(w:World)(h0:w.cell? ⟨b,0,none⟩=some (.slice a A.ns.length c))(hv:Xy w v l):Calls Tryz.prog 44 #[.pointer (some ⟨b,0,none⟩),v] w fun e w'=>e= .returned (.int .i64 (Yc A l))∧w=w':=by
 obtain⟨av,cv,rfl,hc1,hc2,hc3⟩:=hv.form
 go_enter Tryz.func44,Tryz.ntmps44
 go_wp2
 go_loop [11](fun i=>∃k:Nat,k≤l.length∧i= .int .i64 k∧Hid (∀j,j<k→A.has (l[j]?.getD 0)))(fun i=>l.length-(intOf i).toNat)
 case atStart=>exact⟨0,Nat.zero_le _,rfl,fun j hj=>by omega⟩
 case round=>obtain⟨k,hk,rfl,hT⟩:=hrel;by_cases hlt:k<l.length;·{obtain⟨b1,o1,rfl,hcs⟩:=hc3 (by omega);have hck:=hcs k hlt;clear hc3 hcs;generalize hx:l[k]?.getD 0=x at hck;have HX:=Xqh hx;clear hx;by_cases hh:A.has x;·{have hd:decide (A.has x)=true:=by{simp[hh]};have HH:=Xqh hh;clear hh;go_wp2_with(go_at_call 32;refine(ZH A b a c _ _ h0).mono ?_;rintro e w'⟨rfl,rfl⟩);go_round;(case rel=>exact⟨k+1,hlt,by go_num,fun j hj=>by by_cases hjk:j<k;·{exact hT.out j hjk};·have:j=k:=by{omega};rw[this,HX.out];exact HH.out⟩);case measure=>simp[intOf];omega};·have hd:decide (A.has x)=false:=by{simp[hh]};have HH:=Xqh hh;clear hh;go_wp2_with(go_at_call 32;refine(ZH A b a c _ _ h0).mono ?_;rintro e w'⟨rfl,rfl⟩);go_ret;refine⟨Zd ?_,rfl⟩;have:¬∀h∈l,A.has h:=fun hall=>HH.out (by rw[←HX.out];simp only[List.getElem?_eq_getElem hlt,Option.getD_some];exact hall _ (List.getElem_mem hlt));rw[Yc,if_neg this]};·go_wp2;go_ret;refine⟨Zd ?_,rfl⟩;have:∀h∈l,A.has h:=by{intro h hh;obtain⟨j,hj,rfl⟩:=List.getElem_of_mem hh;have:=hT.out j (by omega);simpa[hj]using this};rw[Yc,if_pos this]
end
section
open Go.RowKit
theorem XcA (A:Ar)(ρ:Nat→Nat)(b:Nat)(d:Int)(w:World)(hA:Xz w ρ b A):Calls Tryz.prog 48 #[.pointer (some ⟨b,0,none⟩),.int .i64 d] w fun e w'=>e= .returned (.int .i64 (A.XA d))∧Below w.heap.size w w':=by
 obtain⟨a,c,mv,h0,h1,hf,hlt,hm,hN⟩:=hA.head
 by_cases hh:A.has d
 ·have hck:(Yc A [d]!=0)=false:=by{simp[Yc,hh]};have hp:=hh.1;have hq:=hh.2;unfold Ar.n at hq;obtain⟨nb,rfl,hr,hnb,hfn,hNx⟩:=hN (by omega);obtain⟨kv,av,F,-,-⟩:=hNx d hh;have c0:=Below.old (Xw w (.cells #[.int .i64 d] 3)) F.c0;have h0':=Below.old (Xw w (.cells #[.int .i64 d] 3)) h0;by_cases hk:(A.get d).Xa=1;·{have hk1:((A.get d).Xa !=1)=false:=by{simp[hk]};have hfin:A.XA d=0:=by{simp[Ar.XA,hh,hk]};have Hfin:=Xqh hfin;clear hfin hk F hNx hN hh;go_enter Tryz.func48,Tryz.ntmps48;go_wp2_with fail;refine(YH A b _ c _ [d] _ h0' (ZQ _ _ _)).mono ?_;rintro e w'⟨rfl,rfl⟩;go_wp2_with(go_at_call 43;refine(XY b nb _ c d _ h0' hp hq hm).mono ?_;rintro e w'⟨rfl,rfl⟩);go_ret;exact⟨Zd Hfin.out.symm,Xw _ _⟩};·have hk1:((A.get d).Xa !=1)=true:=by{simp[hk]};have hfin:A.XA d=9:=by{simp[Ar.XA,hh,hk]};have Hfin:=Xqh hfin;clear hfin hk F hNx hN hh;go_enter Tryz.func48,Tryz.ntmps48;go_wp2_with fail;refine(YH A b _ c _ [d] _ h0' (ZQ _ _ _)).mono ?_;rintro e w'⟨rfl,rfl⟩;go_wp2_with(go_at_call 43;refine(XY b nb _ c d _ h0' hp hq hm).mono ?_;rintro e w'⟨rfl,rfl⟩);go_ret;exact⟨Zd Hfin.out.symm,Xw _ _⟩
 ·have hck0:Yc A [d]=3:=by{simp[Yc,hh]};have hfin:A.XA d=3:=by{simp[Ar.XA,hh]};have Hfin:=Xqh hfin;clear hfin hN hh;have h0':=Below.old (Xw w (.cells #[.int .i64 d] 3)) h0;go_enter Tryz.func48,Tryz.ntmps48;go_wp2_with fail;refine(YH A b _ c _ [d] _ h0' (ZQ _ _ _)).mono ?_;rintro e w'⟨rfl,rfl⟩;go_wp2;go_ret;exact⟨Zd Hfin.out.symm,Xw _ _⟩
theorem Xgd (nb o:Nat)(n:Nd)(kv av:Value)(w:World)(F:YB w nb o n kv av):Calls Tryz.prog 51 #[.pointer (some ⟨nb,o,none⟩)] w fun e w'=>e= .returned (.bool (decide (XN n)))∧w=w':=by
 have c0:=F.c0
 have c4:=F.c4
 have c5:=F.c5
 clear F
 by_cases h1:n.Xa=4
 ·have e1:(n.Xa==4)=true:=by{simp[h1]};by_cases h2:n.space=1;·{have e2:(n.space==1)=true:=by{simp[h2]};have hfin:decide (XN n)=(n.name.toList== [116,101,109,112,108,97,116,101]):=by{rw[Bool.eq_iff_iff];simp[XN,h1,h2,Xa8]};have Hfin:=Xqh hfin;clear hfin h1 h2;go_enter Tryz.func51,Tryz.ntmps51;go_wp2;go_ret;exact⟨XW Hfin.out.symm,rfl⟩};·have e2:(n.space==1)=false:=by{simp[h2]};have hfin:decide (XN n)=false:=by{simp[XN,h2]};have Hfin:=Xqh hfin;clear hfin h1 h2;go_enter Tryz.func51,Tryz.ntmps51;go_wp2;go_ret;exact⟨XW Hfin.out.symm,rfl⟩
 ·have e1:(n.Xa==4)=false:=by{simp[h1]};have hfin:decide (XN n)=false:=by{simp[XN,h1]};have Hfin:=Xqh hfin;clear hfin h1;go_enter Tryz.func51,Tryz.ntmps51;go_wp2;go_ret;exact⟨XW Hfin.out.symm,rfl⟩
end
section
open Go.RowKit
theorem XcB (v:Value)(l:List Int)(w:World)(hv:Xy w v l):Calls Tryz.prog 50 #[v] w fun e w'=>e= .returned (.bool (decide (∀s∈l,XS s)))∧w=w':=by
 obtain⟨av,cv,rfl,hc1,hc2,hc3⟩:=hv.form
 go_enter Tryz.func50,Tryz.ntmps50
 go_wp2
 go_loop [7](fun i=>∃k:Nat,k≤l.length∧i= .int .i64 k∧Hid (∀j,j<k→XS (l[j]?.getD 0)))(fun i=>l.length-(intOf i).toNat)
 case atStart=>exact⟨0,Nat.zero_le _,rfl,fun j hj=>by omega⟩
 case round=>obtain⟨k,hk,rfl,hT⟩:=hrel;by_cases hlt:k<l.length;·{obtain⟨b1,o1,rfl,hcs⟩:=hc3 (by omega);have hck:=hcs k hlt;clear hc3 hcs;generalize hx:l[k]?.getD 0=x at hck;have HX:=Xqh hx;clear hx;have hno:¬XS x→¬∀s∈l,XS s:=fun h hall=>h (by rw[←HX.out];simp only[List.getElem?_eq_getElem hlt,Option.getD_some];exact hall _ (List.getElem_mem hlt));have HNO:=Xqh hno;clear hno;by_cases h1:x<0;·{go_wp2;go_ret;exact⟨XW (decide_eq_false (HNO.out (fun h=>by have:=h.1;omega))).symm,rfl⟩};·by_cases h2:7<x;·{go_wp2;go_ret;exact⟨XW (decide_eq_false (HNO.out (fun h=>by have:=h.2;omega))).symm,rfl⟩};·have h3:0≤x:=by{omega};have h4:x≤7:=by{omega};clear h1 h2;go_wp2;go_round;(case rel=>exact⟨k+1,hlt,by go_num,fun j hj=>by by_cases hjk:j<k;·{exact hT.out j hjk};·have:j=k:=by{omega};rw[this,HX.out];exact⟨h3,h4⟩⟩);case measure=>simp[intOf];omega};·go_wp2;go_ret;refine⟨XW (decide_eq_true ?_).symm,rfl⟩;intro h hh;obtain⟨j,hj,rfl⟩:=List.getElem_of_mem hh;have:=hT.out j (by omega);simpa[hj]using this
def XcC (a : Xm) : Value := .agg #[.int .i64 a.1, .string a.2.1, .string a.2.2]
theorem Xge (xb:Nat)(x y:Xm)(w:World)(h0:w.cell? ⟨xb,0,none⟩=some (.int .i64 x.1))(h1:w.cell? ⟨xb,1,none⟩=some (.string x.2.1)):Calls Tryz.prog 89 #[XcC y,.pointer (some ⟨xb,0,none⟩)] w fun e w'=>e= .returned (.bool (Zl x y))∧Below w.heap.size w w':=by
 obtain⟨ys,yn,yv⟩:=y
 have hlt:=World.block_lt_of_cell? w _ h0
 unfold XcC
 by_cases e1:x.1=ys
 ·have he:(x.1==ys)=true:=by{simp[e1]};have hfin:Zl x (ys,yn,yv)=(x.2.1.toList==yn.toList):=by{rw[Xa7];simp[Zl,e1]};have Hfin:=Xqh hfin;clear hfin e1;go_enter Tryz.func89,Tryz.ntmps89;go_wp2;go_ret;exact⟨XW Hfin.out.symm,Xw _ _⟩
 ·have he:(x.1==ys)=false:=by{simp[e1]};have hfin:Zl x (ys,yn,yv)=false:=by{simp[Zl,e1]};have Hfin:=Xqh hfin;clear hfin e1;go_enter Tryz.func89,Tryz.ntmps89;go_wp2;go_ret;exact⟨XW Hfin.out.symm,Xw _ _⟩
/-- The index of the first that fits, or -1. -/
def Yt {α : Type} (p : α → Bool) (l : List α) : Int := match l.findIdx? p with | some i => (i : Int) | none => -1
theorem Xbc {α:Type}{p:α→Bool}{l:List α}{k:Nat}{x:α}(hx:l[k]?=some x)(hp:p x=true)(hno:∀j y,j<k→l[j]?=some y→p y=false):Yt p l=k:=by
 have hk:k<l.length:=(List.getElem?_eq_some_iff.1 hx).1
 have:l.findIdx? p=some k:=by rw[List.findIdx?_eq_some_iff_getElem];refine⟨hk,?_,fun j hj=>?_⟩;·{have:=(List.getElem?_eq_some_iff.1 hx).2;rw[this];exact hp};·simp[hno j _ hj (List.getElem?_eq_getElem (by omega))]
 simp[Yt,this]
theorem JT {α:Type}{p:α→Bool}{l:List α}(hno:∀(j:Nat)(y:α),l[j]?=some y→p y=false):Yt p l= -1:=by
 have:l.findIdx? p=none:=by rw[List.findIdx?_eq_none_iff];intro x hx;obtain⟨j,hj,rfl⟩:=List.getElem_of_mem hx;simp[hno j _ (List.getElem?_eq_getElem hj)]
 simp[Yt,this]
theorem Xd2 {α:Type}(p:α→Bool)(l:List α):decide (0≤Yt p l)=l.any p:=by
 unfold Yt
 cases h:l.findIdx? p with|none=>{rw[List.findIdx?_eq_none_iff]at h;simp;intro x hx;simpa using h x hx}|some i=>rw[List.findIdx?_eq_some_iff_getElem]at h;obtain⟨hi,hp,_⟩:=h;simp;exact⟨_,List.getElem_mem hi,hp⟩
theorem Xjo (v:Value)(l:List Xm)(xb:Nat)(x:Xm)(w:World)(hv:XE w v l)(h0:w.cell? ⟨xb,0,none⟩=some (.int .i64 x.1))(h1:w.cell? ⟨xb,1,none⟩=some (.string x.2.1)):Calls Tryz.prog 117 #[v,.func (.func 89) #[] #[.pointer (some ⟨xb,0,none⟩)]] w fun e w'=>e= .returned (.int .i64 (Yt (Zl x) l))∧Below w.heap.size w w':=by
 obtain⟨av,cv,rfl,hc1,hc2,hc3⟩:=hv.form
 go_enter Tryz.func117,Tryz.ntmps117
 go_wp2
 go_loopw [8](fun i wr=>∃k:Nat,k≤l.length∧i= .int .i64 k∧Hid (∀j y,j<k→l[j]?=some y→Zl x y=false)∧Below w.heap.size w wr)(fun i _=>l.length-(intOf i).toNat)
 case atStart=>exact⟨0,Nat.zero_le _,rfl,fun j y hj=>by omega,Below.refl _ _⟩
 case round=>obtain⟨k,hk,rfl,hT,hB⟩:=hrel;by_cases hlt:k<l.length;·{obtain⟨b1,o1,rfl,hcs⟩:=hc3 (by omega);obtain⟨y,hy⟩:∃y,l[k]?=some y:=⟨_,List.getElem?_eq_getElem hlt⟩;obtain⟨d0,d1,d2⟩:=hcs k y hy;have d0:=Below.old hB d0;have d1:=Below.old hB d1;have d2:=Below.old hB d2;have g0:=Below.old hB h0;have g1:=Below.old hB h1;have HY:=Xqh hy;clear hc3 hcs hy;cases hp:Zl x y with|true=>{have HP:=Xqh hp;clear hp;go_wp2_with fail;refine(Xge xb x y _ g0 g1).mono ?_;rintro e w1⟨rfl,hB1⟩;rw[HP.out];go_wp2;go_ret;exact⟨Zd (Xbc HY.out HP.out hT.out).symm,Below.Yb hB hB1⟩}|false=>have HP:=Xqh hp;clear hp;go_wp2_with fail;refine(Xge xb x y _ g0 g1).mono ?_;rintro e w1⟨rfl,hB1⟩;rw[HP.out];go_wp2;go_roundw;(case rel=>exact⟨k+1,hlt,by go_num,fun j z hj hz=>by by_cases hjk:j<k;·{exact hT.out j z hjk hz};·have hjk:j=k:=by{omega};rw[hjk,HY.out]at hz;cases hz;exact HP.out,Below.Yb hB hB1⟩);case measure=>simp[intOf];omega};·go_wp2;go_ret;exact⟨Zd (JT (fun j y hj=>hT.out j y (by have:=(List.getElem?_eq_some_iff.1 hj).1;omega) hj)).symm,hB⟩
theorem Xjp (v:Value)(l:List Xm)(xb:Nat)(x:Xm)(w:World)(hv:XE w v l)(h0:w.cell? ⟨xb,0,none⟩=some (.int .i64 x.1))(h1:w.cell? ⟨xb,1,none⟩=some (.string x.2.1)):Calls Tryz.prog 88 #[v,.func (.func 89) #[] #[.pointer (some ⟨xb,0,none⟩)]] w fun e w'=>e= .returned (.bool (l.any (Zl x)))∧Below w.heap.size w w':=by
 go_enter Tryz.func88,Tryz.ntmps88
 go_wp2_with fail
 refine(Xjo v l xb x w hv h0 h1).mono ?_
 rintro e w1⟨rfl,hB1⟩
 go_wp2
 go_ret
 exact⟨XW (Xd2 _ _),hB1⟩
end
section
open Go.RowKit
theorem Xae :(Tryz.prog.info? 120).map (fun i=>(i.zero,i.size,i.bytes))=some (some (.agg #[.int .i64 0,.string ByteArray.empty,.string ByteArray.empty]),3,40):=by
 kernel_rfl
theorem Xaf :(Tryz.prog.info? 3).map (fun i=>(i.zero,i.size,i.bytes))=some (some (.int .i64 0),1,8):=by
 kernel_rfl
theorem Xd3 :∀(l acc:List Xm),(l.foldl Y3 acc).length≤acc.length+l.length
 | [],acc=>by{simp}
 |x::l,acc=>by{have:=Xd3 l (Y3 acc x);have h2:(Y3 acc x).length≤acc.length+1:=by{unfold Y3;split<;>simp};simp only[List.foldl_cons,List.length_cons];omega}
theorem Xd4 {l:List Xm}{k:Nat}{x:Xm}(hx:l[k]?=some x):XZ (l.take (k+1))=Y3 (XZ (l.take k)) x:=by
 have hk:=(List.getElem?_eq_some_iff.1 hx).1
 rw[List.take_succ_eq_append_getElem hk,XZ,List.foldl_append]
 have:=(List.getElem?_eq_some_iff.1 hx).2
 rw[this]
 rfl
theorem Xd5 {w:World}{b:Nat}{v:Value}{l:List Xm}(h:w.ownsRow b 120 3 v l.length (l.flatMap Xv)):XE w v l:=by
 have h':XT w (fun k=>if v.ownBlock=some k then 1 else 0) 1 120 3 v l.length (l.flatMap Xv):=by refine⟨⟨h.1,?_⟩,fun g hg=>by simp[hg]⟩;rcases h.2 with h2|⟨g,cap,cur,h3,_,h4⟩;·{exact .inl h2};·exact .inr ⟨g,cap,cur,h3,Nat.zero_le _,h4⟩
 exact h'.reads
/-- What 'once' hands back. -/
def Xjq (w : World) (l : List Xm) (e : Ending) (w' : World) : Prop :=
  Below w.heap.size w w' ∧ (Ys l → ∃ v, e = .returned (.tuple #[v, .bool true]) ∧ w'.ownsRow w.heap.size 120 3 v (XZ l).length ((XZ l).flatMap Xv)) ∧
    (¬ Ys l → e = .returned (.tuple #[.slice none 0 0, .bool false]))
theorem Xgf (l:List Xm)(x:Xm):(l++ [x]).flatMap Xv=l.flatMap Xv++Xv x:=by
 simp[List.flatMap_append]
theorem XbM (v:Value)(l:List Xm)(w:World)(hv:XE w v l)(hsmall:l.length≤1000000):Calls Tryz.prog 49 #[v] w (Xjq w l):=by
 obtain⟨i0,hi,hz0,hz1,hz2⟩:=info_parts Xae
 obtain⟨av,cv,rfl,hc1,hc2,hc3⟩:=hv.form
 go_enter Tryz.func49,Tryz.ntmps49
 go_wp2
 go_loopw [4,9](fun out i wr=>∃k:Nat,k≤l.length∧i= .int .i64 k∧Hid (Ys (l.take k))∧Hid (wr.ownsRow w.heap.size 120 3 out (XZ (l.take k)).length ((XZ (l.take k)).flatMap Xv))∧Below w.heap.size w wr)(fun _ i _=>l.length-(intOf i).toNat)
 case atStart=>exact⟨0,Nat.zero_le _,rfl,by intro a ha;simp at ha,World.ownsRow_nil _ _ _ _,Below.refl _ _⟩
 case round=>obtain⟨k,hk,rfl,hT,hO,hB⟩:=hrel;by_cases hlt:k<l.length;·{obtain⟨b1,o1,rfl,hcs⟩:=hc3 (by omega);obtain⟨y,hy⟩:∃y,l[k]?=some y:=⟨_,List.getElem?_eq_getElem hlt⟩;obtain⟨d0,d1,d2⟩:=hcs k y hy;have d0:=Below.old hB d0;have d1:=Below.old hB d1;have d2:=Below.old hB d2;have HY:=Xqh hy;clear hc3 hcs hy;have HI:=Xqh hi;clear hi;go_wp2_with fail;refine(XcB _ [y.1] _ (Xf0 _ _ (by simp))).mono ?_;rintro e w1⟨rfl,rfl⟩;by_cases hs:XS y.1;·{have hs1:decide (∀s∈ [y.1],XS s)=true:=by{simp[hs]};have HS:=Xqh hs;clear hs;rw[hs1];go_wp2_with fail;have hsz:=hB.size;have hO1:=(hO.out.alloc (.cells #[.int .i64 y.1,.string y.2.1,.string y.2.2] 120)).alloc (.cells #[.int .i64 y.1] 38);have x0:((wr.alloc (.cells #[.int .i64 y.1,.string y.2.1,.string y.2.2] 120)).alloc (.cells #[.int .i64 y.1] 38)).cell? ⟨wr.heap.size,0,none⟩=some (.int .i64 y.1):=JJ _ (Yi rfl rfl);have x1:((wr.alloc (.cells #[.int .i64 y.1,.string y.2.1,.string y.2.2] 120)).alloc (.cells #[.int .i64 y.1] 38)).cell? ⟨wr.heap.size,1,none⟩=some (.string y.2.1):=JJ _ (Yi rfl rfl);have x2:((wr.alloc (.cells #[.int .i64 y.1,.string y.2.1,.string y.2.2] 120)).alloc (.cells #[.int .i64 y.1] 38)).cell? ⟨wr.heap.size,2,none⟩=some (.string y.2.2):=JJ _ (Yi rfl rfl);refine(Xjp _ _ wr.heap.size y _ (Xd5 hO1) x0 x1).mono ?_;rintro e w2⟨rfl,hB2⟩;have hB2':Below w.heap.size w w2:=((hB.alloc hsz _).alloc (by simp;omega) _).trans (hB2.mono (by simp;omega));have hO2:=Z0 hO1 hB2;have x0:=Below.old hB2 x0;have x1:=Below.old hB2 x1;have x2:=Below.old hB2 x2;have hlen:=Xd3 (l.take k) [];simp only[List.length_nil,Nat.zero_add,List.length_take]at hlen;have hstep:Ys (l.take (k+1)):=by{rw[List.take_succ_eq_append_getElem hlt];intro a ha;rcases List.mem_append.1 ha with ha|ha;·{exact hT.out a ha};·have:=(List.getElem?_eq_some_iff.1 HY.out).2;simp at ha;rw[ha,this];exact HS.out};have HST:=Xqh hstep;clear hstep hO1;have hcl:(XZ (l.take k)).length≤1000000:=by{change(List.foldl Y3 [] _).length≤_;omega};clear hlen;cases ha:(XZ (l.take k)).any (Zl y)with|true=>{have hone:XZ (l.take (k+1))=XZ (l.take k):=by{rw[Xd4 HY.out,Y3,if_pos ha]};have HO2:=Xqh hO2;have HONE:=Xqh hone;clear ha hone hO2;go_wp2;go_roundw;(case rel=>exact⟨k+1,hlt,by go_num,HST.out,by rw[HONE.out];exact HO2.out,hB2'⟩);case measure=>simp[intOf];omega}|false=>have hone:XZ (l.take (k+1))=XZ (l.take k)++ [y]:=by{rw[Xd4 HY.out,Y3,if_neg (by rw[ha];simp)]};have HONE:=Xqh hone;clear ha hone;have hlt2:wr.heap.size<w2.heap.size:=by{have:=hB2.size;simp at this;omega};have hwi:w.heap.size≤w2.heap.size:=hB2'.size;generalize hL:XZ (l.take k)=L at*;have HL:=Xqh hL;clear hL;go_wp2_with(at_builtin;refine wpList_append_own _ rfl _ _ 39 rfl w.heap.size 120 i0 _ 3 40 Tryz.underlying39 HI.out hz0 hz1 hz2 rfl (by decide) _ _ _ rfl (hO2.alloc _) ⟨w2.heap.size,0,none⟩ 1 1 (Xv y) rfl rfl ?c1 ?c2 ?c3 ?c4 ?c5 ?_);(case c1=>intro j u hj;rw[Addr.add_mid,Nat.zero_add];exact Yi rfl (by simpa[Xv]using hj));(case c2=>intro u hu;simp[Xv]at hu;rcases hu with rfl|rfl|rfl<;>rfl);(case c3=>unfold maxLen;omega);(case c4=>omega);(case c5=>simp;omega);intro v' w3 hown hgrow _;have hB3:Below w.heap.size w w3:=(hB2'.alloc hwi _).grown hgrow (by simp;omega) (fun k hk=>(Yx hO2 k hk).1);have hown':w3.ownsRow w.heap.size 120 3 v' (L++ [y]).length ((L++ [y]).flatMap Xv):=by{rw[Xgf,List.length_append];exact hown};have HO3:=Xqh hown';clear hown hown' hgrow hO2;go_wp2;go_roundw;(case rel=>exact⟨k+1,hlt,by go_num,HST.out,by rw[HONE.out];exact HO3.out,hB3⟩);case measure=>simp[intOf];omega};·have hs1:decide (∀s∈ [y.1],XS s)=false:=by{simp[hs]};have HS:=Xqh hs;clear hs;rw[hs1];go_wp2;go_ret2;refine⟨(hB.alloc hB.size _).alloc (by have:=hB.size;simp;omega) _,fun h=>?_,fun _=>rfl⟩;exact absurd (h y (List.mem_of_getElem? HY.out)) HS.out};·go_wp2;go_ret2;have hkl:l.take k=l:=List.take_of_length_le (by omega);have h1:=hT.out;have h2:=hO.out;rw[hkl]at h1 h2;exact⟨hB,fun _=>⟨_,rfl,h2⟩,fun h=>absurd h1 h⟩
end
section
open Go.RowKit
theorem Xjr :(Tryz.prog.info? 74).map (fun i=>(i.zero,i.size,i.bytes))=some (some (.agg #[.int .i64 0,.int .i64 0,.slice none 0 0,.int .i64 0,.int .i64 0,.string ByteArray.empty,.slice none 0 0,.string ByteArray.empty,.string ByteArray.empty,.string ByteArray.empty,.bool false,.int .i64 0,.int .i64 0]),13,168):=by
 kernel_rfl
theorem JU (n:Nd)(kv av:Value)(hk:kv.oneCell'=true)(ha:av.oneCell'=true):∀u∈n.cells kv av,u.oneCell'=true:=by
 intro u hu
 simp only[Nd.cells,List.mem_cons,List.not_mem_nil,or_false]at hu
 rcases hu with rfl|rfl|rfl|rfl|rfl|rfl|rfl|rfl|rfl|rfl|rfl|rfl|rfl<;>first|(rfl)|assumption
/-- What a call leaves that adds a node. -/
def Yk (A' : Ar) (ρ : Nat → Nat) (b : Nat) (w : World) (v : Value) (e : Ending) (w' : World) : Prop := e = .returned v ∧ ∃ ρ', Xz w' ρ' b A' ∧ Xr ρ ρ' w w'
theorem XbN (A:Ar)(ρ:Nat→Nat)(b:Nat)(n:Nd)(aa:Option Addr)(ac:Nat)(w:World)(hA:Xz w ρ b A)(hsmall:A.ns.length≤1000000)(hkids:n.Xc= [])(hav:XT w ρ (2*A.ns.length+5) 120 3 (.slice aa n.Xb.length ac) n.Xb.length (n.Xb.flatMap Xv)):Calls Tryz.prog 47 #[.pointer (some ⟨b,0,none⟩),.agg (n.cells (.slice none 0 0) (.slice aa n.Xb.length ac)).toArray] w (Yk (A.add n) ρ b w (.int .i64 (A.n+1))):=by
 obtain⟨i0,hi,hz0,hz1,hz2⟩:=info_parts Xjr
 obtain⟨h1,h2,h3,nv,mv,h4,⟨rows,hN1,hN2,hN3⟩,h6⟩:=hA
 obtain⟨hown,hrole⟩:=hN1
 have hlt:=lt_of_block h4
 have hne:some b≠nv.ownBlock:=fun h=>by have:=hrole b h.symm;omega
 have c0:w.cell? ⟨b,0,none⟩=some nv:=by rw[cell_of_row w b _ _ _ _ h4];rfl
 have f0:w.frozen? ⟨b,0,none⟩=false:=frozen_of_row w b _ _ _ h4
 have hone:=JU n (.slice none 0 0) (.slice aa n.Xb.length ac) rfl rfl
 have hfrom:∀(W:World),W.heap[w.heap.size+1]?=some (.cells (n.cells (.slice none 0 0) (.slice aa n.Xb.length ac)).toArray 74 (0,0))→∀(j:Nat)(u:Value),(n.cells (.slice none 0 0) (.slice aa n.Xb.length ac))[j]?=some u→W.cell? ((⟨w.heap.size+1,0,none⟩:Addr).add j)=some u:=by intro W hW j u hu;rw[Addr.add_mid,Nat.zero_add,cell_of_row W _ _ _ _ _ hW];simpa using hu
 have HFROM:=Xqh hfrom
 have HONE:=Xqh hone
 have HOWN:=Xqh hown
 have HI:=Xqh hi
 have hend:∀(w1 w':World)(gg cap:Nat),(w.alloc (.cells (n.cells (.slice none 0 0) (.slice aa n.Xb.length ac)).toArray 41)).heap.size=w.heap.size+1→w1.ownsRow 0 74 13 (.slice (some ⟨gg,0,none⟩) (A.ns.length+1) cap) (A.ns.length+1) (rows.flatten++n.cells (.slice none 0 0) (.slice aa n.Xb.length ac))→(((w.alloc (.cells (n.cells (.slice none 0 0) (.slice aa n.Xb.length ac)).toArray 41)).alloc (.cells (n.cells (.slice none 0 0) (.slice aa n.Xb.length ac)).toArray 74)).drew).grownBy w1 nv.ownBlock→(nv.ownBlock=some gg∨gg=w.heap.size+2)→gg<w1.heap.size→w'.heap=(w1.setCell ⟨b,0,none⟩ (.slice (some ⟨gg,0,none⟩) (A.ns.length+1) cap)).heap→w'.os=w1.os→w'.tape=w1.tape→w'.output=w1.output→∃ρ',Xz w' ρ' b (A.add n)∧Xr ρ ρ' w w':=by intro w1 w' gg cap _ ho hg hat hl q1 q2 q3 q4;refine Xz.added h1 h2 h3 h4 hrole hN2 hN3 h6 hkids hav ?_ ho (hat.imp id (fun h=>by omega)) hl q1 q2 q3 q4;exact((((Upd.refl _ w).alloc _).alloc _).drew).trans (Upd.grown hg (fun k hk=>hk))
 have HEND:=Xqh hend
 clear hend hfrom hone hN2 hN3 hrole h6 h1 h2 h3 hown hi hkids hav
 unfold Nd.cells
 go_enter Tryz.func47,Tryz.ntmps47
 go_wp2_with fail
 go_region_law(first|(refine step_append_lies _ (by rfl) _ _ 70 (by rfl) 0 74 i0 _ 13 168 Tryz.underlying70 HI.out hz0 hz1 hz2 rfl (by omega) nv A.ns.length rows.flatten (by rfl) ?_ ⟨w.heap.size+1,0,none⟩ 1 1 (n.cells (.slice none 0 0) (.slice aa n.Xb.length ac)) (by rfl) (by rfl) (HFROM.out _ (heap_alloc2_new w _ _)) HONE.out (by omega) (by unfold maxLen;omega) (by omega) (by omega) (w.heap.size+2) (by simp) ?_;·{exact((HOWN.out.alloc _).alloc _).drew};intro gg cap w1 hown1 hgrow hat hlt1;have gb:w1.heap[b]?=some (.cells #[nv,mv] 72 (0,0)):=(hgrow.block b (by simp;omega) hne).trans ((Below.heap_alloc _ _ b (by simp;omega)).trans ((Below.heap_alloc _ _ b hlt).trans h4));have g0:w1.cell? ⟨b,0,none⟩=some nv:=by{rw[cell_of_row w1 b _ _ _ _ gb];rfl};have gf:w1.frozen? ⟨b,0,none⟩=false:=frozen_of_row w1 b _ _ _ gb))
 all_goals have hs0:=hgrow.size;simp at hs0;go_wp2;go_ret;refine⟨Zd (by simp[Ar.n]),HEND.out w1 _ gg cap (by simp) hown1 hgrow hat hlt1 rfl rfl rfl rfl⟩
end
section
open Go.RowKit
theorem Xbd {A:Ar}(n:Nd):(A.add n).has (A.n+1):=by
 simp[Ar.has,Ar.n,Ar.add]
 omega
theorem add_get {A:Ar}(n:Nd):(A.add n).get (A.n+1)=n:=by
 simp[Ar.get,Ar.add,Ar.n]
theorem add_mod {A:Ar}(n:Nd)(f:Nd→Nd):(A.add n).mod (A.n+1) f=A.add (f n):=by
 have h:(A.n+1).toNat-1=A.ns.length:=by unfold Ar.n;omega
 simp only[Ar.mod,Ar.add,h]
 congr 1
 apply List.ext_getElem?
 intro i
 rw[List.getElem?_modify,List.getElem?_append,List.getElem?_append]
 by_cases hi:i<A.ns.length
 ·have hne:A.ns.length≠i:=by{omega};rw[if_pos hi,if_pos hi];simp[hne]
 ·rw[if_neg hi,if_neg hi];by_cases hi2:i=A.ns.length;·{subst hi2;simp};·have:i-A.ns.length≠0:=by{omega};rw[List.getElem?_singleton,List.getElem?_singleton];simp[this]
theorem Xd6 (w:World)(ρ:Nat→Nat)(r:Nat):XT w ρ r 120 3 (.slice none (List.length (α:=Xm) []) 0) (List.length (α:=Xm) []) (([]:List Xm).flatMap Xv):=⟨World.ownsRow_nil _ _ _ _,fun g hg=>by simp[Value.ownBlock]at hg⟩
theorem XbO (A:Ar)(ρ:Nat→Nat)(b:Nat)(q:Bool)(w:World)(hA:Xz w ρ b A)(hsmall:A.ns.length≤1000000):Calls Tryz.prog 19 #[.pointer (some ⟨b,0,none⟩),.bool q] w (Yk (A.Xn q) ρ b w (.int .i64 (A.n+1))):=by
 have hc:=XbN A ρ b {XL with Xa:=1,XI:=q} none 0 w hA hsmall rfl (Xd6 _ _ _)
 have HC:=Xqh hc
 clear hc
 go_enter Tryz.func19,Tryz.ntmps19
 go_wp2_with fail
 refine HC.out.mono ?_
 rintro e w1⟨rfl,ρ',hA1,hT⟩
 obtain⟨a1,c1,mv1,h01,-,hf1,hlt1,hm1,hN1⟩:=hA1.head
 obtain⟨nb,rfl,hr1,hnb,hfn,hNx⟩:=hN1 (by simp[Ar.add])
 obtain⟨kv,av,F,-,-⟩:=hNx _ (Xbd _)
 have hlen:((A.add {XL with Xa:=1,XI:=q}).ns.length:Int)=A.n+1:=by simp[Ar.add,Ar.n]
 have hp:1≤A.n+1:=by unfold Ar.n;omega
 have HL:=Xqh hlen
 clear hlen
 go_wp2_with fail
 refine(XY b nb _ c1 (A.n+1) _ h01 hp (by rw[HL.out];exact Int.le_refl _) hm1).mono ?_
 rintro e w2⟨rfl,rfl⟩
 have c3:=F.c3
 have f3:=hfn (((A.n+1).toNat-1)*13+3)
 generalize ho:((A.n+1).toNat-1)*13=o at*
 have HO:=Xqh ho
 clear ho
 go_wp2
 go_ret
 refine⟨rfl,ρ',?_,hT.trans ⟨(Upd.refl _ _).setCell (.inr (by dsimp only;omega)) _,fun _ _=>rfl⟩⟩
 have:=hA1.store (x:=A.n+1) (f:=fun n=>{n with doc:=A.n+1}) (j:=3) (v:= .int .i64 (A.n+1)) (Xbd _) h01 (Upd.refl _ _) (fun _ _=>rfl) hA1.1 (by omega) (fun kv av hk ha _ _=>⟨kv,av,rfl,hk,ha⟩)
 rw[HO.out]at this
 rw[add_mod]at this
 exact this
/-- The result of a call that hands back a handle and an error. -/
def Xl (r : Int × Int) : Value := .tuple #[.int .i64 r.1, .int .i64 r.2]
theorem XcD (A:Ar)(ρ:Nat→Nat)(b:Nat)(d:Int)(n:Nd)(w:World)(hA:Xz w ρ b A)(hsmall:A.ns.length≤1000000)(hk:n.Xc= [])(ha:n.Xb= []):Calls Tryz.prog 53 #[.pointer (some ⟨b,0,none⟩),.int .i64 d,.agg (n.cells (.slice none 0 0) (.slice none 0 0)).toArray] w (Yk (A.make d n).2 ρ b w (Xl (A.make d n).1)):=by
 obtain⟨nkind,nparent,nkids,ndoc,nspace,nname,nattrs,ndata,npub,nsys,nquirks,ncontents,nhost⟩:=n
 dsimp only at hk ha
 subst hk
 subst ha
 generalize hnn:(⟨nkind,nparent,[],ndoc,nspace,nname,[],ndata,npub,nsys,nquirks,ncontents,nhost⟩:Nd)=n
 have hfin:A.make d n=if A.XA d≠0 then((0,A.XA d),A)else((A.n+1,0),A.add {n with doc:=d}):=rfl
 have HF:=Xqh hfin
 clear hfin
 have hd:=XcA A ρ b d (w.alloc (.cells (n.cells (.slice none 0 0) (.slice none 0 0)).toArray 41)) (hA.below (Xw _ _))
 have HD:=Xqh hd
 clear hd
 have hbox:∀j v,(n.cells (.slice none 0 0) (.slice none 0 0))[j]?=some v→(w.alloc (.cells (n.cells (.slice none 0 0) (.slice none 0 0)).toArray 41)).cell? ⟨w.heap.size,j,none⟩=some v:=fun j v hv=>Yi rfl (by simpa using hv)
 have b0:=hbox 0 _ rfl
 have b1:=hbox 1 _ rfl
 have b2:=hbox 2 _ rfl
 have b3:=hbox 3 _ rfl
 have b4:=hbox 4 _ rfl
 have b5:=hbox 5 _ rfl
 have b6:=hbox 6 _ rfl
 have b7:=hbox 7 _ rfl
 have b8:=hbox 8 _ rfl
 have b9:=hbox 9 _ rfl
 have b10:=hbox 10 _ rfl
 have b11:=hbox 11 _ rfl
 have b12:=hbox 12 _ rfl
 have bf:∀j,(w.alloc (.cells (n.cells (.slice none 0 0) (.slice none 0 0)).toArray 41)).frozen? ⟨w.heap.size,j,none⟩=false:=fun j=>frozen_of_row _ _ j _ _ (heap_alloc_new w _)
 have bf3:=bf 3
 clear hbox bf
 have hA0:=hA.below (Xw w (.cells (n.cells (.slice none 0 0) (.slice none 0 0)).toArray 41))
 have hB0:=Xw w (.cells (n.cells (.slice none 0 0) (.slice none 0 0)).toArray 41)
 have hsz0:(w.alloc (.cells (n.cells (.slice none 0 0) (.slice none 0 0)).toArray 41)).heap.size=w.heap.size+1:=by simp
 unfold Nd.cells at*
 go_enter Tryz.func53,Tryz.ntmps53
 go_wp2_with fail
 generalize hw0:w.alloc _=w0 at*
 refine HD.out.mono ?_
 rintro e w1⟨rfl,hB⟩
 have hHW:=Xqh hw0
 have hHS:=Xqh hsz0
 clear hw0 hsz0
 by_cases he:A.XA d=0
 ·have he1:(A.XA d !=0)=false:=by{simp[he]};have HE:=Xqh he;rw[he];clear he;have c0:=Below.old hB b0;have c1:=Below.old hB b1;have c2:=Below.old hB b2;have c3:=Below.old hB b3;have c4:=Below.old hB b4;have c5:=Below.old hB b5;have c6:=Below.old hB b6;have c7:=Below.old hB b7;have c8:=Below.old hB b8;have c9:=Below.old hB b9;have c10:=Below.old hB b10;have c11:=Below.old hB b11;have c12:=Below.old hB b12;have cf3:w1.frozen? ⟨w.heap.size,3,none⟩=false:=(Below.frozen hB (by have:=hHS.out;dsimp only;omega)).trans bf3;clear b0 b1 b2 b3 b4 b5 b6 b7 b8 b9 b10 b11 b12 bf3 he1;go_wp2_with fail;have hb1:w.heap.size≠b:=by{have:=hA.head;obtain⟨_,_,_,_,_,_,hl,_⟩:=this;omega};have hU1:Upd (fun k=>k=w.heap.size) w1 (w1.setCell ⟨w.heap.size,3,none⟩ (.int .i64 d)):=(Upd.refl (fun k=>k=w.heap.size) w1).setCell (p:=⟨w.heap.size,3,none⟩) (.inr rfl) _;have hA2:Xz (w1.setCell ⟨w.heap.size,3,none⟩ (.int .i64 d)) ρ b A:=(hA0.below hB).upd hU1 (fun k hk e=>by have:=hA.1 k hk;omega);have hT2:Xr ρ ρ w (w1.setCell ⟨w.heap.size,3,none⟩ (.int .i64 d)):=by{refine Xr.below (Below.trans (hB0.trans (hB.mono (by have:=hHS.out;omega))) ?_);exact(Below.refl _ _).setCell (by dsimp only;omega) _};subst hnn;have hadd:=XbN A ρ b ⟨nkind,nparent,[],d,nspace,nname,[],ndata,npub,nsys,nquirks,ncontents,nhost⟩ none 0 _ hA2 hsmall rfl (Xd6 _ _ _);refine hadd.mono ?_;rintro e w3⟨rfl,ρ',hA3,hT3⟩;go_wp2;go_ret2;have hz:A.make d ⟨nkind,nparent,[],ndoc,nspace,nname,[],ndata,npub,nsys,nquirks,ncontents,nhost⟩=((A.n+1,0),A.add ⟨nkind,nparent,[],d,nspace,nname,[],ndata,npub,nsys,nquirks,ncontents,nhost⟩):=by{rw[HF.out,if_neg (fun h=>h HE.out)]};rw[hz];exact⟨rfl,ρ',hA3,hT2.trans hT3⟩
 ·have he1:(A.XA d !=0)=true:=by{simp[he]};go_wp2;go_ret2;have hz:A.make d n=((0,A.XA d),A):=by{rw[HF.out,if_pos he]};rw[hz];exact⟨rfl,ρ,hA0.below hB,Xr.below (hB0.trans (hB.mono (by have:=hHS.out;omega)))⟩
def YT (name pub sys : ByteArray) : Nd := { XL with Xa := 3, name := name, pub := pub, sys := sys }
def Xs (s : ByteArray) : Nd := { XL with Xa := 5, data := s }
def YZ (s : ByteArray) : Nd := { XL with Xa := 6, data := s }
def Zm : Nd := { XL with Xa := 2 }
theorem XcE (A:Ar)(ρ:Nat→Nat)(b:Nat)(d:Int)(name pub sys:ByteArray)(w:World)(hA:Xz w ρ b A)(hsmall:A.ns.length≤1000000):Calls Tryz.prog 22 #[.pointer (some ⟨b,0,none⟩),.int .i64 d,.string name,.string pub,.string sys] w (Yk (A.make d (YT name pub sys)).2 ρ b w (Xl (A.make d (YT name pub sys)).1)):=by
 have HC:=Xqh (XcD A ρ b d (YT name pub sys) w hA hsmall rfl rfl)
 go_enter Tryz.func22,Tryz.ntmps22
 go_wp2_with fail
 refine HC.out.mono ?_
 rintro e w1⟨rfl,hR⟩
 unfold Xl
 go_wp2
 go_ret2
 exact⟨rfl,hR⟩
theorem Xbe (A:Ar)(ρ:Nat→Nat)(b:Nat)(d:Int)(s:ByteArray)(w:World)(hA:Xz w ρ b A)(hsmall:A.ns.length≤1000000):Calls Tryz.prog 21 #[.pointer (some ⟨b,0,none⟩),.int .i64 d,.string s] w (Yk (A.make d (Xs s)).2 ρ b w (Xl (A.make d (Xs s)).1)):=by
 have HC:=Xqh (XcD A ρ b d (Xs s) w hA hsmall rfl rfl)
 go_enter Tryz.func21,Tryz.ntmps21
 go_wp2_with fail
 refine HC.out.mono ?_
 rintro e w1⟨rfl,hR⟩
 unfold Xl
 go_wp2
 go_ret2
 exact⟨rfl,hR⟩
theorem Xd7 (A:Ar)(ρ:Nat→Nat)(b:Nat)(d:Int)(s:ByteArray)(w:World)(hA:Xz w ρ b A)(hsmall:A.ns.length≤1000000):Calls Tryz.prog 108 #[.pointer (some ⟨b,0,none⟩),.int .i64 d,.string s] w (Yk (A.make d (YZ s)).2 ρ b w (Xl (A.make d (YZ s)).1)):=by
 have HC:=Xqh (XcD A ρ b d (YZ s) w hA hsmall rfl rfl)
 go_enter Tryz.func108,Tryz.ntmps108
 go_wp2_with fail
 refine HC.out.mono ?_
 rintro e w1⟨rfl,hR⟩
 unfold Xl
 go_wp2
 go_ret2
 exact⟨rfl,hR⟩
theorem XcF (A:Ar)(ρ:Nat→Nat)(b:Nat)(d:Int)(w:World)(hA:Xz w ρ b A)(hsmall:A.ns.length≤1000000):Calls Tryz.prog 23 #[.pointer (some ⟨b,0,none⟩),.int .i64 d] w (Yk (A.make d Zm).2 ρ b w (Xl (A.make d Zm).1)):=by
 have HC:=Xqh (XcD A ρ b d Zm w hA hsmall rfl rfl)
 go_enter Tryz.func23,Tryz.ntmps23
 go_wp2_with fail
 refine HC.out.mono ?_
 rintro e w1⟨rfl,hR⟩
 unfold Xl
 go_wp2
 go_ret2
 exact⟨rfl,hR⟩
end
section
open Go.RowKit
theorem JV {A:Ar}{d:Int}(h:A.XA d=0):A.has d:=by
 unfold Ar.XA at h
 by_cases hh:A.has d
 ·exact hh
 ·rw[if_pos hh]at h;exact absurd h (by decide)
theorem Xd8 {A:Ar}{d:Int}(h:A.XA d=0):(A.get d).Xa=1:=by
 have hh:=JV h
 unfold Ar.XA at h
 rw[if_neg (fun hn=>hn hh)]at h
 by_cases hk:(A.get d).Xa=1
 ·exact hk
 ·rw[if_pos hk]at h;exact absurd h (by decide)
theorem Xz.field {w:World}{ρ:Nat→Nat}{b:Nat}{A:Ar}{x:Int}{f:Nd→Nd}{j nb c o:Nat}{v:Value}(hA:Xz w ρ b A)(hx:A.has x)(hc0:w.cell? ⟨b,0,none⟩=some (.slice (some ⟨nb,0,none⟩) A.ns.length c))(ho:o=(x.toNat-1)*13)(hj:j<13)(hf:∀kv av,(f (A.get x)).cells kv av=((A.get x).cells kv av).set j v)(hk:(f (A.get x)).Xc=(A.get x).Xc)(ha:(f (A.get x)).Xb=(A.get x).Xb):Xz (w.setCell ⟨nb,o+j,none⟩ v) ρ b (A.mod x f):=by
 subst ho
 exact hA.store hx hc0 (Upd.refl _ _) (fun _ _=>rfl) hA.1 hj (fun kv av h1 h2 _ _=>⟨kv,av,(hf kv av).symm,by rw[hk];exact h1,by rw[ha];exact h2⟩)
theorem Xr.set {w:World}{ρ:Nat→Nat}{a:Addr}(h:ρ a.block≠0)(v:Value):Xr ρ ρ w (w.setCell a v):=⟨(Upd.refl (fun k=>ρ k≠0) w).setCell (.inr h) v,fun _ _=>rfl⟩
theorem Xjs (A:Ar)(ρ:Nat→Nat)(b:Nat)(h:Int)(q:Bool)(w:World)(hA:Xz w ρ b A):Calls Tryz.prog 109 #[.pointer (some ⟨b,0,none⟩),.int .i64 h,.bool q] w (Yk (A.YQ h q).2 ρ b w (.int .i64 (A.YQ h q).1)):=by
 have HD:=Xqh (XcA A ρ b h w hA)
 by_cases he:A.XA h=0
 ·have hh:=JV he;have hfin:A.YQ h q=(0,A.mod h (fun x=>{x with XI:=q})):=by{simp[Ar.YQ,hh,Xd8 he]};rw[hfin];go_enter Tryz.func109,Tryz.ntmps109;go_wp2_with fail;refine HD.out.mono ?_;rintro e w1⟨rfl,hB⟩;rw[he];have hA1:=hA.below hB;obtain⟨a1,c1,mv1,h01,-,hf1,hlt1,hm1,hN1⟩:=hA1.head;have hp:=hh.1;have hq:=hh.2;unfold Ar.n at hq;obtain⟨nb,rfl,hr1,hnb,hfn,hNx⟩:=hN1 (by omega);obtain⟨kv,av,F,-,-⟩:=hNx h hh;have c10:=F.c10;have f10:=hfn ((h.toNat-1)*13+10);go_wp2_with fail;refine(XY b nb _ c1 h _ h01 hp hq hm1).mono ?_;rintro e w2⟨rfl,rfl⟩;generalize ho:(h.toNat-1)*13=o at*;have HO:=Xqh ho;clear ho;go_wp2;go_ret;exact⟨rfl,ρ,hA1.field hh h01 HO.out.symm (j:=10) (by omega) (fun _ _=>rfl) rfl rfl,(Xr.below hB).trans (Xr.set (by dsimp only;omega) _)⟩
 ·have hfin:A.YQ h q=(A.XA h,A):=by{unfold Ar.XA at he⊢;unfold Ar.YQ;by_cases hh:A.has h;·{simp only[hh,not_true_eq_false,if_false]at he⊢;by_cases hk:(A.get h).Xa=1;·{simp[hk]at he};·simp[hk]};·simp[hh]};have he1:(A.XA h !=0)=true:=by{simp[he]};rw[hfin];go_enter Tryz.func109,Tryz.ntmps109;go_wp2_with fail;refine HD.out.mono ?_;rintro e w1⟨rfl,hB⟩;go_wp2;go_ret;exact⟨rfl,ρ,hA.below hB,Xr.below hB⟩
theorem XcG (A:Ar)(ρ:Nat→Nat)(b:Nat)(h:Int)(s:ByteArray)(w:World)(hA:Xz w ρ b A):Calls Tryz.prog 58 #[.pointer (some ⟨b,0,none⟩),.int .i64 h,.string s] w (Yk (A.XG h s).2 ρ b w (.int .i64 (A.XG h s).1)):=by
 obtain⟨a,c,mv,h0,h1,hf,hlt,hm,hN⟩:=hA.head
 have hA0:=hA.below (Xw w (.cells #[.int .i64 h] 3))
 have h0':=Below.old (Xw w (.cells #[.int .i64 h] 3)) h0
 have hB0:=Xw w (.cells #[.int .i64 h] 3)
 by_cases hh:A.has h
 ·have hp:=hh.1;have hq:=hh.2;unfold Ar.n at hq;obtain⟨nb,rfl,hr,hnb,hfn,hNx⟩:=hN (by omega);obtain⟨kv,av,F,-,-⟩:=hNx h hh;have c0:=Below.old hB0 F.c0;have c7:=Below.old hB0 F.c7;have f7:(w.alloc (.cells #[.int .i64 h] 3)).frozen? ⟨nb,(h.toNat-1)*13+7,none⟩=false:=(Below.frozen hB0 hnb).trans (hfn _);have hck:Yc A [h]=0:=by{simp[Yc,hh]};by_cases hk:(A.get h).Xa=5∨(A.get h).Xa=6;·{have hfin:A.XG h s=(0,A.mod h (fun x=>{x with data:=s})):=by{simp[Ar.XG,hh,hk]};rw[hfin];have HR:Xz ((w.alloc (.cells #[.int .i64 h] 3)).setCell ⟨nb,(h.toNat-1)*13+7,none⟩ (.string s)) ρ b (A.mod h (fun x=>{x with data:=s})):=hA0.field hh h0' rfl (j:=7) (by omega) (fun _ _=>rfl) rfl rfl;have HT:Xr ρ ρ w ((w.alloc (.cells #[.int .i64 h] 3)).setCell ⟨nb,(h.toNat-1)*13+7,none⟩ (.string s)):=(Xr.below hB0).trans (Xr.set (by dsimp only;omega) _);rw[World.setCell_alloc_past _ _ _ _ hnb]at HR HT;have HE:=Xqh (And.intro HR HT);clear HR HT hfin F hNx hN hfn;generalize ho:(h.toNat-1)*13=o at*;have HO:=Xqh ho;clear ho;rcases hk with hk|hk;all_goals rw[hk]at c0;clear hk;go_enter Tryz.func58,Tryz.ntmps58;go_wp2_with fail;refine(YH A b _ c _ [h] _ h0' (ZQ _ _ _)).mono ?_;rintro e w'⟨rfl,rfl⟩;rw[hck];go_wp2_with fail;refine(XY b nb _ c h _ h0' hp hq hm).mono ?_;rintro e w2⟨rfl,rfl⟩;rw[HO.out];go_wp2;go_ret;exact⟨rfl,ρ,HE.out.1,HE.out.2⟩};·have hfin:A.XG h s=(9,A):=by{simp[Ar.XG,hh,hk]};rw[hfin];have k1:((A.get h).Xa !=5)=true:=by{simp;exact fun e=>hk (.inl e)};have k2:((A.get h).Xa !=6)=true:=by{simp;exact fun e=>hk (.inr e)};clear hfin hk F hNx hN hfn c7 f7;go_enter Tryz.func58,Tryz.ntmps58;go_wp2_with fail;refine(YH A b _ c _ [h] _ h0' (ZQ _ _ _)).mono ?_;rintro e w'⟨rfl,rfl⟩;rw[hck];go_wp2_with fail;refine(XY b nb _ c h _ h0' hp hq hm).mono ?_;rintro e w2⟨rfl,rfl⟩;go_wp2;go_ret;exact⟨rfl,ρ,hA0,Xr.below hB0⟩
 ·have hfin:A.XG h s=(3,A):=by{simp[Ar.XG,hh]};have hck:Yc A [h]=3:=by{simp[Yc,hh]};rw[hfin];clear hfin hN hh;go_enter Tryz.func58,Tryz.ntmps58;go_wp2_with fail;refine(YH A b _ c _ [h] _ h0' (ZQ _ _ _)).mono ?_;rintro e w'⟨rfl,rfl⟩;rw[hck];go_wp2;go_ret;exact⟨rfl,ρ,hA0,Xr.below hB0⟩
theorem Xgg (A:Ar)(ρ:Nat→Nat)(b:Nat)(h d:Int)(w:World)(hA:Xz w ρ b A):Calls Tryz.prog 83 #[.pointer (some ⟨b,0,none⟩),.int .i64 h,.int .i64 d] w (Yk (A.Xt h d).2 ρ b w (.int .i64 (A.Xt h d).1)):=by
 obtain⟨a,c,mv,h0,h1,hf,hlt,hm,hN⟩:=hA.head
 have hA0:=hA.below (Xw w (.cells #[.int .i64 h,.int .i64 d] 3))
 have h0':=Below.old (Xw w (.cells #[.int .i64 h,.int .i64 d] 3)) h0
 have hB0:=Xw w (.cells #[.int .i64 h,.int .i64 d] 3)
 by_cases hh:A.has h∧A.has d
 ·obtain⟨hh,hd⟩:=hh;have hp:=hh.1;have hq:=hh.2;have hp2:=hd.1;have hq2:=hd.2;unfold Ar.n at hq hq2;obtain⟨nb,rfl,hr,hnb,hfn,hNx⟩:=hN (by omega);obtain⟨kv,av,F,-,-⟩:=hNx h hh;obtain⟨kv2,av2,F2,-,-⟩:=hNx d hd;have c0:=Below.old hB0 F.c0;have c3:=Below.old hB0 F.c3;have d0:=Below.old hB0 F2.c0;have f3:(w.alloc (.cells #[.int .i64 h,.int .i64 d] 3)).frozen? ⟨nb,(h.toNat-1)*13+3,none⟩=false:=(Below.frozen hB0 hnb).trans (hfn _);have hck:Yc A [h,d]=0:=by{simp[Yc,hh,hd]};generalize hw0:w.alloc _=w0 at*;by_cases hk:(A.get h).Xa=1;·{have hfin:A.Xt h d=(9,A):=by{simp[Ar.Xt,hh,hd,hk]};rw[hfin];have k1:((A.get h).Xa==1)=true:=by{simp[hk]};have HW:=Xqh hw0;clear hfin hk F hNx hN hfn c3 f3 F2 hw0;go_enter Tryz.func83,Tryz.ntmps83;go_wp2_with fail;rw[HW.out];refine(YH A b _ c _ [h,d] _ h0' (by rw[←HW.out];exact ZR _ _ _ _)).mono ?_;rintro e w'⟨rfl,rfl⟩;rw[hck];go_wp2_with fail;refine(XY b nb _ c h _ h0' hp hq hm).mono ?_;rintro e w2⟨rfl,rfl⟩;go_wp2;go_ret;exact⟨rfl,ρ,hA0,Xr.below hB0⟩};·have k1:((A.get h).Xa==1)=false:=by{simp[hk]};by_cases hk2:(A.get d).Xa=1;·{have hfin:A.Xt h d=(0,A.mod h (fun x=>{x with doc:=d})):=by{simp[Ar.Xt,hh,hd,hk,hk2]};rw[hfin];have k2:((A.get d).Xa !=1)=false:=by{simp[hk2]};have HR:Xz (w0.setCell ⟨nb,(h.toNat-1)*13+3,none⟩ (.int .i64 d)) ρ b (A.mod h (fun x=>{x with doc:=d})):=hA0.field hh h0' rfl (j:=3) (by omega) (fun _ _=>rfl) rfl rfl;have HT:Xr ρ ρ w (w0.setCell ⟨nb,(h.toNat-1)*13+3,none⟩ (.int .i64 d)):=(Xr.below hB0).trans (Xr.set (by dsimp only;omega) _);have HE:=Xqh (And.intro HR HT);have HW:=Xqh hw0;clear hfin hk hk2 F hNx hN hfn F2 HR HT hw0;go_enter Tryz.func83,Tryz.ntmps83;go_wp2_with fail;rw[HW.out];refine(YH A b _ c _ [h,d] _ h0' (by rw[←HW.out];exact ZR _ _ _ _)).mono ?_;rintro e w'⟨rfl,rfl⟩;rw[hck];go_wp2_with fail;refine(XY b nb _ c h _ h0' hp hq hm).mono ?_;rintro e w2⟨rfl,rfl⟩;go_wp2_with fail;refine(XY b nb _ c d _ h0' hp2 hq2 hm).mono ?_;rintro e w2⟨rfl,rfl⟩;go_wp2_with fail;refine(XY b nb _ c h _ h0' hp hq hm).mono ?_;rintro e w2⟨rfl,rfl⟩;go_wp2;go_ret;exact⟨rfl,ρ,HE.out.1,HE.out.2⟩};·have hfin:A.Xt h d=(9,A):=by{simp[Ar.Xt,hh,hd,hk2]};rw[hfin];have k2:((A.get d).Xa !=1)=true:=by{simp[hk2]};have HW:=Xqh hw0;clear hfin hk hk2 F hNx hN hfn F2 c3 f3 hw0;go_enter Tryz.func83,Tryz.ntmps83;go_wp2_with fail;rw[HW.out];refine(YH A b _ c _ [h,d] _ h0' (by rw[←HW.out];exact ZR _ _ _ _)).mono ?_;rintro e w'⟨rfl,rfl⟩;rw[hck];go_wp2_with fail;refine(XY b nb _ c h _ h0' hp hq hm).mono ?_;rintro e w2⟨rfl,rfl⟩;go_wp2_with fail;refine(XY b nb _ c d _ h0' hp2 hq2 hm).mono ?_;rintro e w2⟨rfl,rfl⟩;go_wp2;go_ret;exact⟨rfl,ρ,hA0,Xr.below hB0⟩
 ·have hfin:A.Xt h d=(3,A):=by{have:¬A.has h∨¬A.has d:=by{by_cases q:A.has h;·{exact .inr (fun r=>hh ⟨q,r⟩)};·exact .inl q};simp[Ar.Xt,this]};have hck:Yc A [h,d]=3:=by{simp[Yc];exact fun q r=>hh ⟨q,r⟩};rw[hfin];clear hfin hN hh;go_enter Tryz.func83,Tryz.ntmps83;go_wp2_with fail;refine(YH A b _ c _ [h,d] _ h0' (ZR _ _ _ _)).mono ?_;rintro e w'⟨rfl,rfl⟩;rw[hck];go_wp2;go_ret;exact⟨rfl,ρ,hA0,Xr.below hB0⟩
theorem Xd9 {w w1:World}{ρ:Nat→Nat}{b:Nat}{A:Ar}{v:Value}{e:TypeId}{size n r:Nat}{xs:List Value}(hA:Xz w ρ b A)(hB:Below w.heap.size w w1)(ho:w1.ownsRow w.heap.size e size v n xs):∃ρ',Xz w1 ρ' b A∧(∀k,k<w.heap.size→ρ' k=ρ k)∧XT w1 ρ' r e size v n xs∧∀k,ρ' k≠0→k<w1.heap.size:=by
 have hA1:=hA.below hB
 cases hv:v.ownBlock with|none=>{exact⟨ρ,hA1,fun _ _=>rfl,⟨YP ho (Nat.zero_le _),fun g hg=>by rw[hv]at hg;cases hg⟩,hA1.1⟩}|some g=>obtain⟨h1,h2⟩:=Yx ho g hv;have h0:ρ g=0:=by{by_cases h:ρ g=0;·{exact h};·have:=hA.1 g h;omega};have hn:=hA1.XdS g r h0 h2;exact⟨_,hn,fun k hk=>by rw[if_neg (by omega)],⟨YP ho (Nat.zero_le _),fun g' hg'=>by rw[hv]at hg';cases hg';simp⟩,hn.1⟩
end
section
open Go.RowKit
theorem X6 {w:World}{base:Nat}{e:TypeId}{size:Nat}{v:Value}{n:Nat}{xs:List Value}(h:w.ownsRow base e size v n xs):∃a c,v= .slice a n c:=by
 rcases h.2 with⟨rfl,rfl⟩|⟨g,cap,cur,rfl,_⟩
 ·exact⟨_,_,rfl⟩
 ·exact⟨_,_,rfl⟩
theorem Xea (A:Ar)(ρ:Nat→Nat)(b:Nat)(h:Int)(v:Value)(l:List Xm)(w:World)(hA:Xz w ρ b A)(hv:XE w v l)(hsmall:l.length≤1000000):Calls Tryz.prog 105 #[.pointer (some ⟨b,0,none⟩),.int .i64 h,v] w (Yk (A.X0 h l).2 ρ b w (.int .i64 (A.X0 h l).1)):=by
 obtain⟨a,c,mv,h0,h1,hf,hlt,hm,hN⟩:=hA.head
 have hA0:=hA.below (Xw w (.cells #[.int .i64 h] 3))
 have h0':=Below.old (Xw w (.cells #[.int .i64 h] 3)) h0
 have hB0:=Xw w (.cells #[.int .i64 h] 3)
 have hv0:=hv.below hB0
 by_cases hh:A.has h
 ·have hp:=hh.1;have hq:=hh.2;unfold Ar.n at hq;obtain⟨nb,rfl,hr,hnb,hfn,hNx⟩:=hN (by omega);obtain⟨kv,av,F,-,-⟩:=hNx h hh;have c0:=Below.old hB0 F.c0;have c6:=Below.old hB0 F.c6;have f6:(w.alloc (.cells #[.int .i64 h] 3)).frozen? ⟨nb,(h.toNat-1)*13+6,none⟩=false:=(Below.frozen hB0 hnb).trans (hfn _);have hck:Yc A [h]=0:=by{simp[Yc,hh]};have hnb0:nb<(w.alloc (.cells #[.int .i64 h] 3)).heap.size:=by{simp;omega};generalize hw0:w.alloc _=w0 at*;have HW:=Xqh hw0;clear hw0;by_cases hk:(A.get h).Xa=4;·{have k1:((A.get h).Xa !=4)=false:=by{simp[hk]};have HO:=Xqh (XbM v l w0 hv0 hsmall);by_cases hs:Ys l;·{have hfin:A.X0 h l=(0,A.mod h (fun x=>{x with Xb:=XZ l})):=by{simp[Ar.X0,hh,hk,hs]};rw[hfin];have HS:=Xqh hs;clear hfin hk F hNx hN hfn hs;go_enter Tryz.func105,Tryz.ntmps105;go_wp2_with fail;rw[HW.out];refine(YH A b _ c _ [h] _ h0' (by rw[←HW.out];exact ZQ _ _ _)).mono ?_;rintro e w'⟨rfl,rfl⟩;rw[hck];go_wp2_with fail;refine(XY b nb _ c h _ h0' hp hq hm).mono ?_;rintro e w2⟨rfl,rfl⟩;generalize ho:(h.toNat-1)*13=o at*;have HOO:=Xqh ho;clear ho;go_wp2_with fail;refine HO.out.mono ?_;rintro e w3⟨hB3,hyes,-⟩;obtain⟨av',rfl,hown⟩:=hyes HS.out;have c6:=Below.old hB3 c6;have f6:w3.frozen? ⟨nb,o+6,none⟩=false:=(Below.frozen hB3 hnb0).trans f6;obtain⟨ρ',hA3,hr3,hown3,hb3⟩:=Xd9 (r:=2*(h.toNat-1)+5) hA0 hB3 hown;have h03:=Below.old hB3 h0';obtain⟨a',c',rfl⟩:=X6 hown;have HE:Xz (w3.setCell ⟨nb,(h.toNat-1)*13+6,none⟩ (.slice a' (XZ l).length c')) ρ' b (A.mod h (fun x=>{x with Xb:=XZ l})):=hA3.store hh h03 (Upd.refl _ _) (fun _ _=>rfl) hb3 (j:=6) (by omega) (fun kv av hk ha _ _=>⟨kv,_,rfl,hk,hown3⟩);rw[HOO.out]at HE;have hrnb:ρ' nb=2:=(hr3 nb hnb0).trans hr;have HT:Xr ρ ρ' w (w3.setCell ⟨nb,o+6,none⟩ (.slice a' (XZ l).length c')):=by{have t1:Xr ρ ρ' w w3:=⟨(Upd.below hB0).trans ((Upd.below hB3).mono (fun _ _ h=>h)),fun k hk=>hr3 k (Nat.lt_of_lt_of_le hk hB0.size)⟩;exact t1.trans (Xr.set (by dsimp only;omega) _)};have HF:=Xqh (And.intro HE HT);clear HE HT hown hown3 hyes;go_wp2;go_ret;exact⟨rfl,ρ',HF.out.1,HF.out.2⟩};·have hfin:A.X0 h l=(2,A):=by{simp[Ar.X0,hh,hk,hs]};rw[hfin];have HS:=Xqh hs;clear hfin hk F hNx hN hfn hs;go_enter Tryz.func105,Tryz.ntmps105;go_wp2_with fail;rw[HW.out];refine(YH A b _ c _ [h] _ h0' (by rw[←HW.out];exact ZQ _ _ _)).mono ?_;rintro e w'⟨rfl,rfl⟩;rw[hck];go_wp2_with fail;refine(XY b nb _ c h _ h0' hp hq hm).mono ?_;rintro e w2⟨rfl,rfl⟩;go_wp2_with fail;refine HO.out.mono ?_;rintro e w3⟨hB3,-,hno⟩;have:=hno HS.out;subst this;go_wp2;go_ret;exact⟨rfl,ρ,hA0.below hB3,Xr.below (hB0.trans (hB3.mono hB0.size))⟩};·have hfin:A.X0 h l=(9,A):=by{simp[Ar.X0,hh,hk]};rw[hfin];have k1:((A.get h).Xa !=4)=true:=by{simp[hk]};clear hfin hk F hNx hN hfn c6 f6;go_enter Tryz.func105,Tryz.ntmps105;go_wp2_with fail;rw[HW.out];refine(YH A b _ c _ [h] _ h0' (by rw[←HW.out];exact ZQ _ _ _)).mono ?_;rintro e w'⟨rfl,rfl⟩;rw[hck];go_wp2_with fail;refine(XY b nb _ c h _ h0' hp hq hm).mono ?_;rintro e w2⟨rfl,rfl⟩;go_wp2;go_ret;exact⟨rfl,ρ,hA0,Xr.below hB0⟩
 ·have hfin:A.X0 h l=(3,A):=by{simp[Ar.X0,hh]};have hck:Yc A [h]=3:=by{simp[Yc,hh]};rw[hfin];clear hfin hN hh;go_enter Tryz.func105,Tryz.ntmps105;go_wp2_with fail;refine(YH A b _ c _ [h] _ h0' (ZQ _ _ _)).mono ?_;rintro e w'⟨rfl,rfl⟩;rw[hck];go_wp2;go_ret;exact⟨rfl,ρ,hA0,Xr.below hB0⟩
end
section
open Go.RowKit Go.Shelf
def Xjt : Go.Shelf.Ren := ⟨fun | 23 => 119 | n => n, fun | 22 => 37 | 3 => 3 | 4 => 4 | 0 => 0 | n => n, fun | n => n⟩
theorem Xju :Go.Proofs.Lays2.n23 Tryz.prog Xjt:={mixed:=by{kernel_rfl},f23:=Tryz.func119.trans (congrArg some (by kernel_rfl)),t0:=Tryz.underlying0,a0:=Tryz.isAgg0,z0:=Tryz.sizeOf0,v0:=Tryz.zeroValue0,t3:=Tryz.underlying3,a3:=Tryz.isAgg3,z3:=Tryz.sizeOf3,v3:=Tryz.zeroValue3,t4:=Tryz.underlying4,a4:=Tryz.isAgg4,z4:=Tryz.sizeOf4,v4:=Tryz.zeroValue4,t22:=Tryz.underlying37,a22:=Tryz.isAgg37,z22:=Tryz.sizeOf37,v22:=Tryz.zeroValue37,i3:=by{kernel_rfl}}
def Xjv : Go.Shelf.Ren := ⟨fun | 21 => 96 | 27 => 120 | 28 => 121 | 35 => 145 | 39 => 158 | n => n, fun | 22 => 37 | 3 => 3 | 4 => 4 | 0 => 0 | n => n, fun | n => n⟩
theorem XbP :Go.Proofs.Lays2.n21 Tryz.prog Xjv:={mixed:=by{kernel_rfl},f21:=Tryz.func96.trans (congrArg some (by kernel_rfl)),f27:=Tryz.func120.trans (congrArg some (by kernel_rfl)),f28:=Tryz.func121.trans (congrArg some (by kernel_rfl)),f35:=Tryz.func145.trans (congrArg some (by kernel_rfl)),f39:=Tryz.func158.trans (congrArg some (by kernel_rfl)),t0:=Tryz.underlying0,a0:=Tryz.isAgg0,z0:=Tryz.sizeOf0,v0:=Tryz.zeroValue0,t3:=Tryz.underlying3,a3:=Tryz.isAgg3,z3:=Tryz.sizeOf3,v3:=Tryz.zeroValue3,t4:=Tryz.underlying4,a4:=Tryz.isAgg4,z4:=Tryz.sizeOf4,v4:=Tryz.zeroValue4,t22:=Tryz.underlying37,a22:=Tryz.isAgg37,z22:=Tryz.sizeOf37,v22:=Tryz.zeroValue37,i3:=by{kernel_rfl}}
theorem Jp (b:Nat)(t:TypeId):∀(vs:List Value)(o:Nat)(w:World)(cur:Array Value),w.heap[b]?=some (.cells cur t (0,0))→∃cur',(w.setCells b o vs).heap[b]?=some (.cells cur' t (0,0))∧cur'.size=cur.size∧∀k,cur'[k]?=if o≤k∧k<o+vs.length∧k<cur.size then vs[k-o]? else cur[k]?
 | [],o,w,cur,h=>⟨cur,h,rfl,fun k=>by rw[if_neg (by simp;omega)]⟩
 |v::vs,o,w,cur,h=>by{have h1:(w.setCell ⟨b,o,none⟩ v).heap[b]?=some (.cells (cur.setIfInBounds o v) t (0,0)):=by{simp[World.setCell,Array.getElem?_modify,h]};obtain⟨cur',h2,h3,h4⟩:=Jp b t vs (o+1) _ _ h1;refine⟨cur',h2,by simpa using h3,fun k=>?_⟩;rw[h4 k];by_cases hk:o+1≤k∧k<o+1+vs.length∧k<cur.size;·{rw[if_pos (by simpa using hk),if_pos (by simp;omega),show k-o=(k-(o+1))+1 from by{omega}];simp};·rw[if_neg (by simpa using hk)];by_cases hko:o=k;·{subst hko;by_cases hs:o<cur.size;·{rw[if_pos (by simp;omega)];simp[hs]};·rw[if_neg (by omega)];simp[hs]};·rw[if_neg (by simp at hk⊢;omega)];simp[hko]}
theorem Xgh (b:Nat):∀(vs:List Value)(o:Nat)(w:World)(k:Nat),k≠b→(w.setCells b o vs).heap[k]?=w.heap[k]?
 | [],_,_,_,_=>rfl
 |v::vs,o,w,k,h=>(Xgh b vs (o+1) _ k h).trans (Z1 w ⟨b,o,none⟩ v k h)
theorem Xgi (b:Nat):∀(vs:List Value)(o:Nat)(w:World),(w.setCells b o vs).os=w.os∧(w.setCells b o vs).tape=w.tape∧(w.setCells b o vs).output=w.output∧(w.setCells b o vs).heap.size=w.heap.size
 | [],_,_=>⟨rfl,rfl,rfl,rfl⟩
 |v::vs,o,w=>by{obtain⟨h1,h2,h3,h4⟩:=Xgi b vs (o+1) (w.setCell ⟨b,o,none⟩ v);exact⟨h1,h2,h3,h4.trans (by simp)⟩}
theorem Upd.setCells {F:Nat→Prop}{a w:World}(h:Upd F a w){b:Nat}(hp:a.heap.size≤b∨F b)(o:Nat)(vs:List Value):Upd F a (w.setCells b o vs):=by
 obtain⟨h1,h2,h3,h4⟩:=Xgi b vs o w
 refine⟨h1.trans h.os,h2.trans h.tape,h3.trans h.output,by rw[h4];exact h.size,fun k hk hf=>?_⟩
 rw[Xgh b vs o w k (by intro e;subst e;exact hp.elim (fun hp=>by omega) hf)]
 exact h.block k hk hf
theorem XbQ (l:List Int):∀u∈l.map Xp,u.oneCell'=true:=by
 intro u hu
 simp at hu
 obtain⟨x,_,rfl⟩:=hu
 rfl
theorem Xeb (v:Value)(l:List Int)(x:Int)(w:World)(hv:Xy w v l):Calls Tryz.prog 95 #[v,.int .i64 x] w fun e w'=>e= .returned (.int .i64 (Yt (fun y=>decide (y=x)) l))∧w=w':=by
 obtain⟨av,cv,rfl,hc1,hc2,hc3⟩:=hv.form
 go_enter Tryz.func95,Tryz.ntmps95
 go_wp2
 go_loop [8](fun i=>∃k:Nat,k≤l.length∧i= .int .i64 k∧Hid (∀j y,j<k→l[j]?=some y→(fun y=>decide (y=x)) y=false))(fun i=>l.length-(intOf i).toNat)
 case atStart=>exact⟨0,Nat.zero_le _,rfl,fun j y hj=>by omega⟩
 case round=>obtain⟨k,hk,rfl,hT⟩:=hrel;by_cases hlt:k<l.length;·{obtain⟨b1,o1,rfl,hcs⟩:=hc3 (by omega);have hck:=hcs k hlt;clear hc3 hcs;have hy:l[k]?=some (l[k]?.getD 0):=by{simp[hlt]};generalize l[k]?.getD 0=y at hck hy;have HY:=Xqh hy;clear hy;by_cases hxy:x=y;·{have h1:(x==y)=true:=by{simp[hxy]};have HXY:=Xqh hxy;clear hxy;go_wp2;go_ret;exact⟨Zd (Xbc HY.out (by simp[HXY.out]) hT.out).symm,rfl⟩};·have h1:(x==y)=false:=by{simp[hxy]};have HXY:=Xqh hxy;clear hxy;go_wp2;go_round;(case rel=>exact⟨k+1,hlt,by go_num,fun j z hj hz=>by by_cases hjk:j<k;·{exact hT.out j z hjk hz};·have hjk:j=k:=by{omega};rw[hjk,HY.out]at hz;cases hz;simp;exact fun e=>HXY.out e.symm⟩);case measure=>simp[intOf];omega};·go_wp2;go_ret;exact⟨Zd (JT (fun j y hj=>hT.out j y (by have:=(List.getElem?_eq_some_iff.1 hj).1;omega) hj)).symm,rfl⟩
theorem Xjw (ρ:Nat→Nat)(r:Nat)(v:Value)(l:List Int)(i:Nat)(w:World)(hv:XT w ρ r 3 1 v l.length (l.map Xp))(hi:i<l.length):Calls Tryz.prog 119 #[v,.int .i64 i,.int .i64 (i+1)] w fun e w'=>∃g c,v= .slice (some ⟨g,0,none⟩) l.length c∧e= .returned (.slice (some ⟨g,0,none⟩) (l.length-1) c)∧Upd (fun k=>ρ k=r) w w'∧XT w' ρ r 3 1 (.slice (some ⟨g,0,none⟩) (l.length-1) c) (l.eraseIdx i).length ((l.eraseIdx i).map Xp):=by
 obtain⟨⟨h1,h2⟩,h3⟩:=hv
 rcases h2 with⟨rfl,h4⟩|⟨g,cap,cur,rfl,_,hg,hn,hc,hs,ht⟩
 ·omega
 ·have hcell:∀j,j<l.length→w.cell? ⟨g,0+j,none⟩=some (.int .i64 (l.getD j 0)):=by{intro j hj;rw[cell_of_row w g _ cur _ (0,0) hg,Nat.zero_add];have:(cur.toList.take (l.length*1))[j]?=some (Xp (l.getD j 0)):=by{rw[ht];simp[hj]};rw[List.getElem?_take,if_pos (by omega)]at this;simpa[Xp]using this};have hgr:=h3 g rfl;refine(Any.slices_Delete_int_cells Xju g 0 l.length cap i (i+1) l w (Nat.le_refl _) hn hc (by omega) (by omega) hcell (fun j _=>frozen_of_row w g _ cur _ hg)).mono ?_;rintro e w'⟨rfl,q,rfl⟩;have hsub:i+1-i=1:=by{omega};rw[hsub,List.take_length];refine⟨g,cap,rfl,rfl,((Upd.refl (fun k=>ρ k=r) w).drewN q).setCells (.inr hgr) _ _,⟨⟨by simp,.inr ?_⟩,h3⟩⟩;obtain⟨cur',k1,k2,k3⟩:=Jp g 3 ((l.take i++l.drop (i+1)++List.replicate 1 0).map (Value.int .i64)) 0 (w.drewN q) cur hg;have hlen:(l.eraseIdx i).length=l.length-1:=by{simp[List.length_eraseIdx,hi]};refine⟨g,cap,cur',by rw[hlen],Nat.zero_le _,k1,by omega,hc,by rw[k2];exact hs,?_⟩;apply List.ext_getElem?;intro k;rw[List.getElem?_take,Array.getElem?_toList,k3 k];rw[Nat.mul_one];by_cases hk:k<(l.eraseIdx i).length;·{rw[if_pos hk,if_pos (by simp;omega),List.eraseIdx_eq_take_drop_succ];simp only[Nat.sub_zero,List.map_append,List.getElem?_append,List.length_map,List.length_append];rw[if_pos (by simp;omega)];rfl};·rw[if_neg hk,List.getElem?_eq_none (by simpa using hk)]
end
section
open Go.RowKit Go.Shelf
/-- What 'Insert' leaves. -/
def Xec (ρ : Nat → Nat) (r : Nat) (l' : List Int) (w : World) (e : Ending) (w' : World) : Prop :=
  ∃ (g c : Nat) (ρ' : Nat → Nat), e = .returned (.slice (some ⟨g, 0, none⟩) l'.length c) ∧ Upd (fun k => ρ k = r) w w' ∧ (∀ k, k < w.heap.size → ρ' k = ρ k) ∧ (∀ k, ρ' k ≠ 0 → k < w'.heap.size) ∧
    XT w' ρ' r 3 1 (.slice (some ⟨g, 0, none⟩) l'.length c) l'.length (l'.map Xp)
theorem Xjx {l:List Int}{i:Nat}{x:Int}(hi:i≤l.length):(l.take i++x::l.drop i).length=l.length+1:=by
 simp
 omega
theorem XcH {l:List Int}{i:Nat}{x:Int}(hi:i≤l.length)(k:Nat):(l.take i++x::l.drop i)[k]?=if k<i then l[k]? else if k=i then some x else l[k-1]?:=by
 rw[List.getElem?_append]
 simp only[List.length_take,Nat.min_eq_left hi]
 by_cases hk:k<i
 ·rw[if_pos hk,if_pos hk,List.getElem?_take,if_pos hk]
 ·rw[if_neg hk,if_neg hk];by_cases hk2:k=i;·{subst hk2;simp};·rw[if_neg hk2,show k-i=(k-i-1)+1 from by{omega},List.getElem?_cons_succ,List.getElem?_drop];congr 1;omega
theorem Xed {w:World}{g cap:Nat}{cur:Array Value}{l:List Int}{t:TypeId}(hg:w.heap[g]?=some (.cells cur t (0,0)))(hc:cap≤maxLen)(hs:cur.size=cap)(hn:l.length≤cap)(h:∀k,k<l.length→cur[k]?=some (Xp (l[k]?.getD 0))):w.ownsRow 0 t 1 (.slice (some ⟨g,0,none⟩) l.length cap) l.length (l.map Xp):=by
 refine⟨by simp,.inr ⟨g,cap,cur,rfl,Nat.zero_le _,hg,hn,hc,by omega,?_⟩⟩
 apply List.ext_getElem?
 intro k
 rw[List.getElem?_take,Array.getElem?_toList,Nat.mul_one]
 by_cases hk:k<l.length
 ·rw[if_pos hk,h k hk];simp[hk]
 ·rw[if_neg hk,List.getElem?_eq_none (by simpa using hk)]
theorem Xgj (ρ:Nat→Nat)(r:Nat)(v:Value)(l:List Int)(i:Nat)(x:Int)(vb:Nat)(w:World)(hρ:∀k,ρ k≠0→k<w.heap.size)(hv:XT w ρ r 3 1 v l.length (l.map Xp))(hi:i≤l.length)(hvb:w.heap[vb]?=some (.cells #[.int .i64 x] 3 (0,0)))(hvr:ρ vb≠r)(hsmall:l.length≤1000000):Calls Tryz.prog 96 #[v,.int .i64 i,.slice (some ⟨vb,0,none⟩) 1 1] w (Xec ρ r (l.take i++x::l.drop i) w):=by
 obtain⟨⟨h1,h2⟩,h3⟩:=hv
 have hvs:∀(j:Nat)(u:Value),[Xp x][j]?=some u→w.cell? ⟨vb,0+j,none⟩=some u:=by intro j u hu;rw[cell_of_row w vb _ _ _ _ hvb,Nat.zero_add];simpa[Xp]using hu
 have h1v:∀u∈ [Xp x],u.oneCell'=true:=by intro u hu;simp at hu;subst hu;rfl
 have hl':=Xjx (x:=x) hi
 have hnew:∀(w':World)(cur:Array Value)(cap:Nat),w'.heap[w.heap.size]?=some (.cells cur 3 (0,0))→Upd (fun k=>ρ k=r) w w'→cap≤maxLen→cur.size=cap→l.length+1≤cap→(∀k,k<(l.take i++x::l.drop i).length→cur[k]?=some (Xp ((l.take i++x::l.drop i)[k]?.getD 0)))→Xec ρ r (l.take i++x::l.drop i) w (.returned (.slice (some ⟨w.heap.size,0,none⟩) (l.length+1) cap)) w':=by intro w' cur cap hg hU hc hs hn h;refine⟨w.heap.size,cap,fun k=>if k=w.heap.size then r else ρ k,by rw[hl'],hU,fun k hk=>if_neg (by omega),fun k hk=>?_,Xed hg hc hs (by omega) h,fun g hg'=>?_⟩;·{dsimp only at hk;split at hk;·{rename_i e;subst e;exact lt_of_block hg};·exact Nat.lt_of_lt_of_le (hρ k hk) hU.size};·simp[Value.ownBlock]at hg';simp[hg']
 rcases h2 with⟨rfl,h4⟩|⟨g,cap,cur,rfl,_,hg,hn,hc,hs,ht⟩
 ·have hl:l= []:=List.length_eq_zero_iff.1 h4;subst hl;simp at hi;subst hi;refine(Any2.slices_Insert_int_end_grow XbP none 0 0 vb 0 1 1 [] [Xp x] w (by omega) (by omega) (by omega) (by omega) rfl rfl (fun _=>rfl) (fun a ha=>by cases ha) hvs h1v).mono ?_;rintro e w'⟨rfl,rfl⟩;refine hnew _ _ _ (heap_alloc_new w.drew _) (((Upd.refl _ w).drew).alloc _) (grownCap_le_maxLen w _ _ _ (by unfold maxLen;omega)) ?_ (grownCap_ge w _ _ _) ?_;·{have:=grownCap_ge w 1 0 3;simp[size_zeroCells];change 1+(grownCap w 1 0 3-1)*_=grownCap w 1 0 3;simp[Value.cells];omega};·intro k hk;simp at hk;subst hk;rw[Array.getElem?_append_left (by simp)];simp[Xp]
 ·have hgr:=h3 g rfl;have hgv:vb≠g:=by{intro e;subst e;exact hvr hgr};have hcur:∀j,j<l.length→cur[j]?=some (Xp (l[j]?.getD 0)):=by{intro j hj;have:(cur.toList.take (l.length*1))[j]?=some (Xp (l[j]?.getD 0)):=by{rw[ht];simp[hj]};rw[List.getElem?_take,if_pos (by omega)]at this;simpa using this};have hcs:∀(j:Nat)(u:Value),(l.map Xp)[j]?=some u→w.cell? ⟨g,0+j,none⟩=some u:=by{intro j u hu;have hj:j<l.length:=by{have:=(List.getElem?_eq_some_iff.1 hu).1;simpa using this};rw[cell_of_row w g _ _ _ _ hg,Nat.zero_add,hcur j hj,←hu];simp[hj]};have hold:∀(w':World)(cur':Array Value),w'.heap[g]?=some (.cells cur' 3 (0,0))→Upd (fun k=>ρ k=r) w w'→cur'.size=cap→l.length+1≤cap→(∀k,k<(l.take i++x::l.drop i).length→cur'[k]?=some (Xp ((l.take i++x::l.drop i)[k]?.getD 0)))→Xec ρ r (l.take i++x::l.drop i) w (.returned (.slice (some ⟨g,0,none⟩) (l.length+1) cap)) w':=by{intro w' cur' hg' hU hs' hn' h;exact⟨g,cap,ρ,by rw[hl'],hU,fun _ _=>rfl,fun k hk=>Nat.lt_of_lt_of_le (hρ k hk) hU.size,Xed hg' hc hs' (by omega) h,h3⟩};by_cases hroom:l.length+1≤cap;·{by_cases hend:i=l.length;·{subst hend;refine(Any2.slices_Insert_int_end_room XbP g 0 l.length cap vb 0 1 1 [Xp x] w (by omega) hroom hc rfl (fun j hj=>?_) (fun j _=>frozen_of_row w g _ _ _ hg) hvs h1v).mono ?_;·{rw[cell_of_row w g _ _ _ _ hg];simp;omega};·rintro e w'⟨rfl,rfl⟩;obtain⟨cur',k1,k2,k3⟩:=Jp g 3 [Xp x] (0+l.length) w cur hg;refine hold _ cur' k1 ((Upd.refl (fun k=>ρ k=r) w).setCells (.inr hgr) _ _) (by omega) hroom (fun k hk=>?_);rw[k3 k,XcH (Nat.le_refl _)];by_cases hk2:k<l.length;·{rw[if_neg (by omega),if_pos hk2];exact hcur k hk2};·have:k=l.length:=by{omega};subst this;rw[if_pos (by simp;omega)];simp};·refine(Any2.slices_Insert_int_shift XbP g 0 l.length cap i vb 0 1 1 (l.map Xp) [Xp x] w (by omega) (by omega) hroom hc hgv (by simp) rfl hcs (fun j hj=>?_) (fun j _=>frozen_of_row w g _ _ _ hg) hvs (XbQ l) h1v 3 3 1 cap (by simp[World.shape?,hvb]) (by simp[World.shape?,hg];omega) (by omega) (frozen_of_row w vb _ _ _ hvb) (frozen_of_row w vb _ _ _ hvb)).mono ?_;·{rw[cell_of_row w g _ _ _ _ hg];simp;omega};·rintro e w'⟨rfl,rfl⟩;obtain⟨cur1,k1,k2,k3⟩:=Jp g 3 ((l.map Xp).drop i) (0+(i+1)) w.drew cur hg;obtain⟨cur',q1,q2,q3⟩:=Jp g 3 [Xp x] (0+i) _ cur1 k1;refine hold _ cur' q1 ((((Upd.refl (fun k=>ρ k=r) w).drew).setCells (.inr hgr) _ _).setCells (.inr hgr) _ _) (by omega) hroom (fun k hk=>?_);rw[q3 k,XcH hi];by_cases hk1:k<i;·{rw[if_neg (by omega),k3 k,if_neg (by omega),if_pos hk1];exact hcur k (by omega)};·by_cases hk2:k=i;·{subst hk2;rw[if_pos (by simp;omega)];simp};·rw[if_neg (by simp;omega),k3 k,if_pos (by simp;omega),if_neg hk1,if_neg hk2,List.getElem?_drop,show i+(k-(0+(i+1)))=k-1 from by{omega}];have:k-1<l.length:=by{omega};simp[this]};·have hcap:cap=l.length:=by{omega};by_cases hend:i=l.length;·{subst hend;refine(Any2.slices_Insert_int_end_grow XbP (some ⟨g,0,none⟩) l.length cap vb 0 1 1 (l.map Xp) [Xp x] w (by omega) hn (by omega) (by omega) (by simp) rfl (fun h=>by cases h) (fun a ha j u hu=>?_) hvs h1v).mono ?_;·{cases ha;rw[Addr.add_mid];exact hcs j u hu};·rintro e w'⟨rfl,rfl⟩;have hge:=grownCap_ge w (l.length+1) cap 3;refine hnew _ _ _ (heap_alloc_new w.drew _) (((Upd.refl _ w).drew).alloc _) (grownCap_le_maxLen w _ _ _ (by unfold maxLen;omega)) ?_ hge ?_;·{simp[size_zeroCells,Value.cells];change l.length+1+(grownCap w (l.length+1) cap 3-(l.length+1))=grownCap w (l.length+1) cap 3;omega};·intro k hk;rw[XcH (Nat.le_refl _)];rw[Array.getElem?_append_left (by simp;omega)];simp only[List.getElem?_toArray,List.getElem?_append,List.length_map];by_cases hk2:k<l.length;·{rw[if_pos hk2,if_pos hk2];simp[hk2]};·have:k=l.length:=by{omega};subst this;simp};·refine(Any2.slices_Insert_int_grow XbP g 0 l.length cap i vb 0 1 1 (l.map Xp) [Xp x] w (by omega) (by omega) hn (by omega) (by omega) (by simp) rfl hcs hvs (XbQ l) h1v).mono ?_;rintro e w'⟨rfl,rfl⟩;have hge:=grownCap_ge w (l.length+1) cap 3;obtain⟨cur1,k1,k2,k3⟩:=Jp w.heap.size 3 [Xp x] i ((w.alloc (.cells (((l.map Xp).take i).toArray++Builtin.zeroCells (Value.int .i64 0).cells (l.length+1-i)++Builtin.zeroCells (Value.int .i64 0).cells (grownCap w (l.length+1) cap 3-(l.length+1))) 3)).drew) _ (heap_alloc_new w _);obtain⟨cur',q1,q2,q3⟩:=Jp w.heap.size 3 ((l.map Xp).drop i) (i+1) (World.drew (World.setCells (World.drew (World.alloc w _)) w.heap.size i [Xp x])) cur1 k1;have hsz0:(((l.map Xp).take i).toArray++Builtin.zeroCells (Value.int .i64 0).cells (l.length+1-i)++Builtin.zeroCells (Value.int .i64 0).cells (grownCap w (l.length+1) cap 3-(l.length+1))).size=grownCap w (l.length+1) cap 3:=by{simp[size_zeroCells,Value.cells];omega};refine hnew _ cur' _ q1 ((((((Upd.refl _ w).alloc _).drew).setCells (.inl (Nat.le_refl _)) _ _).drew).setCells (.inl (Nat.le_refl _)) _ _) (grownCap_le_maxLen w _ _ _ (by unfold maxLen;omega)) (by rw[q2,k2];exact hsz0) hge (fun k hk=>?_);rw[q3 k,k3 k,k2,hsz0,XcH hi];by_cases hk1:k<i;·{rw[if_neg (by omega),if_neg (by omega),if_pos hk1,Array.getElem?_append_left (by simp[size_zeroCells,Value.cells];omega),Array.getElem?_append_left (by simp;omega)];simp only[List.getElem?_toArray,List.getElem?_take,if_pos hk1];have:k<l.length:=by{omega};simp[this]};·by_cases hk2:k=i;·{subst hk2;rw[if_neg (by omega),if_pos (by simp;omega)];simp};·rw[if_pos (by simp;omega),if_neg hk1,if_neg hk2,List.getElem?_drop,show i+(k-(i+1))=k-1 from by{omega}];have:k-1<l.length:=by{omega};simp[this]
end
section
open Go.RowKit
theorem XcI {l:List Int}{h:Int}(hm:h∈l):∃i:Nat,Yt (fun y=>decide (y=h)) l=i∧i<l.length∧l[i]?=some h∧∀j,j<i→l[j]?≠some h:=by
 cases hf:l.findIdx? (fun y=>decide (y=h))with|none=>{rw[List.findIdx?_eq_none_iff]at hf;have:=hf h hm;simp at this}|some i=>refine⟨i,by simp[Yt,hf],?_⟩;rw[List.findIdx?_eq_some_iff_getElem]at hf;obtain⟨hi,hp,hno⟩:=hf;refine⟨hi,by simp at hp;simp[hi,hp],fun j hj e=>?_⟩;have:=hno j hj;have hj':j<l.length:=by{omega};rw[List.getElem?_eq_getElem hj']at e;simp at e this;exact this e
theorem Xjy {l:List Int}{h:Int}{i:Nat}(hn:l.Nodup)(hi:l[i]?=some h):l.eraseIdx i=XQ l h:=by
 induction l generalizing i with|nil=>{simp at hi}|cons a l ih=>rw[List.nodup_cons]at hn;cases i with|zero=>{simp at hi;subst hi;simp[XQ];rw[List.filter_eq_self.2];intro x hx;simp;intro e;subst e;exact hn.1 hx}|succ i=>simp at hi;have ha:a≠h:=by{intro e;subst e;exact hn.1 (List.mem_of_getElem? hi)};rw[List.eraseIdx_cons_succ,ih hn.2 hi];simp[XQ,ha]
theorem Xee (A:Ar)(ρ:Nat→Nat)(b:Nat)(h:Int)(w:World)(hA:Xz w ρ b A)(hh:A.has h)(hL:A.Xf4 h):Calls Tryz.prog 94 #[.pointer (some ⟨b,0,none⟩),.int .i64 h] w (fun e w'=>Yk (A.cut h) ρ b w (.tuple #[]) e w'∧w'.cell? ⟨b,0,none⟩=w.cell? ⟨b,0,none⟩):=by
 obtain⟨a,c,mv,h0,h1,hf,hlt,hm,hN⟩:=hA.head
 have hp:=hh.1
 have hq:=hh.2
 unfold Ar.n at hq
 obtain⟨nb,rfl,hr,hnb,hfn,hNx⟩:=hN (by omega)
 obtain⟨kv,av,F,-,-⟩:=hNx h hh
 have c1:=F.c1
 have f1:=hfn ((h.toNat-1)*13+1)
 by_cases hp0:(A.get h).Xd=0
 ·have hfin:A.cut h=A:=by{unfold Ar.cut;rw[if_pos hp0]};rw[hfin];rw[hp0]at c1;clear hfin hp0 F hNx hN hfn hL;go_enter Tryz.func94,Tryz.ntmps94;go_wp2_with fail;refine(XY b nb _ c h _ h0 hp hq hm).mono ?_;rintro e w2⟨rfl,rfl⟩;go_wp2;refine bodyPost_ret (results_none rfl _ _ _) rfl ?_;exact⟨⟨rfl,ρ,hA,Xr.refl _ _⟩,rfl⟩
 ·obtain⟨hhp,hmem,hnd⟩:=hL hp0;have hk1:((A.get h).Xd==0)=false:=by{simp[hp0]};have hpp:=hhp.1;have hpq:=hhp.2;unfold Ar.n at hpq;obtain⟨kvp,avp,Fp,hKp,hAp⟩:=hNx _ hhp;obtain⟨i,hi1,hi2,hi3,hi4⟩:=XcI hmem;have hfin:A.cut h=(A.mod (A.get h).Xd (fun x=>{x with Xc:=XQ x.Xc h})).mod h (fun x=>{x with Xd:=0}):=by{unfold Ar.cut;rw[if_neg hp0]};have herase:=Xjy hnd hi3;rw[hfin];have e2:=Fp.c2;have fp2:=hfn (((A.get h).Xd.toNat-1)*13+2);generalize hpar:(A.get h).Xd=p at*;have hdel:=Xjw ρ (2*(p.toNat-1)+4) kvp (A.get p).Xc i w hKp hi2;have hidx:=Xeb kvp (A.get p).Xc h w hKp.reads;rw[hi1]at hidx;generalize hoh:(h.toNat-1)*13=oh at*;generalize hop:(p.toNat-1)*13=op at*;have HDEL:=Xqh hdel;have HIDX:=Xqh hidx;have HOH:=Xqh hoh;have HOP:=Xqh hop;have HPAR:=Xqh hpar;have HER:=Xqh herase;have hi64:(i:Int)<9223372036854775807:=by{have hlen:=hKp.reads.2;obtain⟨_,_,_,q1,q2,_⟩:=hlen;unfold maxLen at q2;omega};clear hdel hidx hoh hop hpar hfin hi1 hi3 hi4 hmem hnd herase hp0 F Fp hNx hN hL;go_enter Tryz.func94,Tryz.ntmps94;go_wp2_with fail;refine(XY b nb _ c h _ h0 hp hq hm).mono ?_;rintro e w2⟨rfl,rfl⟩;rw[HOH.out];go_wp2_with fail;refine(XY b nb _ c p _ h0 hpp hpq hm).mono ?_;rintro e w2⟨rfl,rfl⟩;rw[HOP.out];go_wp2_with fail;refine HIDX.out.mono ?_;rintro e w2⟨rfl,rfl⟩;go_wp2_with fail;refine HDEL.out.mono ?_;rintro e w2⟨g,cc,hkv,rfl,hU,hown⟩;have g1:w2.cell? ⟨nb,oh+1,none⟩=some (.int .i64 p):=hU.cell c1 (by dsimp only;omega);have g2:w2.cell? ⟨nb,op+2,none⟩=some kvp:=hU.cell e2 (by dsimp only;omega);have gf1:w2.frozen? ⟨nb,oh+1,none⟩=false:=hU.free hnb f1 (by dsimp only;omega);have gf2:w2.frozen? ⟨nb,op+2,none⟩=false:=hU.free hnb fp2 (by dsimp only;omega);have hlen:((A.get p).Xc.eraseIdx i).length=(A.get p).Xc.length-1:=by{simp[List.length_eraseIdx,hi2]};have HE1:Xz (w2.setCell ⟨nb,(p.toNat-1)*13+2,none⟩ (.slice (some ⟨g,0,none⟩) ((A.get p).Xc.length-1) cc)) ρ b (A.mod p (fun x=>{x with Xc:=XQ x.Xc h})):=by{refine hA.store hhp h0 (hU.mono (fun k _ hk=> .inl hk)) (fun _ _=>rfl) (fun k hk=>Nat.lt_of_lt_of_le (hA.1 k hk) hU.size) (j:=2) (by omega) (fun kv av hk ha _ _=>⟨_,av,rfl,?_,?_⟩);·{dsimp only;rw[←HER.out];rw[←hlen]at hown⊢;exact hown};·exact ha.upd hU (fun k hk=>by omega)};have hT1:Xr ρ ρ w (w2.setCell ⟨nb,(p.toNat-1)*13+2,none⟩ (.slice (some ⟨g,0,none⟩) ((A.get p).Xc.length-1) cc)):=by{have t1:Xr ρ ρ w w2:=⟨hU.mono (fun k _ hk=>by omega),fun _ _=>rfl⟩;exact t1.trans (Xr.set (by dsimp only;omega) _)};have hh1:(A.mod p (fun x=>{x with Xc:=XQ x.Xc h})).has h:=by{unfold Ar.has Ar.n Ar.mod at*;simpa using hh};obtain⟨a3,c3,mv3,h03,-,-,-,-,hN3⟩:=HE1.head;obtain⟨nb3,rfl,hr3,-,-,-⟩:=hN3 (by unfold Ar.mod;simp;omega);have hc3:(w2.setCell ⟨nb,(p.toNat-1)*13+2,none⟩ (.slice (some ⟨g,0,none⟩) ((A.get p).Xc.length-1) cc)).cell? ⟨b,0,none⟩=some (.slice (some ⟨nb,0,none⟩) A.ns.length c):=by{have hbn:b≠nb:=by{intro e;subst e;have:=hA.2.1;omega};rw[World.cell?_setCell_other w2 ⟨nb,(p.toNat-1)*13+2,none⟩ ⟨b,0,none⟩ _ (fun e=>hbn (congrArg Addr.block e).symm)];exact hU.cell h0 (by have:=hA.2.1;dsimp only;omega)};rw[hc3]at h03;simp at h03;obtain⟨rfl,hl3,rfl⟩:=h03;have HE2:=HE1.field (x:=h) (f:=fun x=>{x with Xd:=0}) (j:=1) (v:= .int .i64 0) (nb:=nb) (c:=c) hh1 (by rw[hc3];simp[Ar.mod]) HOH.out.symm (by omega) (fun _ _=>rfl) rfl rfl;have hT2:=hT1.trans (Xr.set (ρ:=ρ) (a:=⟨nb,oh+1,none⟩) (by dsimp only;omega) (.int .i64 0));rw[HOP.out]at HE2 hT2;have HE:=Xqh (And.intro HE2 hT2);have hhead:((w2.setCell ⟨nb,op+2,none⟩ (.slice (some ⟨g,0,none⟩) ((A.get p).Xc.length-1) cc)).setCell ⟨nb,oh+1,none⟩ (.int .i64 0)).cell? ⟨b,0,none⟩=w.cell? ⟨b,0,none⟩:=by{have hbn:b≠nb:=by{intro e;subst e;have:=hA.2.1;omega};rw[World.cell?_setCell_other _ ⟨nb,oh+1,none⟩ ⟨b,0,none⟩ _ (fun e=>hbn (congrArg Addr.block e).symm),←HOP.out,hc3,h0]};have HHEAD:=Xqh hhead;clear hhead;clear HE1 HE2 hT1 hT2 hown hc3 hl3 hlen hkv;have hne:op+2≠oh+1:=by{have:=HOH.out;have:=HOP.out;omega};have q1:(w2.setCell ⟨nb,op+2,none⟩ (.slice (some ⟨g,0,none⟩) ((A.get p).Xc.length-1) cc)).cell? ⟨nb,oh+1,none⟩=some (.int .i64 p):=by{rw[World.cell?_setCell_other w2 ⟨nb,op+2,none⟩ ⟨nb,oh+1,none⟩ _ (fun e=>hne (congrArg Addr.off e))];exact g1};clear hne;go_wp2;go_end0;exact⟨⟨rfl,ρ,HE.out.1,HE.out.2⟩,HHEAD.out⟩
end
end Go.Proofs.YtpicinjcmjaogaaGreatDoor
