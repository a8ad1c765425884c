import Derived.BigQuiet
import Derived.Deep.MidRow
import Derived.ProofKit
import Derived.Test.YtpicinjcmjaogaaGreatX05
set_option maxRecDepth 100000
set_option maxHeartbeats 4000000
set_option linter.unusedVariables false
namespace Go.Proofs.YtpicinjcmjaogaaGreat
section
open Go.RowKit
end
section
open Go.RowKit
theorem Own.back {w0 w w':World}{B:Nat}{l:List Xf}(h:Own w0 B l w)(hb:Below w.heap.size w w'):Below B w0 w':=h.low.trans (hb.mono h.big)
end
section
open Go.RowKit
theorem XcU (v1 v2:Value)(l1 l2:List Int)(w:World)(h1:Xy w v1 l1)(h2:Xy w v2 l2):Calls Tryz.prog 36 #[v1,v2] w fun e w'=>e= .returned (.bool (decide (l1=l2)))∧Below w.heap.size w w':=by
 obtain⟨a1,c1,rfl,p1,p2,p3⟩:=h1.form
 obtain⟨a2,c2,rfl,q1,q2,q3⟩:=h2.form
 clear h1 h2
 by_cases hl:l1.length=l2.length
 ·have hl1:((l1.length:Int)!=l2.length)=false:=by{simp[hl]};have HL:=Xqh hl;go_enter Tryz.func36,Tryz.ntmps36;go_wp2;go_loopw [5](fun i wr=>∃k:Nat,k≤l1.length∧i= .int .i64 k∧Hid (∀j:Nat,j<k→l1[j]?=l2[j]?)∧Below w.heap.size w wr)(fun i _=>l1.length-(intOf i).toNat);(case atStart=>exact⟨0,Nat.zero_le _,rfl,fun j hj=>by omega,Below.refl _ _⟩);case round=>obtain⟨k,hk,rfl,hT,hB⟩:=hrel;by_cases hlt:k<l1.length;·{have hlt2:k<l2.length:=by{have:=HL.out;omega};obtain⟨b1,o1,rfl,hcs1⟩:=p3 (by omega);obtain⟨b2,o2,rfl,hcs2⟩:=q3 (by omega);have d1:=Below.old hB (hcs1 k hlt);have d2:=Below.old hB (hcs2 k hlt2);clear hcs1 hcs2 p3 q3;obtain⟨x,hx⟩:∃x,l1[k]?=some x:=⟨_,List.getElem?_eq_getElem hlt⟩;obtain⟨y,hy⟩:∃y,l2[k]?=some y:=⟨_,List.getElem?_eq_getElem hlt2⟩;rw[hx]at d1;rw[hy]at d2;simp only[Option.getD_some]at d1 d2;have HX:=Xqh (And.intro hx hy);clear hx hy;by_cases he:x=y;·{have he1:(x !=y)=false:=by{simp[he]};have HE:=Xqh he;clear he;go_wp2_with(go_quiet(fail));go_wp2;go_roundw;(case rel=>exact⟨k+1,hlt,by go_num,fun j hj=>by by_cases hjk:j<k;·{exact hT.out j hjk};·have:j=k:=by{omega};rw[this,HX.out.1,HX.out.2,HE.out],Below.drewN hB _⟩);case measure=>simp[intOf];omega};·have he1:(x !=y)=true:=by{simp[he]};have HE:=Xqh he;clear he;go_wp2_with(go_quiet(fail));go_wp2;go_ret;exact⟨XW (decide_eq_false (fun h=>HE.out (by have a:=HX.out.1;have b:=HX.out.2;rw[h,b]at a;simpa using a.symm))).symm,Below.drewN hB _⟩};·have hfin:l1=l2:=by{apply List.ext_getElem?;intro j;by_cases hj:j<k;·{exact hT.out j hj};·have:=HL.out;rw[List.getElem?_eq_none (by omega),List.getElem?_eq_none (by omega)]};have HF:=Xqh hfin;clear hfin;go_wp2;go_ret;exact⟨XW (decide_eq_true HF.out).symm,hB⟩
 ·have hl1:((l1.length:Int)!=l2.length)=true:=by{simp;omega};have HL:=Xqh hl;clear hl;go_enter Tryz.func36,Tryz.ntmps36;go_wp2;go_ret;exact⟨XW (decide_eq_false (fun h=>HL.out (by rw[h]))).symm,Below.refl _ _⟩
end
section
open Go.RowKit
def Ar.YN (A : Ar) (h : Int) : List Int := if A.has h then (A.get h).Xc else []
def Ar.parentOf (A : Ar) (h : Int) : Int := if A.has h then (A.get h).Xd else 0
theorem Xeu {w:World}{b:Nat}{v:Value}{l:List Int}(h:w.ownsRow b 3 1 v l.length (l.map Xp)):Xy w v l:=by
 have h':XT w (fun k=>if v.ownBlock=some k then 1 else 0) 1 3 1 v l.length (l.map Xp):=by refine⟨⟨h.1,?_⟩,fun g hg=>by simp[hg]⟩;rcases h.2 with h2|⟨g,cap,cur,h3,_,h4⟩;·{exact .inl h2};·exact .inr ⟨g,cap,cur,h3,Nat.zero_le _,h4⟩
 exact h'.reads
/-- A list of integers in the call's own memory. -/
abbrev Xf.ints (v : Value) (l : List Int) : Xf := .row 3 1 v l.length (l.map Xp)
theorem Own.ints {w0 w:World}{B:Nat}{v:Value}{x:List Int}{l:List Xf}(h:Own w0 B l w)(hm:Xf.ints v x∈l):Xy w v x:=Xeu (h.row hm)
theorem Xap {w0 w:World}{B b:Nat}{A:Ar}{l:List Xf}{h:Int}(o:Own w0 B l w)(hm:Xf.arena b A∈l)(hS:A.YC):Calls Tryz.prog 33 #[.pointer (some ⟨b,0,none⟩),.int .i64 h] w fun e w'=>∃a c,e= .returned (.slice a (A.YN h).length c)∧Own w0 B (.ints (.slice a (A.YN h).length c) (A.YN h)::l) w':=by
 obtain⟨ρ,hA⟩:=o.arena hm
 refine(Xgt A ρ b h w hA (fun hh=>(hS.get hh).1)).mono ?_
 rintro e w'⟨hB,v,rfl,ho⟩
 obtain⟨a,c,rfl⟩:=X6 ho
 exact⟨a,c,rfl,o.newRow hB ho⟩
theorem Xev {w0 w:World}{B b:Nat}{A:Ar}{l:List Xf}{h:Int}(o:Own w0 B l w)(hm:Xf.arena b A∈l):Calls Tryz.prog 37 #[.pointer (some ⟨b,0,none⟩),.int .i64 h] w fun e w'=>e= .returned (.int .i64 (A.parentOf h))∧w=w':=by
 obtain⟨ρ,hA⟩:=o.arena hm
 exact Xgs A ρ b h w hA
end
section
open Go.ChangeShapes Go.WideShapes Go.ChangeAt Go.RowKit
theorem own_knob :ownKnob Tryz.prog.godebug=none:=by
 kernel_rfl
theorem laid_out :laidOutB Tryz.prog=true:=by
 kernel_rfl
theorem arg_ops {H:Type}{enc:TypeId×Value→H}{W:World}{base:Nat}{spare:Nat→Bool}{held:Bool}{v:Value}{d:DataW H}{p:List MemPlace}{r:Reach}{b0:Nat}(hv:Value.okWide Tryz.prog W r b0 38 v)(h:DataW.Trod enc Tryz.prog W base spare held 38 v d p):∃l,JW W v l:=by
 obtain⟨a,len,cap,rfl⟩:=okWide_slice Tryz.underlying38 hv
 obtain⟨fuel,hf⟩:=h
 simp only[Value.cells]at hf
 exact open_ops (fuel:=fuel) (x:=(d,p)) hf
end
section
open Go.RowKit
theorem Xex {w:World}{b b':Nat}{e e':TypeId}{s s':Nat}{v v':Value}{n n':Nat}{xs xs':List Value}(h:w.ownsRow b e s v n xs)(h':w.ownsRow b' e' s' v' n' xs')(hne:e≠e'):∀k,v.ownBlock=some k→v'.ownBlock≠some k:=by
 intro k hk hk'
 rcases h.2 with⟨rfl,_⟩|⟨g,cap,cur,rfl,_,hg,_⟩
 ·simp[Value.ownBlock]at hk
 ·rcases h'.2 with⟨rfl,_⟩|⟨g',cap',cur',rfl,_,hg',_⟩;·{simp[Value.ownBlock]at hk'};·simp[Value.ownBlock]at hk hk';subst hk;subst hk';rw[hg]at hg';simp at hg';exact hne hg'.2
/-- A list of descriptions in new memory, with the rows of their lists. -/
def Zw (w : World) (base : Nat) (v : Value) (ns : List Nd) : Prop :=
  ∃ rows : List (List Value), w.ownsRow base 46 13 v ns.length rows.flatten ∧ rows.length = ns.length ∧ ∀ (i : Nat) (n : Nd), ns[i]? = some n → ∃ kv av, rows[i]? = some (n.cells kv av) ∧ w.ownsRow base 3 1 kv n.Xc.length (n.Xc.map Xp) ∧ w.ownsRow base 132 3 av n.Xb.length (n.Xb.flatMap Xv)
theorem Zw.nil (w:World)(base:Nat):Zw w base (.slice none 0 0) []:=⟨[],World.ownsRow_nil _ _ _ _,rfl,fun i n h=>by simp at h⟩
theorem Zw.snoc {w w':World}{base:Nat}{v v' kv av:Value}{ns:List Nd}{n:Nd}{rows:List (List Value)}(hl:rows.length=ns.length)(hv:w.ownsRow base 46 13 v ns.length rows.flatten)(hN:∀(i:Nat)(n:Nd),ns[i]?=some n→∃kv av,rows[i]?=some (n.cells kv av)∧w.ownsRow base 3 1 kv n.Xc.length (n.Xc.map Xp)∧w.ownsRow base 132 3 av n.Xb.length (n.Xb.flatMap Xv))(hk:w.ownsRow base 3 1 kv n.Xc.length (n.Xc.map Xp))(ha:w.ownsRow base 132 3 av n.Xb.length (n.Xb.flatMap Xv))(hg:w.grownBy w' v.ownBlock)(ho:w'.ownsRow base 46 13 v' (ns.length+1) (rows.flatten++n.cells kv av)):Zw w' base v' (ns++ [n]):=by
 have hU:Upd (fun k=>v.ownBlock=some k) w w':=Upd.grown hg (fun k hk=>hk)
 have keep:∀{e:TypeId}{s:Nat}{x:Value}{m:Nat}{xs:List Value},w.ownsRow base e s x m xs→e≠46→w'.ownsRow base e s x m xs:=fun h hne=>ZS h hU (fun k hk hf=>Xex h hv hne k hk hf)
 refine⟨rows++ [n.cells kv av],by simpa[List.flatten_append]using ho,by simp[hl],fun i m hm=>?_⟩
 rw[List.getElem?_append]at hm
 split at hm
 ·rename_i hi;obtain⟨kv',av',h1,h2,h3⟩:=hN i m hm;exact⟨kv',av',by rw[List.getElem?_append_left (by omega)];exact h1,keep h2 (by decide),keep h3 (by decide)⟩
 ·rename_i hi;have hi':i=ns.length:=by{have:=(List.getElem?_eq_some_iff.1 hm).1;simp at this;omega};subst hi';simp at hm;subst hm;exact⟨kv,av,by rw[←hl];simp,keep hk (by decide),keep ha (by decide)⟩
theorem XcW :(Tryz.prog.info? 46).map (fun i=>(i.zero,i.size,i.bytes))=some (some (.agg #[.int .i64 0,.int .i64 0,.slice none 0 0,.int .i64 0,.int .i64 0,.string ByteArray.empty,.slice none 0 0,.string ByteArray.empty,.string ByteArray.empty,.string ByteArray.empty,.bool false,.int .i64 0,.int .i64 0]),13,168):=by
 kernel_rfl
theorem Xkh (A:Ar)(ρ:Nat→Nat)(b:Nat)(w:World)(hA:Xz w ρ b A)(hS:A.YC):Calls Tryz.prog 43 #[.pointer (some ⟨b,0,none⟩)] w fun e w'=>Below w.heap.size w w'∧∃a c,e= .returned (.slice a A.ns.length c)∧Zw w' w.heap.size (.slice a A.ns.length c) A.ns:=by
 obtain⟨i0,hi,hz0,hz1,hz2⟩:=info_parts XcW
 obtain⟨a,c,mv,h0,-,hf,hlt,hm,hN⟩:=hA.head
 have HI:=Xqh hi
 have HS:=Xqh hS
 have hsm:=hS.1
 clear hi hS
 have HN:=Xqh hN
 clear hN
 go_enter Tryz.func43,Tryz.ntmps43
 go_wp2
 go_loopw [3,12](fun out i wr=>∃k:Nat,k≤A.ns.length∧i= .int .i64 k∧Hid (Zw wr w.heap.size out (A.ns.take k))∧Below w.heap.size w wr)(fun _ i _=>A.ns.length-(intOf i).toNat)
 case atStart=>exact⟨0,Nat.zero_le _,rfl,Zw.nil _ _,Below.refl _ _⟩
 case round=>obtain⟨k,hk,rfl,hT,hB⟩:=hrel;by_cases hlt:k<A.ns.length;·{obtain⟨nb,rfl,hr,hnb,hfn,hNx⟩:=HN.out (by omega);have hx:A.has ((k:Int)+1):=⟨by omega,by unfold Ar.n;omega⟩;have hkk:((k:Int)+1).toNat-1=k:=by{omega};obtain⟨kv,av,F,hK,hAt⟩:=hNx _ hx;rw[hkk]at F;have hgn:=Ar.get_some hx;rw[hkk]at hgn;have HG:=Xqh hgn;have hsh:=HS.out.get hx;have c0:=Below.old hB h0;have HD:=Xqh (Xgu nb (k*13) (A.get ((k:Int)+1)) kv av wr (F.below hB) (Xy.below hK.reads hB) (XE.below hAt.reads hB) hsh.1 hsh.2);clear F hNx hfn hK hAt hgn hkk hx hsh;generalize A.get ((k:Int)+1)=n at*;obtain⟨rows,r1,r2,r3⟩:=hT.out;have hkl:(A.ns.take k).length=k:=by{simp;omega};go_wp2_with fail;refine HD.out.mono ?_;rintro e w2⟨hB2,kv',av',rfl,ho1,ho2⟩;obtain⟨ka,kc,rfl⟩:=X6 ho1;obtain⟨aa,ac,rfl⟩:=X6 ho2;have hwr:w.heap.size≤wr.heap.size:=hB.size;have hB2':Below w.heap.size w w2:=hB.trans (hB2.mono hwr);have hw2:w.heap.size≤w2.heap.size:=hB2'.size;have hrows:=Z0 r1 hB2;rw[hkl]at hrows;have HR:=Xqh (And.intro r2 r3);have hone:=JU n (.slice ka n.Xc.length kc) (.slice aa n.Xb.length ac) rfl rfl;have HO:=Xqh (And.intro (YP ho1 hwr) (YP ho2 hwr));have HONE:=Xqh hone;have HROW:=Xqh hrows;clear r1 r2 r3 ho1 ho2 hone hrows hT;unfold Nd.cells;go_wp2_with(at_builtin;refine wpList_append_own _ rfl _ _ 60 rfl w.heap.size 46 i0 _ 13 168 Tryz.underlying60 HI.out hz0 hz1 hz2 rfl (by decide) _ k rows.flatten rfl (HROW.out.alloc _) ⟨w2.heap.size,0,none⟩ 1 1 (n.cells (.slice ka n.Xc.length kc) (.slice aa n.Xb.length ac)) rfl rfl ?c1 ?c2 ?c3 ?c4 ?c5 ?_);(case c1=>intro j u hj;rw[Addr.add_mid,Nat.zero_add];exact Yi rfl (by simpa[Nd.cells]using hj));(case c2=>exact HONE.out);(case c3=>unfold maxLen;omega);(case c4=>omega);(case c5=>simp;omega);intro v' w3 hown hgrow _;have hB3:Below w.heap.size w w3:=(hB2'.alloc hw2 _).grown hgrow (by simp;omega) (fun q hq=>(Yx HROW.out q hq).1);have hst:A.ns.take (k+1)=A.ns.take k++ [n]:=by{rw[List.take_succ_eq_append_getElem hlt];have:=(List.getElem?_eq_some_iff.1 HG.out).2;rw[this]};have hfin:Zw w3 w.heap.size v' (A.ns.take (k+1)):=by{rw[hst];refine Zw.snoc (w:=w2.alloc (.cells (n.cells (.slice ka n.Xc.length kc) (.slice aa n.Xb.length ac)).toArray 46)) HR.out.1 (by rw[hkl];exact HROW.out.alloc _) (fun i m hm=>?_) (HO.out.1.alloc _) (HO.out.2.alloc _) hgrow (by rw[hkl];exact hown);obtain⟨kv1,av1,g1,g2,g3⟩:=HR.out.2 i m hm;exact⟨kv1,av1,g1,(Z0 g2 hB2).alloc _,(Z0 g3 hB2).alloc _⟩};have HFIN:=Xqh hfin;clear hown hgrow hst hfin;go_wp2;go_roundw;(case rel=>exact⟨k+1,hlt,by go_num,HFIN,hB3⟩);case measure=>simp[intOf];omega};·have hkl:A.ns.take k=A.ns:=List.take_of_length_le (by omega);have hfin:=hT.out;rw[hkl]at hfin;obtain⟨fa,fc,hfe⟩:=X6 hfin.choose_spec.1;have HF:=Xqh (And.intro hfin hfe);clear hfin hfe hT;go_wp2;go_ret;obtain⟨g1,g2⟩:=HF.out;subst g2;exact⟨hB,fa,fc,rfl,g1⟩
end
section
open Go.ChangeShapes Go.WideShapes Go.ChangeAt Go.RowKit Go.Deep
end
end Go.Proofs.YtpicinjcmjaogaaGreat
