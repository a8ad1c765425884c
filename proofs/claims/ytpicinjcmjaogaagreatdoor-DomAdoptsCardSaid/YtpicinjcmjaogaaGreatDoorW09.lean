import Derived.ProofKit
import Derived.BigQuiet
import Derived.Deep.MidRow
import Derived.Laws.StructEq
import Derived.Test.YtpicinjcmjaogaaGreatDoorW06
set_option maxRecDepth 100000
set_option maxHeartbeats 4000000
set_option linter.unusedVariables false
namespace Go.Proofs.YtpicinjcmjaogaaGreatDoor
section
open Go.ChangeShapes Go.WideShapes Go.ChangeAt Go.RowKit
theorem own_knob :ownKnob Tryz.prog.godebug=none:=by
 kernel_rfl
theorem laid_out :laidOutB Tryz.prog=true:=by
 kernel_rfl
theorem arg_ops {H:Type}{enc:TypeId×Value→H}{W:World}{base:Nat}{spare:Nat→Bool}{held:Bool}{v:Value}{d:DataW H}{p:List MemPlace}{r:Reach}{b0:Nat}(hv:Value.okWide Tryz.prog W r b0 22 v)(h:DataW.Trod enc Tryz.prog W base spare held 22 v d p):∃l,JW W v l:=by
 obtain⟨a,len,cap,rfl⟩:=okWide_slice Tryz.underlying22 hv
 obtain⟨fuel,hf⟩:=h
 simp only[Value.cells]at hf
 exact open_ops (fuel:=fuel) (x:=(d,p)) hf
end
section
open Go.RowKit
end
section
open Go.RowKit
theorem Own.back {w0 w w':World}{B:Nat}{l:List Xf}(h:Own w0 B l w)(hb:Below w.heap.size w w'):Below B w0 w':=h.low.trans (hb.mono h.big)
end
section
open Go.RowKit
theorem XcU (v1 v2:Value)(l1 l2:List Int)(w:World)(h1:Xy w v1 l1)(h2:Xy w v2 l2):Calls Tryz.prog 26 #[v1,v2] w fun e w'=>e= .returned (.bool (decide (l1=l2)))∧Below w.heap.size w w':=by
 obtain⟨a1,c1,rfl,p1,p2,p3⟩:=h1.form
 obtain⟨a2,c2,rfl,q1,q2,q3⟩:=h2.form
 clear h1 h2
 by_cases hl:l1.length=l2.length
 ·have hl1:((l1.length:Int)!=l2.length)=false:=by{simp[hl]};have HL:=Xqh hl;go_enter Tryz.func26,Tryz.ntmps26;go_wp2;go_loopw [5](fun i wr=>∃k:Nat,k≤l1.length∧i= .int .i64 k∧Hid (∀j:Nat,j<k→l1[j]?=l2[j]?)∧Below w.heap.size w wr)(fun i _=>l1.length-(intOf i).toNat);(case atStart=>exact⟨0,Nat.zero_le _,rfl,fun j hj=>by omega,Below.refl _ _⟩);case round=>obtain⟨k,hk,rfl,hT,hB⟩:=hrel;by_cases hlt:k<l1.length;·{have hlt2:k<l2.length:=by{have:=HL.out;omega};obtain⟨b1,o1,rfl,hcs1⟩:=p3 (by omega);obtain⟨b2,o2,rfl,hcs2⟩:=q3 (by omega);have d1:=Below.old hB (hcs1 k hlt);have d2:=Below.old hB (hcs2 k hlt2);clear hcs1 hcs2 p3 q3;obtain⟨x,hx⟩:∃x,l1[k]?=some x:=⟨_,List.getElem?_eq_getElem hlt⟩;obtain⟨y,hy⟩:∃y,l2[k]?=some y:=⟨_,List.getElem?_eq_getElem hlt2⟩;rw[hx]at d1;rw[hy]at d2;simp only[Option.getD_some]at d1 d2;have HX:=Xqh (And.intro hx hy);clear hx hy;by_cases he:x=y;·{have he1:(x !=y)=false:=by{simp[he]};have HE:=Xqh he;clear he;go_wp2_with(go_quiet(fail));go_wp2;go_roundw;(case rel=>exact⟨k+1,hlt,by go_num,fun j hj=>by by_cases hjk:j<k;·{exact hT.out j hjk};·have:j=k:=by{omega};rw[this,HX.out.1,HX.out.2,HE.out],Below.drewN hB _⟩);case measure=>simp[intOf];omega};·have he1:(x !=y)=true:=by{simp[he]};have HE:=Xqh he;clear he;go_wp2_with(go_quiet(fail));go_wp2;go_ret;exact⟨XW (decide_eq_false (fun h=>HE.out (by have a:=HX.out.1;have b:=HX.out.2;rw[h,b]at a;simpa using a.symm))).symm,Below.drewN hB _⟩};·have hfin:l1=l2:=by{apply List.ext_getElem?;intro j;by_cases hj:j<k;·{exact hT.out j hj};·have:=HL.out;rw[List.getElem?_eq_none (by omega),List.getElem?_eq_none (by omega)]};have HF:=Xqh hfin;clear hfin;go_wp2;go_ret;exact⟨XW (decide_eq_true HF.out).symm,hB⟩
 ·have hl1:((l1.length:Int)!=l2.length)=true:=by{simp;omega};have HL:=Xqh hl;clear hl;go_enter Tryz.func26,Tryz.ntmps26;go_wp2;go_ret;exact⟨XW (decide_eq_false (fun h=>HL.out (by rw[h]))).symm,Below.refl _ _⟩
end
section
open Go.RowKit
def Ar.YN (A : Ar) (h : Int) : List Int := if A.has h then (A.get h).Xc else []
def Ar.parentOf (A : Ar) (h : Int) : Int := if A.has h then (A.get h).Xd else 0
theorem Xeu {w:World}{b:Nat}{v:Value}{l:List Int}(h:w.ownsRow b 3 1 v l.length (l.map Xp)):Xy w v l:=by
 have h':XT w (fun k=>if v.ownBlock=some k then 1 else 0) 1 3 1 v l.length (l.map Xp):=by refine⟨⟨h.1,?_⟩,fun g hg=>by simp[hg]⟩;rcases h.2 with h2|⟨g,cap,cur,h3,_,h4⟩;·{exact .inl h2};·exact .inr ⟨g,cap,cur,h3,Nat.zero_le _,h4⟩
 exact h'.reads
/-- A list of integers in the call's own memory. -/
abbrev Xf.ints (v : Value) (l : List Int) : Xf := .row 3 1 v l.length (l.map Xp)
theorem Own.ints {w0 w:World}{B:Nat}{v:Value}{x:List Int}{l:List Xf}(h:Own w0 B l w)(hm:Xf.ints v x∈l):Xy w v x:=Xeu (h.row hm)
theorem Xap {w0 w:World}{B b:Nat}{A:Ar}{l:List Xf}{h:Int}(o:Own w0 B l w)(hm:Xf.arena b A∈l)(hS:A.YC):Calls Tryz.prog 27 #[.pointer (some ⟨b,0,none⟩),.int .i64 h] w fun e w'=>∃a c,e= .returned (.slice a (A.YN h).length c)∧Own w0 B (.ints (.slice a (A.YN h).length c) (A.YN h)::l) w':=by
 obtain⟨ρ,hA⟩:=o.arena hm
 refine(Xgt A ρ b h w hA (fun hh=>(hS.get hh).1)).mono ?_
 rintro e w'⟨hB,v,rfl,ho⟩
 obtain⟨a,c,rfl⟩:=X6 ho
 exact⟨a,c,rfl,o.newRow hB ho⟩
theorem Xev {w0 w:World}{B b:Nat}{A:Ar}{l:List Xf}{h:Int}(o:Own w0 B l w)(hm:Xf.arena b A∈l):Calls Tryz.prog 12 #[.pointer (some ⟨b,0,none⟩),.int .i64 h] w fun e w'=>e= .returned (.int .i64 (A.parentOf h))∧w=w':=by
 obtain⟨ρ,hA⟩:=o.arena hm
 exact Xgs A ρ b h w hA
end
section
open Go.RowKit
theorem Xex {w:World}{b b':Nat}{e e':TypeId}{s s':Nat}{v v':Value}{n n':Nat}{xs xs':List Value}(h:w.ownsRow b e s v n xs)(h':w.ownsRow b' e' s' v' n' xs')(hne:e≠e'):∀k,v.ownBlock=some k→v'.ownBlock≠some k:=by
 intro k hk hk'
 rcases h.2 with⟨rfl,_⟩|⟨g,cap,cur,rfl,_,hg,_⟩
 ·simp[Value.ownBlock]at hk
 ·rcases h'.2 with⟨rfl,_⟩|⟨g',cap',cur',rfl,_,hg',_⟩;·{simp[Value.ownBlock]at hk'};·simp[Value.ownBlock]at hk hk';subst hk;subst hk';rw[hg]at hg';simp at hg';exact hne hg'.2
end
section
open Go.RowKit
theorem Xc4 {w w':World}{base:Nat}{e:TypeId}{size:Nat}{v:Value}{n:Nat}{xs:List Value}(h:w.ownsRow base e size v n xs)(hk:∀k,base≤k→k<w.heap.size→w'.heap[k]?=w.heap[k]?):w'.ownsRow base e size v n xs:=by
 refine⟨h.1,?_⟩
 rcases h.2 with h2|⟨g,cap,cur,rfl,hb,hg,hr⟩
 ·exact Or.inl h2
 ·exact Or.inr ⟨g,cap,cur,rfl,hb,by rw[hk g hb (lt_of_block hg)];exact hg,hr⟩
theorem XkI {w0 w:World}{B b:Nat}{A:Ar}{l:List Xf}(o:Own w0 B l w)(hm:Xf.arena b A∈l):Calls Tryz.prog 14 #[.pointer (some ⟨b,0,none⟩)] w fun e w'=>e= .returned (.int .i64 A.ns.length)∧w=w':=by
 obtain⟨ρ,hA⟩:=o.arena hm
 obtain⟨a,c,mv,h0,-⟩:=hA.head
 exact Xjn A b a c w h0
end
section
open Go.RowKit
theorem Xy.cells {w:World}{a:Option Addr}{n c:Nat}{l:List Int}(h:Xy w (.slice a n c) l)(hp:0<l.length):∃b o,a=some ⟨b,o,none⟩∧n=l.length∧∀j x,l[j]?=some x→w.cell? ⟨b,o+j,none⟩=some (.int .i64 x):=by
 obtain⟨a',c',e,h2,h3,h4⟩:=h.form
 simp at e
 obtain⟨rfl,rfl,rfl⟩:=e
 obtain⟨b,o,h5,h6⟩:=h4 hp
 refine⟨b,o,h5,rfl,fun j x hx=>?_⟩
 have:=h6 j (List.getElem?_eq_some_iff.1 hx).1
 rw[hx]at this
 simpa using this
theorem XeR {α:Type}{l:List Int}{k:Nat}{x:Int}(f:Int→List α)(hx:l[k]?=some x):(l.take (k+1)).flatMap f=(l.take k).flatMap f++f x:=by
 have hk:=(List.getElem?_eq_some_iff.1 hx).1
 rw[List.take_succ_eq_append_getElem hk,(List.getElem?_eq_some_iff.1 hx).2]
 simp
end
section
open Go.RowKit
theorem XE.cells {w:World}{a:Option Addr}{n c:Nat}{l:List Xm}(h:XE w (.slice a n c) l)(hp:0<l.length):∃b o,a=some ⟨b,o,none⟩∧n=l.length∧∀j x,l[j]?=some x→w.cell? ⟨b,o+j*3,none⟩=some (.int .i64 x.1)∧w.cell? ⟨b,o+j*3+1,none⟩=some (.string x.2.1)∧w.cell? ⟨b,o+j*3+2,none⟩=some (.string x.2.2):=by
 obtain⟨a',c',e,h2,h3,h4⟩:=h.form
 simp at e
 obtain⟨rfl,rfl,rfl⟩:=e
 obtain⟨b,o,h5,h6⟩:=h4 hp
 exact⟨b,o,h5,rfl,h6⟩
end
section
open Go.RowKit
def Y1 (x y : Nd) : Prop := x.Xa = y.Xa ∧ x.space = y.space ∧ x.name = y.name ∧ x.Xb = y.Xb ∧ x.data = y.data ∧ x.pub = y.pub ∧ x.sys = y.sys ∧ x.XI = y.XI
instance (x y : Nd) : Decidable (Y1 x y) := inferInstanceAs (Decidable (_ ∧ _ ∧ _ ∧ _ ∧ _ ∧ _ ∧ _ ∧ _))
theorem XaY (w:World)(n:Nd)(kv av:Value)(t:TypeId):YB (w.alloc (.cells (n.cells kv av).toArray t)) w.heap.size 0 n kv av:=⟨Yi rfl rfl,Yi rfl rfl,Yi rfl rfl,Yi rfl rfl,Yi rfl rfl,Yi rfl rfl,Yi rfl rfl,Yi rfl rfl,Yi rfl rfl,Yi rfl rfl,Yi rfl rfl,Yi rfl rfl,Yi rfl rfl⟩
def Xdb (x y : Nd) : Prop := Y1 x y ∧ x.Xc = y.Xc ∧ x.Xd = y.Xd ∧ x.doc = y.doc ∧ x.Xg = y.Xg ∧ x.host = y.host
theorem Xhk (x y:Nd):Xdb x y↔x=y:=by
 obtain⟨x0,x1,x2,x3,x4,x5,x6,x7,x8,x9,x10,x11,x12⟩:=x
 obtain⟨y0,y1,y2,y3,y4,y5,y6,y7,y8,y9,y10,y11,y12⟩:=y
 simp only[Xdb,Y1,Nd.mk.injEq]
 constructor
 ·rintro⟨⟨a,b,c,d,e,f,g,h⟩,i,j,k,l,m⟩;exact⟨a,j,i,k,b,c,d,e,f,g,h,l,m⟩
 ·rintro⟨a,j,i,k,b,c,d,e,f,g,h,l,m⟩;exact⟨⟨a,b,c,d,e,f,g,h⟩,i,j,k,l,m⟩
instance (x y : Nd) : Decidable (Xdb x y) := inferInstanceAs (Decidable (_ ∧ _ ∧ _ ∧ _ ∧ _ ∧ _))
instance (x y : Nd) : Decidable (x = y) := decidable_of_decidable_of_iff (Xhk x y)
end
section
open Go.RowKit
end
section
/-- Two nodes, with all that hangs below them, are alike. -/
inductive ZJ (A B : Ar) : Int → Int → Prop
  | mk {h k : Int} (ha : A.has h) (hb : B.has k) (h1 : Y1 (A.get h) (B.get k)) (h2 : (A.get h).Xc.length = (B.get k).Xc.length) (h3 : (A.get h).Xg = 0 ↔ (B.get k).Xg = 0)
      (h4 : (A.get h).Xg ≠ 0 → ZJ A B (A.get h).Xg (B.get k).Xg) (h5 : ∀ (i : Nat) (x y : Int), (A.get h).Xc[i]? = some x → (B.get k).Xc[i]? = some y → ZJ A B x y) : ZJ A B h k
theorem ZJ.inv {A B:Ar}{h k:Int}(q:ZJ A B h k):A.has h∧B.has k∧Y1 (A.get h) (B.get k)∧(A.get h).Xc.length=(B.get k).Xc.length∧((A.get h).Xg=0↔(B.get k).Xg=0)∧((A.get h).Xg≠0→ZJ A B (A.get h).Xg (B.get k).Xg)∧∀(i:Nat)(x y:Int),(A.get h).Xc[i]?=some x→(B.get k).Xc[i]?=some y→ZJ A B x y:=by
 cases q with|mk ha hb h1 h2 h3 h4 h5=>exact⟨ha,hb,h1,h2,h3,h4,h5⟩
end
section
open Go.RowKit
end
section
open Go.RowKit
end
section
open Go.RowKit
end
section
open Go.RowKit
end
section
open Go.RowKit
end
section
open Go.RowKit
end
section
open Go.RowKit
end
section
open Go.RowKit
end
section
open Go.RowKit
theorem Xlv {A:Ar}{up:Int→Int}{rest:List Int}(h:A.Way up 0 rest):rest= []:=by
 cases rest with|nil=>{rfl}|cons x l=>obtain⟨rfl,h1,_⟩:=h;exact absurd h1 (Za A)
theorem Xlw {A:Ar}{up:Int→Int}{y:Int}{rest:List Int}(h:A.Way up y rest)(hy:y≠0):∃r,rest=y::r∧A.has y∧A.Way up (up y) r:=by
 cases rest with|nil=>{exact absurd h hy}|cons x l=>obtain⟨rfl,h1,h2⟩:=h;exact⟨l,rfl,h1,h2⟩
end
section
open Go.RowKit
end
section
open Go.RowKit
end
section
open Go.RowKit
end
section
open Go.RowKit
end
section
open Go.RowKit
end
section
open Go.RowKit
end
section
open Go.RowKit
end
section
open Go.RowKit
theorem XT.ext {w:World}{ρ ρ':Nat→Nat}{r:Nat}{e:TypeId}{size:Nat}{v:Value}{n:Nat}{xs:List Value}(h:XT w ρ r e size v n xs)(h0:r≠0)(hr:∀k,ρ k≠0→ρ' k=ρ k):XT w ρ' r e size v n xs:=⟨h.1,fun g hg=>by have:=h.2 g hg;rw[hr g (by omega)];exact this⟩
theorem ZP.ext {w:World}{ρ ρ':Nat→Nat}{eA:TypeId}{i:Nat}{n:Nd}{r:List Value}(h:ZP w ρ eA i n r)(hr:∀k,ρ k≠0→ρ' k=ρ k):ZP w ρ' eA i n r:=by
 obtain⟨kv,av,h1,h2,h3⟩:=h
 exact⟨kv,av,h1,h2.ext (by omega) hr,h3.ext (by omega) hr⟩
theorem Jb.ext {w:World}{ρ ρ':Nat→Nat}{mv:Value}{I:List Int}(h:Jb w ρ mv I)(hr:∀k,ρ k≠0→ρ' k=ρ k):Jb w ρ' mv I:=by
 obtain⟨L,h1,h2,h3⟩:=h
 refine⟨L,h1,h2,?_⟩
 rcases h3 with h3|⟨mb,h4,h5,h6⟩
 ·exact .inl h3
 ·exact .inr ⟨mb,h4,by rw[hr mb (by omega)];exact h5,h6⟩
theorem roles_two {w:World}{ρ:Nat→Nat}{base i:Nat}{e:TypeId}{kv av:Value}{n m s:Nat}{xs ys:List Value}(hρ:∀k,ρ k≠0→k<base)(hb:base≤w.heap.size)(hk:w.ownsRow base 3 1 kv n xs)(ha:w.ownsRow base 120 s av m ys):∃ρ':Nat→Nat,(∀k,ρ k≠0→ρ' k=ρ k)∧(∀k,k<base→ρ' k=ρ k)∧(∀k,ρ' k≠0→k<w.heap.size)∧XT w ρ' (2*i+4) 3 1 kv n xs∧XT w ρ' (2*i+5) 120 s av m ys:=by
 have hap:∀k,kv.ownBlock=some k→av.ownBlock=some k→False:=fun k h1 h2=>by rcases hk.2 with⟨rfl,-⟩|⟨g,cap,cur,rfl,-,hg,-⟩;·{simp[Value.ownBlock]at h1};rcases ha.2 with⟨rfl,-⟩|⟨g',cap',cur',rfl,-,hg',-⟩;·{simp[Value.ownBlock]at h2};simp[Value.ownBlock]at h1 h2;subst h1;subst h2;rw[hg]at hg';simp at hg'
 have hkb:=Yx hk
 have hab:=Yx ha
 refine⟨fun k=>if kv.ownBlock=some k then 2*i+4 else if av.ownBlock=some k then 2*i+5 else ρ k,fun k h=>?_,fun k h=>?_,fun k h=>?_,⟨YP hk (Nat.zero_le _),fun g hg=>?_⟩,⟨YP ha (Nat.zero_le _),fun g hg=>?_⟩⟩
 ·have hlt:=hρ k h;dsimp only;rw[if_neg (fun e=>by have:=(hkb k e).1;omega),if_neg (fun e=>by have:=(hab k e).1;omega)]
 ·dsimp only;rw[if_neg (fun e=>by have:=(hkb k e).1;omega),if_neg (fun e=>by have:=(hab k e).1;omega)]
 ·dsimp only at h;split at h;·{rename_i e;exact(hkb k e).2};·split at h;·{rename_i e;exact(hab k e).2};·have:=hρ k h;omega
 ·dsimp only;rw[if_pos hg]
 ·dsimp only;rw[if_neg (fun e=>hap g e hg),if_pos hg]
theorem YX.addedK {w w1:World}{ρ:Nat→Nat}{e eA:TypeId}{nv kv av:Value}{ns:List Nd}{rows:List (List Value)}{n:Nd}{gg cap:Nat}(hl:∀k,ρ k≠0→k<w.heap.size)(hrole:∀g,nv.ownBlock=some g→ρ g=2)(hrl:rows.length=ns.length)(hrows:∀i n,ns[i]?=some n→∃r,rows[i]?=some r∧ZP w ρ eA i n r)(hkv:XT w ρ (2*ns.length+4) 3 1 kv n.Xc.length (n.Xc.map Xp))(hav:XT w ρ (2*ns.length+5) eA 3 av n.Xb.length (n.Xb.flatMap Xv))(hU:Upd (fun k=>nv.ownBlock=some k) w w1)(hown:w1.ownsRow 0 e 13 (.slice (some ⟨gg,0,none⟩) (ns.length+1) cap) (ns.length+1) (rows.flatten++n.cells kv av))(hat:nv.ownBlock=some gg∨w.heap.size≤gg):(∀k,k<w.heap.size→(if k=gg then 2 else ρ k)=ρ k)∧YX w1 (fun k=>if k=gg then 2 else ρ k) e eA (.slice (some ⟨gg,0,none⟩) (ns.length+1) cap) (ns++ [n]):=by
 have hr':∀k,k<w.heap.size→(if k=gg then 2 else ρ k)=ρ k:=fun k hk=>by split;·{rename_i e;subst e;rcases hat with hat|hat;·{exact(hrole _ hat).symm};·omega};·rfl
 have hF:∀k r,(fun k=>if k=gg then 2 else ρ k) k=r→3≤r→¬(nv.ownBlock=some k):=by intro k r hr h3 hf;dsimp only at hr;have:=hrole k hf;split at hr<;>omega
 refine⟨hr',rows++ [n.cells kv av],⟨by simpa[List.flatten_append]using hown,?_⟩,by simp[hrl],?_⟩
 ·intro g hg;simp[Value.ownBlock]at hg;simp[hg]
 ·intro i m hm;rw[List.getElem?_append]at hm;split at hm;·{rename_i hi;obtain⟨r,hr,hM⟩:=hrows i m hm;exact⟨r,by rw[List.getElem?_append_left (by omega)];exact hr,(hM.role hr').upd hU (fun k hk=>by rcases hk with hk|hk<;>exact hF k _ hk (by omega))⟩};·rename_i hi;have hi':i=ns.length:=by{have:=(List.getElem?_eq_some_iff.1 hm).1;simp at this;omega};subst hi';simp at hm;subst hm;exact⟨n.cells kv av,by rw[←hrl];simp,kv,av,rfl,(hkv.role hr').upd hU (fun k hk=>hF k _ hk (by omega)),(hav.role hr').upd hU (fun k hk=>hF k _ hk (by omega))⟩
theorem box_addK {w w1:World}{ρ:Nat→Nat}{b:Nat}{T e:TypeId}{nv x kv av v':Value}{ns:List Nd}{n:Nd}{rows:List (List Value)}(hl:∀k,ρ k≠0→k<w.heap.size)(hb:ρ b=1)(hbox:w.heap[b]?=some (.cells #[nv,x] T (0,0)))(hrole:∀g,nv.ownBlock=some g→ρ g=2)(hrl:rows.length=ns.length)(hrows:∀i n,ns[i]?=some n→∃r,rows[i]?=some r∧ZP w ρ 120 i n r)(hkv:XT w ρ (2*ns.length+4) 3 1 kv n.Xc.length (n.Xc.map Xp))(hav:XT w ρ (2*ns.length+5) 120 3 av n.Xb.length (n.Xb.flatMap Xv))(hU:Upd (fun k=>nv.ownBlock=some k) w w1)(hown:w1.ownsRow 0 e 13 v' (ns.length+1) (rows.flatten++n.cells kv av))(hat:v'.ownBlock=nv.ownBlock∨∃g,v'.ownBlock=some g∧w.heap.size≤g):∃ρ',(∀k,ρ' k≠0→k<(w1.setCell ⟨b,0,none⟩ v').heap.size)∧ρ' b=1∧(w1.setCell ⟨b,0,none⟩ v').heap[b]?=some (.cells #[v',x] T (0,0))∧YX (w1.setCell ⟨b,0,none⟩ v') ρ' e 120 v' (ns++ [n])∧(∀k,k<w.heap.size→ρ' k=ρ k)∧Xr ρ ρ' w (w1.setCell ⟨b,0,none⟩ v')∧Upd (fun k=>k=b∨nv.ownBlock=some k) w (w1.setCell ⟨b,0,none⟩ v'):=by
 have hbl:=lt_of_block hbox
 rcases hown.2 with⟨hv,h0⟩|⟨gg,cap,cur,hv,hb0,hg,hn,hc,hs,ht⟩
 ·omega
 subst hv
 have hat':nv.ownBlock=some gg∨w.heap.size≤gg:=by rcases hat with hat|⟨g,q1,q2⟩;·{left;rw[←hat];rfl};·simp[Value.ownBlock]at q1;subst q1;exact .inr q2
 have hnb:∀k,nv.ownBlock=some k→k≠b:=fun k hk e=>by have:=hrole k hk;rw[e]at this;omega
 have hgb:gg≠b:=by rcases hat' with q|q;·{exact hnb gg q};·omega
 obtain⟨hr',hN⟩:=YX.addedK hl hrole hrl hrows hkv hav hU hown hat'
 have hUb:Upd (fun k=>k=b) w1 (w1.setCell ⟨b,0,none⟩ (.slice (some ⟨gg,0,none⟩) (ns.length+1) cap)):=(Upd.refl (fun k=>k=b) w1).setCell (p:=⟨b,0,none⟩) (.inr rfl) _
 have hF:∀k r,(fun k=>if k=gg then 2 else ρ k) k=r→r≠1→¬k=b:=by rintro k r hk hk1 rfl;dsimp only at hk;rw[if_neg (Ne.symm hgb)]at hk;omega
 obtain⟨rows',hN1,hN2,hN3⟩:=hN
 have hUU:Upd (fun k=>k=b∨nv.ownBlock=some k) w (w1.setCell ⟨b,0,none⟩ (.slice (some ⟨gg,0,none⟩) (ns.length+1) cap)):=(hU.mono (fun k _ hk=> .inr hk)).trans (hUb.mono (fun k _ hk=> .inl hk))
 refine⟨fun k=>if k=gg then 2 else ρ k,fun k hk=>?_,?_,?_,⟨rows',hN1.upd hUb (fun k hk=>hF k _ hk (by omega)),hN2,fun i m hm=>?_⟩,hr',⟨hUU.mono (fun k _ hk=>?_),hr'⟩,hUU⟩
 ·dsimp only at hk;have hsz:(w1.setCell ⟨b,0,none⟩ (.slice (some ⟨gg,0,none⟩) (ns.length+1) cap)).heap.size=w1.heap.size:=by{simp};rw[hsz];split at hk;·{rename_i e;rw[e];exact lt_of_block hg};·exact Nat.lt_of_lt_of_le (hl k hk) hU.size
 ·dsimp only;rw[if_neg (Ne.symm hgb)];exact hb
 ·exact Xf1 ((hU.block b hbl (fun e=>hnb b e rfl)).trans hbox)
 ·obtain⟨r,q1,q2⟩:=hN3 i m hm;exact⟨r,q1,q2.upd hUb (fun k hk=>by rcases hk with hk|hk<;>exact hF k _ hk (by omega))⟩
 ·rcases hk with rfl|hk;·{rw[hb];omega};·rw[hrole k hk];omega
end
section
open Go.ChangeShapes Go.WideShapes Go.ChangeAt Go.RowKit Go.Deep
end
end Go.Proofs.YtpicinjcmjaogaaGreatDoor
