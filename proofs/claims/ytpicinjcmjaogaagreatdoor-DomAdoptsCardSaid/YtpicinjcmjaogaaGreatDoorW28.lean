import Derived.Deep.RegionLaw
import Derived.Lib.SliceRun
import Derived.Test.YtpicinjcmjaogaaGreatDoorW27
set_option maxRecDepth 100000
set_option maxHeartbeats 4000000
set_option linter.unusedVariables false
namespace Go.Proofs.YtpicinjcmjaogaaGreatDoor
section
open Go.RowKit Go.Shelf
attribute [local go_sem] Oper.semAt_some
theorem Xdu {α:Type}(p:α→Bool)(l:List α):Yt p l= -1∨∃(k:Nat)(x:α),Yt p l=k∧l[k]?=some x∧p x=true:=by
 unfold Yt
 cases h:l.findIdx? p with|none=>{exact .inl rfl}|some i=>rw[List.findIdx?_eq_some_iff_getElem]at h;obtain⟨hi,hp,-⟩:=h;exact .inr ⟨i,l[i],rfl,List.getElem?_eq_getElem hi,hp⟩
theorem Xh0 (A:Ar)(el s:Int)(name:ByteArray):(A.Yp el s name).2.1= -1∨∃(k:Nat)(x:Xm),(A.Yp el s name).2.1=k∧(A.Yp el s name).1[k]?=some x:=by
 unfold Ar.Yp
 split
 ·exact .inl rfl
 ·rcases Xdu (YW s (A.Zh el s name)) (A.get el).Xb with h|⟨k,x,h1,h2,-⟩;·{exact .inl h};·exact .inr ⟨k,x,h1,h2⟩
theorem Xmr {w0 w:World}{B b:Nat}{A:Ar}{L:List Xf}{d:Int}{name:ByteArray}(o:Own w0 B (.arena b A::L) w)(hI:A.Inv)(hsz:A.ns.length+3≤1000000)(hs:name.size≤1000000):Calls Tryz.prog 66 #[.pointer (some ⟨b,0,none⟩),.int .i64 d,.string name] w fun e w'=>e= .returned (Xl (A.Y0 d name).1)∧Own w0 B (.arena b (A.Y0 d name).2::L) w':=by
 have HS:=hI.short (show A.ns.length≤1000000 by omega)
 unfold Xl
 by_cases hh:A.has d
 ·have HC:=Xqh (Zz (opt:= -1) (x:=d) o (b:=b) (A:=A) (by simp) HS (Zy.trans (if_pos hh)));obtain⟨nd,hnd⟩:∃nd,A.get d=nd:=⟨_,rfl⟩;have HK:=Xqh (fun W(q:Own w0 B (.arena b A::L) W)=>Zv (b:=b) (A:=A) q (by simp) HS hh hnd);by_cases hk:nd.Xa=1;·{have e1:(nd.Xa !=1)=false:=by{simp[hk]};have h0:A.XA d=0:=by{unfold Ar.XA;rw[if_neg (fun q=>q hh),if_neg (fun q=>q (by rw[hnd];exact hk))]};have HV:=Xqh (fun W=>Xmo name W hs);have HE:Hid (A.Y0 d name=if Y5 name.toList=false then((0,8),A)else A.element d 1 (ZM name) []):=Xqh (by unfold Ar.Y0;rw[if_neg (fun q=>q h0)]);have HL:=Xqh (fun W=>XgX name W hs);have HEL:=Xqh (fun W(q:Own w0 B (.arena b A::L) W)=>q.call (fun ρ hA=>XaO A ρ b d 1 (ZM name) (.slice none 0 0) [] W hA (XgC W) hsz (by simp)));unfold Xl at HEL;clear o hI hh hk hnd HS h0;cases hv:Y5 name.toList with|true=>{have HF:Hid (A.Y0 d name=A.element d 1 (ZM name) []):=Xqh (by rw[HE.out,hv];rfl);rw[hv]at HV;clear hv HE;generalize A.Y0 d name=G at*;go_enter Tryz.func66,Tryz.ntmps66;go_wp2_with fail;refine HC.out.mono ?_;rintro e w1⟨rfl,o1⟩;have HK1:=Xqh (HK.out _ o1);clear HC HK o1;go_wp2_with fail;refine HK1.out.mono ?_;rintro e w2⟨rfl,o2,-⟩;have HO2:=Xqh o2;clear HK1 o2;go_wp2_with fail;refine(HV.out _).mono ?_;rintro e w3⟨rfl,hB3⟩;have HO3:=Xqh (HO2.out.read hB3);clear HV HO2 hB3;go_wp2_with fail;refine(HL.out _).mono ?_;rintro e w4⟨rfl,hB4⟩;have HE4:=Xqh (HEL.out _ (HO3.out.read hB4));clear HL HO3 hB4 HEL;go_wp2_with fail;refine HE4.out.mono ?_;rintro e w5⟨rfl,o5⟩;have HO5:=Xqh o5;clear HE4 o5;go_wp2;go_ret2;rw[HF.out];exact⟨rfl,HO5.out⟩}|false=>have HF:Hid (A.Y0 d name=((0,8),A)):=Xqh (by rw[HE.out,hv];rfl);rw[hv]at HV;clear hv HE HL HEL;generalize A.Y0 d name=G at*;go_enter Tryz.func66,Tryz.ntmps66;go_wp2_with fail;refine HC.out.mono ?_;rintro e w1⟨rfl,o1⟩;have HK1:=Xqh (HK.out _ o1);clear HC HK o1;go_wp2_with fail;refine HK1.out.mono ?_;rintro e w2⟨rfl,o2,-⟩;have HO2:=Xqh o2;clear HK1 o2;go_wp2_with fail;refine(HV.out _).mono ?_;rintro e w3⟨rfl,hB3⟩;have HO3:=Xqh (HO2.out.read hB3);clear HV HO2 hB3;go_wp2;go_ret2;rw[HF.out];exact⟨rfl,HO3.out⟩};·have e1:(nd.Xa !=1)=true:=by{simp[hk]};have h9:A.XA d=9:=by{unfold Ar.XA;rw[if_neg (fun q=>q hh),if_pos (by rw[hnd];exact hk)]};have HF:Hid (A.Y0 d name=((0,9),A)):=Xqh (by unfold Ar.Y0;rw[if_pos (by rw[h9];decide),h9]);clear o hI hh hk hnd HS h9;generalize A.Y0 d name=G at*;go_enter Tryz.func66,Tryz.ntmps66;go_wp2_with fail;refine HC.out.mono ?_;rintro e w1⟨rfl,o1⟩;have HK1:=Xqh (HK.out _ o1);clear HC HK o1;go_wp2_with fail;refine HK1.out.mono ?_;rintro e w2⟨rfl,o2,-⟩;have HO2:=Xqh o2;clear HK1 o2;go_wp2;go_ret2;rw[HF.out];exact⟨rfl,HO2.out⟩
 ·have HC:=Xqh (Zz (opt:= -1) (x:=d) o (b:=b) (A:=A) (by simp) HS (Zy.trans (if_neg hh)));have h3:A.XA d=3:=by{unfold Ar.XA;rw[if_pos hh]};have HF:Hid (A.Y0 d name=((0,3),A)):=Xqh (by unfold Ar.Y0;rw[if_pos (by rw[h3];decide),h3]);clear o hI hh HS h3;generalize A.Y0 d name=G at*;go_enter Tryz.func66,Tryz.ntmps66;go_wp2_with fail;refine HC.out.mono ?_;rintro e w1⟨rfl,o1⟩;have HO1:=Xqh o1;clear HC o1;go_wp2;go_ret2;rw[HF.out];exact⟨rfl,HO1.out⟩
theorem Xdv {w:World}{base:Nat}{e:TypeId}{size g n cap:Nat}{xs:List Value}(h:w.ownsRow base e size (.slice (some ⟨g,0,none⟩) n cap) n xs):∃cur,w.heap[g]?=some (.cells cur e (0,0))∧n*size≤cur.size:=by
 rcases h.2 with⟨h1,-⟩|⟨g',cap',cur,h1,-,h2,h3,-,h4,-⟩
 ·exact absurd h1 (by simp)
 ·have:g=g'∧cap=cap':=by{injection h1 with a b c;injection a with a;injection a with a;exact⟨a,c⟩};obtain⟨rfl,rfl⟩:=this;exact⟨cur,h2,by rw[h4];exact Nat.mul_le_mul_right _ h3⟩
theorem Own.setRow {w0 W w1:World}{B base:Nat}{e:TypeId}{size:Nat}{v v':Value}{n n':Nat}{xs xs':List Value}{l:List Xf}(h:Own w0 B (.row e size v n xs::l) W)(hown:w1.ownsRow base e size v' n' xs')(hu:Upd (fun k=>v.ownBlock=some k) W w1)(hat:v'.ownBlock=v.ownBlock):Own w0 B (.row e size v' n' xs'::l) w1:=by
 obtain⟨S1,⟨h1,h2⟩,hf⟩:=h.front
 exact hf w1 _ ⟨fun k=>v'.ownBlock=some k,⟨YP hown (Nat.zero_le _),fun _=>Iff.rfl⟩,hu.mono (fun k _ hk=>(h2 k).2 hk),fun k hk hv=>(h2 k).2 (by rw[←hat];exact hv)⟩
theorem Xh1 {α β:Type}{g:α→β}{f:α→α}{r:β→β}(h:∀x,r (g x)=g (f x)):∀(l:List α)(k:Nat),(l.map g).modify k r=(l.modify k f).map g
 | [],k=>by{simp}
 |a::l,0=>by{simp[h]}
 |a::l,k+1=>by{simp[Xh1 h l k]}
theorem Xh2 (l:List Xm)(k:Nat)(val:ByteArray):(l.flatMap Xv).set (k*3+2) (.string val)=(l.modify k (fun x=>(x.1,x.2.1,val))).flatMap Xv:=by
 rw[XdP,XdP,Nat.mul_comm k 3,Xcp (s:=3) (.string val) (rows:=l.map Xv) (by intro r hr;obtain⟨x,-,rfl⟩:=List.mem_map.1 hr;rfl) k 2 (by omega)]
 rw[Xh1 (g:=Xv) (r:=fun r=>r.set 2 (.string val)) (f:=fun x:Xm=>(x.1,x.2.1,val)) (fun x=>rfl)]
theorem Xms (A:Ar)(el s:Int)(name val:ByteArray):A.YO el s name val=if(A.Yp el s name).2.2.2≠0 then((A.Yp el s name).2.2.2,A)else if Jl name.toList=false then(8,A)else A.X0 el (if(A.Yp el s name).2.1<0 then(A.Yp el s name).1++ [(s,(A.Yp el s name).2.2.1,val)]else(A.Yp el s name).1.modify (A.Yp el s name).2.1.toNat (fun x=>(x.1,x.2.1,val))):=by
 unfold Ar.YO Ar.JP Ar.Yp
 by_cases h:A.Yo el s=0
 ·simp[h]
 ·simp[h]
theorem Xh3 {A:Ar}(hI:A.Inv)(el s:Int)(name:ByteArray):(A.Yp el s name).1.length≤1000:=by
 unfold Ar.Yp
 split
 ·exact Nat.zero_le _
 ·rename_i h;by_cases hh:A.has el;·{exact(hI.loc el hh).at3};·exact absurd (show A.Yo el s≠0 by unfold Ar.Yo;rw[if_pos hh];decide) h
theorem Xmt {w0 w:World}{B b:Nat}{A:Ar}{L:List Xf}{el s:Int}{name val:ByteArray}(o:Own w0 B (.arena b A::L) w)(hI:A.Inv)(hsz:A.ns.length≤1000000)(hs:name.size≤1000000):Calls Tryz.prog 67 #[.pointer (some ⟨b,0,none⟩),.int .i64 el,.int .i64 s,.string name,.string val] w fun e w'=>e= .returned (.int .i64 (A.YO el s name val).1)∧Own w0 B (.arena b (A.YO el s name val).2::L) w':=by
 obtain⟨i0,hi,hz0,hz1,hz2⟩:=info_parts Xae
 have HIF:=Xqh hi
 clear hi
 have hS:=hI.short hsz
 have HC:=Xqh (XhZ (b:=b) (A:=A) (el:=el) (s:=s) o (by simp) hS hs)
 have hgr:=Xms A el s name val
 have hat:=Xh0 A el s name
 have hlen:=Xh3 hI el s name
 have HV:=Xqh (fun W=>Xmn name W hs)
 have HSA:=Xqh (fun v l' W(hl:l'.length≤1000000)(q:Own w0 B (.arena b A:: .atts v l'::L) W)=>q.call (fun ρ hA=>Xea A ρ b el v l' W hA (q.atts (v:=v) (x:=l') (by simp)) hl))
 clear o hI hS
 generalize A.Yp el s name=R at*
 generalize A.YO el s name val=G at*
 obtain⟨l,i,nm,er⟩:=R
 dsimp only at*
 have HG:=Xqh hgr
 clear hgr
 by_cases he:er=0
 ·subst he;cases hv:Jl name.toList with|false=>{have HF:Hid (G=(8,A)):=Xqh (by rw[HG.out,hv];rfl);rw[hv]at HV;clear hv HG hat HSA;go_enter Tryz.func67,Tryz.ntmps67;go_wp2_with fail;refine HC.out.mono ?_;rintro e w1⟨aa,ac,rfl,o1⟩;have HO1:=Xqh o1;clear HC o1;go_wp2_with fail;refine(HV.out _).mono ?_;rintro e w2⟨rfl,hB2⟩;have HO:=Xqh (HO1.out.read hB2);clear HV HO1 hB2;go_wp2;go_ret;rw[HF.out];exact⟨rfl,HO.out.drop⟩}|true=>rw[hv]at HV;rcases hat with hi|⟨k,x,hi,hx⟩;·{subst hi;have HF:Hid (G=A.X0 el (l++ [(s,nm,val)])):=Xqh (by rw[HG.out,hv];rfl);have HSA2:=Xqh (fun v W=>HSA.out v (l++ [(s,nm,val)]) W (by simp;omega));clear hv HG HSA;go_enter Tryz.func67,Tryz.ntmps67;go_wp2_with fail;refine HC.out.mono ?_;rintro e w1⟨aa,ac,rfl,o1⟩;have HO1:=Xqh o1;clear HC o1;go_wp2_with fail;refine(HV.out _).mono ?_;rintro e w2⟨rfl,hB2⟩;have o2:=HO1.out.read hB2;have HR:=Xqh (YP (o2.row (e:=120) (size:=3) (v:= .slice aa l.length ac) (n:=l.length) (xs:=l.flatMap Xv) (by simp)) (Nat.zero_le _));have HO2:=Xqh o2;clear HV HO1 hB2 o2;go_wp2_with(at_builtin;refine wpList_append_own_at _ rfl _ _ 39 rfl 0 120 i0 _ 3 40 Tryz.underlying39 HIF.out hz0 hz1 hz2 rfl (by decide) _ _ _ rfl (HR.out.alloc _) ⟨w2.heap.size,0,none⟩ 1 1 (Xv (s,nm,val)) rfl rfl ?c1 ?c2 ?c3 ?c4 ?c5 ?_);(case c1=>intro j u hj;rw[Addr.add_mid,Nat.zero_add];exact Yi rfl (by simpa[Xv]using hj));(case c2=>intro u hu;simp[Xv]at hu;rcases hu with rfl|rfl|rfl<;>rfl);(case c3=>unfold maxLen;omega);(case c4=>omega);(case c5=>first|(simp;done)|(simp;omega));intro v' w4 hown hgrow _ hat;have o4:=HO2.out;have o5:=((o4.alloc (.cells #[.int .i64 s,.string nm,.string val] 120)).swap.grow hown hgrow (by simpa using hat)).swap.drop;have e1:(l++ [(s,nm,val)]).length=l.length+1:=by{simp};have e2:(l++ [(s,nm,val)]).flatMap Xv=l.flatMap Xv++Xv (s,nm,val):=by{simp};have o6:Own w0 B (.atts v' (l++ [(s,nm,val)]):: .arena b A::L) w4:=by{unfold Xf.atts;rw[e1,e2];exact o5};have HS6:=Xqh (HSA2.out _ _ o6.swap);clear o4 o5 o6 hown hgrow hat HSA2 e1 e2 HO2 HR;go_wp2_with fail;refine HS6.out.mono ?_;rintro e w5⟨rfl,o7⟩;have HO7:=Xqh o7;clear HS6 o7;go_wp2;go_ret;rw[HF.out];exact⟨rfl,HO7.out.swap.drop⟩};·subst hi;have hk:=(List.getElem?_eq_some_iff.1 hx).1;have HF:Hid (G=A.X0 el (l.modify k (fun x=>(x.1,x.2.1,val)))):=Xqh (by rw[HG.out,if_neg (fun q=>q rfl),hv,if_neg (by decide),if_neg (by omega),Int.toNat_natCast]);have HSA2:=Xqh (fun v W=>HSA.out v (l.modify k (fun x=>(x.1,x.2.1,val))) W (by simp;omega));have hk1:(k:Int)<(l.length:Int):=by{omega};have hk2:(l.length:Int)≤1000:=by{omega};clear hv HG HSA hx;go_enter Tryz.func67,Tryz.ntmps67;go_wp2_with fail;refine HC.out.mono ?_;rintro e w1⟨aa,ac,rfl,o1⟩;have HO1:=Xqh o1;clear HC o1;go_wp2_with fail;refine(HV.out _).mono ?_;rintro e w2⟨rfl,hB2⟩;have o2:=HO1.out.read hB2;clear HV HO1 hB2;have hrow:=o2.row (e:=120) (size:=3) (v:= .slice aa l.length ac) (n:=l.length) (xs:=l.flatMap Xv) (by simp);obtain⟨g,cap,hsl,hgl,-⟩:=World.ownsRow.form hrow (by omega);have hea:aa=some ⟨g,0,none⟩∧ac=cap:=by{injection hsl with h1 h2 h3;exact⟨h1,h3⟩};obtain⟨rfl,rfl⟩:=hea;obtain⟨cur,hcur,hcs⟩:=Xdv hrow;have hcell:∃u,w2.cell? ⟨g,k*3+2,none⟩=some u:=by{rw[cell_of_row w2 _ _ _ _ _ hcur];exact⟨_,Array.getElem?_eq_getElem (by omega)⟩};obtain⟨u,d2⟩:=hcell;have f2:w2.frozen? ⟨g,k*3+2,none⟩=false:=frozen_of_row w2 _ _ _ _ hcur;have hset:=XbI hrow (k*3+2) (.string val);have o3:=o2.setRow hset ((Upd.refl (fun k=>(Value.slice (some ⟨g,0,none⟩) l.length ac).ownBlock=some k) w2).setCell (p:=⟨g,k*3+2,none⟩) (.inr rfl) (.string val)) rfl;rw[Xh2]at o3;have e1:l.length=(l.modify k (fun x=>(x.1,x.2.1,val))).length:=by{simp};have o4:Own w0 B (.atts (.slice (some ⟨g,0,none⟩) l.length ac) (l.modify k (fun x=>(x.1,x.2.1,val))):: .arena b A::L) (w2.setCell ⟨g,k*3+2,none⟩ (.string val)):=by{unfold Xf.atts;rw[←e1];exact o3};have HS6:=Xqh (HSA2.out _ _ o4.swap);clear o2 o3 o4 hrow hsl hgl hcur hcs hset e1 HSA2;go_wp2_with fail;refine HS6.out.mono ?_;rintro e w5⟨rfl,o7⟩;have HO7:=Xqh o7;clear HS6 o7;go_wp2;go_ret;rw[HF.out];exact⟨rfl,HO7.out.swap.drop⟩
 ·have HF:Hid (G=(er,A)):=Xqh (HG.out.trans (if_pos he));have e1:(er !=0)=true:=by{simp[he]};clear he HG hat HSA HV;go_enter Tryz.func67,Tryz.ntmps67;go_wp2_with fail;refine HC.out.mono ?_;rintro e w1⟨aa,ac,rfl,o1⟩;have HO:=Xqh o1;clear HC o1;go_wp2;go_ret;rw[HF.out];exact⟨rfl,HO.out.drop⟩
end
section
open Go.RowKit Go.Shelf
attribute [local go_sem] Oper.semAt_some
theorem Xmu {P:Program}(w:World)(t e ty:TypeId)(z:Value)(zs:List Value)(ht:P.underlying t=some (.slice e))(hv:∀w,(zeroValue e).run P w= .ok z w)(hz:z.cells=zs.toArray)(h1:∀v∈zs,v.oneCell'=true)(b o c:Nat)(hc:∀j,j<zs.length→(w.cell? ⟨b,o+j,none⟩).isSome=true)(hf:∀j,j<zs.length→w.frozen? ⟨b,o+j,none⟩=false):(Builtin.clear_ #[t] ty #[.slice (some ⟨b,o,none⟩) 1 c]).run P w= .ok (.tuple #[]) (w.setCells b o zs):=by
 have hzc:(Builtin.zeroCells z.cells 1).toList=zs:=by rw[hz];simp[Builtin.zeroCells];apply List.ext_getElem;·{simp};·intro i h1 h2;simp[Nat.mod_eq_of_lt h2,h2]
 have hst:=run_storeCells_cells (P:=P) b o zs 0 w (by simpa using hc) (by simpa using hf) h1
 simp only[Nat.add_zero]at hst
 simp[Builtin.clear_,run_underlying ht,hv,hzc,hst]
abbrev Xfw : List Value := [.int .i64 0, .string ByteArray.empty, .string ByteArray.empty]
theorem Xh4 (l:List Xm)(i:Nat):(l.eraseIdx i).flatMap Xv=(l.flatMap Xv).take (i*3)++(l.flatMap Xv).drop ((i+1)*3):=by
 have ht:∀(k:Nat)(l:List Xm),(l.flatMap Xv).take (k*3)=(l.take k).flatMap Xv:=by intro k;induction k with|zero=>{intro l;simp}|succ k ih=>intro l;cases l with|nil=>{simp}|cons a l=>have e:(k+1)*3=k*3+3:=by{omega};rw[e,List.take_succ_cons,List.flatMap_cons,List.flatMap_cons,←ih];simp[Xv]
 have hd:∀(k:Nat)(l:List Xm),(l.flatMap Xv).drop (k*3)=(l.drop k).flatMap Xv:=by intro k;induction k with|zero=>{intro l;simp}|succ k ih=>intro l;cases l with|nil=>{simp}|cons a l=>have e:(k+1)*3=k*3+3:=by{omega};rw[e,List.drop_succ_cons,List.flatMap_cons,←ih];simp[Xv]
 rw[ht,hd,←List.flatMap_append,List.eraseIdx_eq_take_drop_succ]
theorem Xmv (g cap i:Nat)(l:List Xm)(w:World)(hown:w.ownsRow 0 120 3 (.slice (some ⟨g,0,none⟩) l.length cap) l.length (l.flatMap Xv))(hi:i<l.length)(hl:l.length≤1000):Calls Tryz.prog 106 #[.slice (some ⟨g,0,none⟩) l.length cap,.int .i64 i,.int .i64 ((i:Int)+1)] w fun e w'=>e= .returned (.slice (some ⟨g,0,none⟩) (l.length-1) cap)∧w'.ownsRow 0 120 3 (.slice (some ⟨g,0,none⟩) (l.eraseIdx i).length cap) (l.eraseIdx i).length ((l.eraseIdx i).flatMap Xv)∧Upd (fun k=>k=g) w w':=by
 obtain⟨i0,hi0,hz0,hz1,hz2⟩:=info_parts Xae
 have HIF:=Xqh hi0
 obtain⟨cur,hcur,hcs⟩:=Xdv hown
 have hcap:l.length≤cap∧cap≤maxLen∧cur.size=cap*3∧cur.toList.take (l.length*3)=l.flatMap Xv:=by rcases hown.2 with⟨h1,-⟩|⟨g',cap',cur',h1,-,h2,h3,h4,h5,h6⟩;·{exact absurd h1 (by simp)};·have:g=g'∧cap=cap':=by{injection h1 with a b c;injection a with a;injection a with a;exact⟨a,c⟩};obtain⟨rfl,rfl⟩:=this;rw[hcur]at h2;injection h2 with h2;injection h2 with h2;subst h2;exact⟨h3,h4,h5,h6⟩
 obtain⟨p1,p2,p3,p4⟩:=hcap
 have hcl:∀k,k<l.length*3→cur[k]?=(l.flatMap Xv)[k]?:=fun k hk=>by rw[←p4,List.getElem?_take,if_pos hk,Array.getElem?_toList]
 obtain⟨news,hnews⟩:∃news,news=(l.flatMap Xv).drop ((i+1)*3):=⟨_,rfl⟩
 have hfl:(l.flatMap Xv).length=l.length*3:=XcP l
 have hlen:news.length=(l.length-(i+1))*3:=by rw[hnews,List.length_drop,hfl];omega
 obtain⟨A,hA,hsrc⟩:∃A:Addr,(if cap=i+1 then some (⟨g,0,none⟩:Addr)else some ⟨g,(i+1)*3,none⟩)=some A∧Hid (∀t u,news[t]?=some u→w.drew.cell? (A.add t)=some u):=by by_cases h:cap=i+1;·{refine⟨⟨g,0,none⟩,by simp[h],Xqh (fun t u hu=>?_)⟩;have h0:news.length=0:=by{rw[hlen];omega};rw[List.length_eq_zero_iff.1 h0]at hu;simp at hu};·refine⟨⟨g,(i+1)*3,none⟩,by simp[h],Xqh (fun t u hu=>?_)⟩;have ht:t<news.length:=(List.getElem?_eq_some_iff.1 hu).1;rw[Addr.add_lit];show w.cell? _=_;rw[cell_of_row w g _ cur _ _ hcur,hcl _ (by omega),←hu,hnews,List.getElem?_drop]
 have s1:Hid (news.length=(l.length-(i+1))*3):=Xqh hlen
 have hone:∀u∈l.flatMap Xv,u.oneCell'=true:=fun u hu=>by obtain⟨x,-,hx⟩:=List.mem_flatMap.1 hu;simp[Xv]at hx;rcases hx with rfl|rfl|rfl<;>rfl
 have s2:Hid (∀u∈news,u.oneCell'=true):=Xqh (fun u hu=>hone u (by rw[hnews]at hu;exact List.mem_of_mem_drop hu))
 have s3:Hid (∀t,t<news.length→(w.drew.cell? ⟨g,0+i*3+t,none⟩).isSome=true∧w.drew.frozen? ⟨g,0+i*3+t,none⟩=false):=Xqh (fun t ht=>by refine⟨?_,frozen_of_row w g _ cur _ hcur⟩;show(w.cell? _).isSome=true;rw[cell_of_row w g _ cur _ _ hcur];have:i*3+t<cur.size:=by{omega};simp[this])
 obtain⟨W1,hW1⟩:∃W1,W1=w.drew.setCells g (0+i*3) news:=⟨_,rfl⟩
 obtain⟨c1,k1,k2,k3⟩:=Jp g 120 news (0+i*3) w.drew cur hcur
 rw[←hW1]at k1
 have hcl1:∀ty,(Builtin.clear_ #[39] ty #[.slice (some ⟨g,(i+(l.length-(i+1)))*3,none⟩) (l.length-(i+(l.length-(i+1)))) (cap-(i+(l.length-(i+1))))]).run Tryz.prog W1= .ok (.tuple #[]) (W1.setCells g ((i+(l.length-(i+1)))*3) Xfw):=fun ty=>by have e1:l.length-(i+(l.length-(i+1)))=1:=by{omega};rw[e1];refine Xmu W1 _ 120 ty (.agg #[.int .i64 0,.string ByteArray.empty,.string ByteArray.empty]) Xfw Tryz.underlying39 (fun w=>by kernel_rfl) rfl (fun v hv=>by simp at hv;rcases hv with rfl|rfl|rfl<;>rfl) g _ _ (fun j hj=>?_) (fun j hj=>frozen_of_row W1 g _ c1 _ k1);rw[cell_of_row W1 g _ c1 _ _ k1];have hj3:j<3:=hj;have:(i+(l.length-(i+1)))*3+j<c1.size:=by{rw[k2];omega};simp[this]
 have hW:Hid (W1=w.drew.setCells g (0+i*3) news):=Xqh hW1
 have HK:Hid (W1.heap[g]?=some (.cells c1 120 (0,0))∧c1.size=cur.size∧∀k,c1[k]?=if 0+i*3≤k∧k<0+i*3+news.length∧k<cur.size then news[k-(0+i*3)]? else cur[k]?):=Xqh ⟨k1,k2,k3⟩
 have HUP:Hid (Upd (fun k=>k=g) w W1):=Xqh (by rw[hW1];exact((Upd.refl (fun k=>k=g) w).drew).setCells (b:=g) (.inr rfl) _ _)
 have HN:=Xqh hnews
 have HCL:=Xqh hcl
 have hic:i≤cap:=by omega
 have hjc:i+1≤cap:=by omega
 have hil:(i:Int)+1≤l.length:=by omega
 have hl2:(l.length:Int)≤cap:=by omega
 have hi1:(0:Int)≤(i:Int)+1:=by omega
 have hne:((i:Int)==(i:Int)+1)=false:=by simp;omega
 clear hW1 k1 k2 k3 hnews hlen hcl hone hown hcur
 go_enter Tryz.func106,Tryz.ntmps106
 go_wp2_with fail
 go_region_law(refine step_append_room (by rfl) (.tmp 22) (.tmp 25) 39 (by rfl) 120 i0 3 Tryz.underlying39 HIF.out hz1 g 0 i cap (by simp[Act.eval,Act.put]) A (l.length-(i+1)) (cap-(i+1)) news (by simp[Act.eval,Act.put]) s1.out hsrc.out s2.out (by omega) s3.out ?_;rw[←hW.out])
 go_wp2
 go_ret
 obtain⟨k1,k2,k3⟩:=HK.out
 obtain⟨c2,m1,m2,m3⟩:=Jp g 120 Xfw ((i+(l.length-(i+1)))*3) W1 c1 k1
 have hle:(l.eraseIdx i).length=l.length-1:=by simp[List.length_eraseIdx,hi]
 have hnl:news.length=(l.length-(i+1))*3:=s1.out
 refine⟨by rw[show l.length-1=i+(l.length-(i+1))by(omega)];try rfl,⟨by rw[XcP],.inr ⟨g,cap,c2,by rw[hle];try rfl,Nat.zero_le _,m1,by omega,p2,by rw[m2,k2];exact p3,?_⟩⟩,HUP.out.trans ((Upd.refl (fun k=>k=g) _).setCells (b:=g) (.inr rfl) _ _)⟩
 rw[Xh4,hle]
 apply List.ext_getElem?
 intro k
 rw[List.getElem?_take,Array.getElem?_toList,m3 k,List.getElem?_append,List.length_take,hfl,Nat.min_eq_left (by omega)]
 by_cases hk:k<(l.length-1)*3
 ·rw[if_pos hk,if_neg (by omega),k3 k];by_cases hk2:k<i*3;·{rw[if_pos hk2,if_neg (by omega),List.getElem?_take,if_pos hk2,HCL.out k (by omega)]};·rw[if_neg hk2,if_pos ⟨by omega,by rw[hnl];omega,by omega⟩,HN.out,Nat.zero_add]
 ·rw[if_neg hk,if_neg (by omega),List.getElem?_drop,List.getElem?_eq_none (by rw[hfl];omega)]
theorem Xmw (A:Ar)(el s:Int)(name:ByteArray):A.Yy el s name=if(A.Yp el s name).2.2.2≠0 then((false,(A.Yp el s name).2.2.2),A)else if(A.Yp el s name).2.1<0 then((false,0),A)else((true,(A.X0 el ((A.Yp el s name).1.eraseIdx (A.Yp el s name).2.1.toNat)).1),(A.X0 el ((A.Yp el s name).1.eraseIdx (A.Yp el s name).2.1.toNat)).2):=by
 unfold Ar.Yy Ar.Yp
 by_cases h:A.Yo el s=0
 ·simp[h]
 ·simp[h]
theorem Xmx {w0 w:World}{B b:Nat}{A:Ar}{L:List Xf}{el s:Int}{name:ByteArray}(o:Own w0 B (.arena b A::L) w)(hI:A.Inv)(hsz:A.ns.length≤1000000)(hs:name.size≤1000000):Calls Tryz.prog 68 #[.pointer (some ⟨b,0,none⟩),.int .i64 el,.int .i64 s,.string name] w fun e w'=>e= .returned (.tuple #[.bool (A.Yy el s name).1.1,.int .i64 (A.Yy el s name).1.2])∧Own w0 B (.arena b (A.Yy el s name).2::L) w':=by
 have hS:=hI.short hsz
 have HC:=Xqh (XhZ (b:=b) (A:=A) (el:=el) (s:=s) o (by simp) hS hs)
 have hgr:=Xmw A el s name
 have hat:=Xh0 A el s name
 have hlen:=Xh3 hI el s name
 have HSA:=Xqh (fun v l' W(hl:l'.length≤1000000)(q:Own w0 B (.arena b A:: .atts v l'::L) W)=>q.call (fun ρ hA=>Xea A ρ b el v l' W hA (q.atts (v:=v) (x:=l') (by simp)) hl))
 clear o hI hS
 generalize A.Yp el s name=R at*
 generalize A.Yy el s name=G at*
 obtain⟨l,i,nm,er⟩:=R
 dsimp only at*
 have HG:=Xqh hgr
 clear hgr
 by_cases he:er=0
 ·subst he;rcases hat with hi|⟨k,x,hi,hx⟩;·{subst hi;have HF:Hid (G=((false,0),A)):=Xqh HG.out;clear HG HSA;go_enter Tryz.func68,Tryz.ntmps68;go_wp2_with fail;refine HC.out.mono ?_;rintro e w1⟨aa,ac,rfl,o1⟩;have HO:=Xqh o1;clear HC o1;go_wp2;go_ret2;rw[HF.out];exact⟨rfl,HO.out.drop⟩};·subst hi;have hk:=(List.getElem?_eq_some_iff.1 hx).1;have HF:Hid (G=((true,(A.X0 el (l.eraseIdx k)).1),(A.X0 el (l.eraseIdx k)).2)):=Xqh (by rw[HG.out,if_neg (fun q=>q rfl),if_neg (by omega),Int.toNat_natCast]);have hel:(l.eraseIdx k).length=l.length-1:=by{simp[List.length_eraseIdx,hk]};have HSA2:=Xqh (fun v W=>HSA.out v (l.eraseIdx k) W (by omega));have hk1:(k:Int)<(l.length:Int):=by{omega};have hk2:(l.length:Int)≤1000:=by{omega};have HEL:=Xqh hel;clear HG HSA hx hel;go_enter Tryz.func68,Tryz.ntmps68;go_wp2_with fail;refine HC.out.mono ?_;rintro e w1⟨aa,ac,rfl,o1⟩;have hrow:=o1.row (e:=120) (size:=3) (v:= .slice aa l.length ac) (n:=l.length) (xs:=l.flatMap Xv) (by simp);obtain⟨g,cap,hsl,hgl,-⟩:=World.ownsRow.form hrow (by omega);have hea:aa=some ⟨g,0,none⟩∧ac=cap:=by{injection hsl with h1 h2 h3;exact⟨h1,h3⟩};obtain⟨rfl,rfl⟩:=hea;have HD:=Xqh (Xmv g ac k l w1 (YP hrow (Nat.zero_le _)) hk hlen);have HO1:=Xqh o1;clear HC o1 hrow hsl hgl;go_wp2_with fail;refine HD.out.mono ?_;rintro e w2⟨rfl,hown,hu⟩;have o3:=HO1.out.setRow hown (hu.mono (fun k _ h=>by subst h;rfl)) rfl;rw[HEL.out]at o3;have o4:Own w0 B (.atts (.slice (some ⟨g,0,none⟩) (l.length-1) ac) (l.eraseIdx k):: .arena b A::L) w2:=by{unfold Xf.atts;rw[HEL.out];exact o3};have HS6:=Xqh (HSA2.out _ _ o4.swap);clear o3 o4 hown hu HD HO1 HSA2;go_wp2_with fail;refine HS6.out.mono ?_;rintro e w5⟨rfl,o7⟩;have HO7:=Xqh o7;clear HS6 o7;go_wp2;go_ret2;rw[HF.out];exact⟨rfl,HO7.out.swap.drop⟩
 ·have HF:Hid (G=((false,er),A)):=Xqh (HG.out.trans (if_pos he));have e1:(er !=0)=true:=by{simp[he]};clear he HG hat HSA;go_enter Tryz.func68,Tryz.ntmps68;go_wp2_with fail;refine HC.out.mono ?_;rintro e w1⟨aa,ac,rfl,o1⟩;have HO:=Xqh o1;clear HC o1;go_wp2;go_ret2;rw[HF.out];exact⟨rfl,HO.out.drop⟩
end
end Go.Proofs.YtpicinjcmjaogaaGreatDoor
