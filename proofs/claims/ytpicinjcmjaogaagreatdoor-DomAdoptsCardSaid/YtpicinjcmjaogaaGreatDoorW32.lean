import Derived.Lib.AppendStr
import Derived.Test.YtpicinjcmjaogaaGreatDoorW31
set_option maxRecDepth 100000
set_option maxHeartbeats 4000000
set_option linter.unusedVariables false
namespace Go.Proofs.YtpicinjcmjaogaaGreatDoor
section
open Go.RowKit Go.Shelf
attribute [local go_sem] Oper.semAt_some
theorem Xis :(Tryz.prog.info? 5).map (fun i=>(i.zero,i.size,i.bytes))=some (some (.int .u8 0),1,1):=by
 kernel_rfl
theorem Xns {P:Program}(w:World)(base:Nat)(t u ty e:TypeId)(i:TypeInfo)(ht:P.underlying t=some (.slice e))(hu:P.underlying u=some .string)(hi:P.info? e=some i)(hz:i.zero=some (.int .u8 0))(hsize:i.size=1)(hby:i.bytes=1)(v:Value)(n:Nat)(xs:List Value)(hown:w.ownsRow base e 1 v n xs)(s:ByteArray)(h63:n+s.size≤maxLen)(hbytes:n+s.size≤140737488355328)(hbase:base≤w.heap.size):∃v' w',(Builtin.append_ #[t,u] ty #[v,.string s]).run P w= .ok v' w'∧w'.ownsRow base e 1 v' (n+s.size) (xs++Lib.strCells s)∧w.grownBy w' v.ownBlock∧(v'.ownBlock=v.ownBlock∨v'.ownBlock=some w.heap.size):=by
 obtain⟨v',w',hr,h2,h3,h4⟩:=Lib.run_append_own_string (P:=P) w base t u ty e i ht hu hi hz hsize hby v n xs hown s h63 hbytes hbase
 refine⟨v',w',hr,h2,h3,?_⟩
 have hl:xs.length=n:=by simpa using hown.1
 unfold maxLen at h63
 have inj:∀{a b:Value}{x y:World},Result.ok a x=Result.ok b y→a=b:=fun h=>by injection h
 rcases hown.2 with⟨rfl,rfl⟩|⟨g,cap,cur,rfl,hbg,hg,hnc,hcm,hcs,htake⟩
 ·by_cases hm:s.size=0;·{left;rw[h4.2 ⟨rfl,hm⟩]};·right;have hr1:=run_append_nil_string (P:=P) w t u ty e i (.int .u8 0) ht hu hi hz s (by omega) (by omega) (by rw[hby];omega);rw[inj (hr.symm.trans hr1)];rfl
 ·by_cases hroom:n+s.size≤cap;·{left;have hr1:=Lib.run_append_room_string (P:=P) w t u ty e i ht hu hi hsize g n cap cur hg s hroom (by rw[hcs,Nat.mul_one];exact hroom);rw[inj (hr.symm.trans hr1)];rfl};·right;have holds:∀j u,xs[j]?=some u→w.cell? ((⟨g,0,none⟩:Addr).add j)=some u:=hown.cells (g:=g) rfl;have hr1:=Lib.run_append_grow_string (P:=P) w t u ty e i (.int .u8 0) ht hu hi hz ⟨g,0,none⟩ n cap xs (by rw[hsize];simpa using hl) holds s (by omega) (by omega) (by rw[hby];exact growslice_fits (by omega) (by omega));rw[inj (hr.symm.trans hr1)];rfl
theorem Xnt {F:Fence}{nF:Nat}{P:Program}(w:World){ops:Array Oper}{rest:List Oper}{o:Oper}{a:Act}{Q:Exit→Act→World→Prop}(hgd:o.guard=none)(s x:Operand)(t u:TypeId)(ho:o.op= .call {callee:= .builtin .append,args:= #[s,x],argTypes:= #[t,u]})(base:Nat)(e:TypeId)(i:TypeInfo)(ht:P.underlying t=some (.slice e))(hu:P.underlying u=some .string)(hi:P.info? e=some i)(hz:i.zero=some (.int .u8 0))(hsize:i.size=1)(hby:i.bytes=1)(v:Value)(n:Nat)(xs:List Value)(hs:a.eval s=v)(hown:w.ownsRow base e 1 v n xs)(c:ByteArray)(hx:a.eval x= .string c)(h63:n+c.size≤maxLen)(hbytes:n+c.size≤140737488355328)(hbase:base≤w.heap.size)(h:∀v' w',w'.ownsRow base e 1 v' (n+c.size) (xs++Lib.strCells c)→w.grownBy w' v.ownBlock→(v'.ownBlock=v.ownBlock∨v'.ownBlock=some w.heap.size)→wpListIn F nF P ops Q rest (a.put o.dst v') w'):wpListIn F nF P ops Q (o::rest) a w:=by
 refine wpListIn_plain hgd fun K hK=>?_
 obtain⟨v',w',hr,h2,h3,h5⟩:=Xns (P:=P) w base t u o.type e i ht hu hi hz hsize hby v n xs hown c h63 hbytes hbase
 unfold Oper.wpIn
 refine⟨by simp[Oper.about,ho,resolve,Target.leads,Sem.run_pure],?_⟩
 rw[Oper.semAt_plain F _ _ (by rw[ho];intro c hc';cases hc')]
 simp[execOp,ho,resolve,invoke,builtin,hs,hx,hr,Result.andThen]
 exact hK _ _ (h v' w' h2 h3 h5)
theorem Xit {F:Fence}{nF:Nat}{P:Program}{ops:Array Oper}{rest:List Oper}{op:Oper}{a:Act}{w:World}{Q:Exit→Act→World→Prop}(hgd:op.guard=none)(ty:TypeId)(x y:Operand)(ho:op.op= .store ty x y)(b o:Nat)(cells:Array Value)(hx:a.eval x= .pointer (some ⟨b,o,none⟩))(hy:a.eval y= .agg cells)(ht:w.there b o cells.size)(hi:(P.info? ty).map (·.size)=some cells.size)(h1:cells.all (·.oneCell')=true)(h:wpListIn F nF P ops Q rest (a.put op.dst undef) (w.setCells b o cells.toList)):wpListIn F nF P ops Q (op::rest) a w:=by
 refine wpListIn_plain hgd fun K hK=>?_
 unfold Oper.wpIn
 refine⟨by simp[Oper.about,ho],?_⟩
 rw[Oper.semAt_plain F _ _ (by rw[ho];intro c hc';cases hc')]
 simp[execOp,ho,hx,hy,Instr.storeAt,Instr.sureAddr,run_storeVar_mid w b o ty cells ht hi h1,Result.andThen]
 exact hK _ _ h
def u8v (b : UInt8) : Value := .int .u8 (b.toNat : Int)
theorem Xnu (s:ByteArray):Lib.strCells s=s.toList.map u8v:=by
 unfold Lib.strCells u8v
 rw[Go.ByteArray.toList_eq]
theorem Xiu (s:ByteArray):s.toList.length=s.size:=by
 rw[Go.ByteArray.toList_eq]
 simp
/-- A row of bytes. -/
abbrev Xf.bytes (v : Value) (l : List UInt8) : Xf := .row 5 1 v l.length (l.map u8v)
theorem Xiv {w0 w:World}{B:Nat}{l:List Xf}(o:Own w0 B l w):Own w0 B (.bytes (.slice none 0 0) []::l) w:=o.fresh (Below.refl _ _) ⟨fun _=>False,⟨World.ownsRow_nil _ _ _ _,fun k=>by simp[Value.ownBlock]⟩,fun _ h=>h.elim⟩
theorem Xiw {w:World}{B:Nat}{v:Value}{l:List UInt8}(h:w.ownsRow B 5 1 v l.length (l.map u8v)):(convert 63 9 v).run Tryz.prog w= .ok (.string ⟨l.toArray⟩) w:=by
 rcases h.2 with⟨rfl,h2⟩|⟨g,cap,cur,rfl,hbg,hg,hnc,hcm,hcs,htake⟩
 ·have:l= []:=List.length_eq_zero_iff.1 h2;subst this;rw[run_convert_bytes_string w 63 9 5 none 0 0 Tryz.underlying63 Tryz.underlying5 Tryz.underlying9];simp[Conv.bytesToString];rfl
 ·refine run_convert_bytes_back w 63 9 5 ⟨g,0,none⟩ cap l Tryz.underlying63 Tryz.underlying5 Tryz.underlying9 (fun j hj=>?_);exact h.cells (g:=g) rfl j _ (by simp[hj,u8v])
theorem Xix (A:Ar)(l m:List Int):A.Zi (l++m)=A.Zi l++A.Zi m:=by
 unfold Ar.Zi
 rw[List.flatMap_append]
theorem Xnv (A:Ar)(x:Int):A.Zi [x]=if(A.get x).Xa=5 then(A.get x).data.toList else []:=by
 unfold Ar.Zi
 simp
theorem Xnw {w0 w:World}{B b:Nat}{A:Ar}{L:List Xf}{h:Int}(o:Own w0 B (.arena b A::L) w)(hI:A.Inv)(hs:A.ns.length≤100000)(hm:(A.Zi (A.below h)).length≤140737488355328):Calls Tryz.prog 29 #[.pointer (some ⟨b,0,none⟩),.int .i64 h] w fun e w'=>e= .returned (.tuple #[.string (A.Xbl h).1,.int .i64 (A.Xbl h).2])∧Own w0 B (.arena b A::L) w':=by
 obtain⟨i0,hi,hz0,hz1,hz2⟩:=info_parts Xis
 have HI:=Xqh hi
 clear hi
 have HS:=hI.short (show A.ns.length≤1000000 by omega)
 have o1:=o.boxed (.cells #[.pointer (some ⟨b,0,none⟩)] 26)
 clear o
 have q0:(w.alloc (.cells #[.pointer (some ⟨b,0,none⟩)] 26)).cell? ⟨w.heap.size,0,none⟩=some (.pointer (some ⟨b,0,none⟩)):=XD (o1.box (g:=w.heap.size) (o:= .cells #[.pointer (some ⟨b,0,none⟩)] 26 (0,0)) (by simp))
 by_cases hh:A.has h
 ·have HC1:=Xqh (Zz (opt:= -1) (x:=h) o1 (b:=b) (A:=A) (by simp) HS (Zy.trans (if_pos hh)));simp only[World.size_alloc]at HC1;obtain⟨nd,hnd⟩:∃nd,A.get h=nd:=⟨_,rfl⟩;have HN:=Xqh (fun W(q:Own w0 B (.arena b A:: .box w.heap.size (.cells #[.pointer (some ⟨b,0,none⟩)] 26 (0,0))::L) W)=>JZ (b:=b) (A:=A) q (by simp) HS hh hnd);have HF:Hid (A.Xbl h=if nd.Xa=5∨nd.Xa=6 then(nd.data,0)else if nd.Xa=1∨nd.Xa=3 then(ByteArray.empty,0)else(⟨(A.Zi (A.below h)).toArray⟩,0)):=Xqh (by unfold Ar.Xbl;rw[if_neg (fun q=>q hh),hnd]);have hseq:=fun(ab hb:Nat)=>XeW (ab:=ab) (hb:=hb) (b:=b) hI hs hh w0 B 7;have HNX:=Xqh (fun(x:Int)(hx:A.has x)(W:World)(ll:List Xf)(q:Own w0 B ll W)(hm:Xf.arena b A∈ll)(n:Nd)(hn:A.get x=n)=>JZ (b:=b) (A:=A) q hm HS hx hn);have HBM:=Xqh (fun x(hx:x∈A.below h)=>(Zt hI h hh x hx).1);have HTR:Hid (A.Tree A∧A.Inv∧A.ns.length≤1000000):=Xqh ⟨Ar.Tree.refl _,hI,by omega⟩;clear o1 HS hnd hI hs;by_cases h5:nd.Xa=5;·{have k5:(nd.Xa==5)=true:=by{simp[h5]};have HF:=Xqh (HF.out.trans (if_pos (.inl h5)));clear h5;clear HTR HBM HNX hseq;go_enter Tryz.func29,Tryz.ntmps29;go_wp2_with fail;refine HC1.out.mono ?_;rintro e w1⟨rfl,o1⟩;clear q0;have q0:w1.cell? ⟨w.heap.size,0,none⟩=some (.pointer (some ⟨b,0,none⟩)):=XD (o1.box (g:=w.heap.size) (o:= .cells #[.pointer (some ⟨b,0,none⟩)] 26 (0,0)) (by simp));have HN1:=Xqh (HN.out _ o1);clear HC1 HN o1;go_wp2_with fail;refine HN1.out.mono ?_;rintro e w2⟨ka,kl,kc,aa,al,ac,rfl,o2,-⟩;clear HN1 q0;have HT:=Xqh (XV (w:=w2) nd ka kc aa ac kl al);have o5:=o2.XU nd (.slice ka kl kc) (.slice aa al ac);go_wp2_with((with_reducible refine wpList_store_mid ?_ 41 (.tmp 7) (.tmp 24) ?_ w2.heap.size 0 (nd.cells (.slice ka kl kc) (.slice aa al ac)).toArray ?_ ?_ ?_ ?_ ?_ ?_);exact rfl;exact rfl;exact rfl;exact rfl;exact HT.out.1;exact XM _ _ _;exact all_oneCell_toArray HT.out.2;clear HT;generalize hw5:World.setCells _ _ _ _=w5 at o5⊢;generalize hg5:w2.heap.size=g5 at o5⊢;clear hw5 hg5;have k0:w5.cell? ⟨g5,0,none⟩=some (.int .i64 nd.Xa):=(cell_of_row w5 _ _ _ _ _ (o5.box (g:=g5) (o:= .cells (nd.cells (.slice ka kl kc) (.slice aa al ac)).toArray 41 (0,0)) (by simp))).trans rfl;have k7:w5.cell? ⟨g5,7,none⟩=some (.string nd.data):=(cell_of_row w5 _ _ _ _ _ (o5.box (g:=g5) (o:= .cells (nd.cells (.slice ka kl kc) (.slice aa al ac)).toArray 41 (0,0)) (by simp))).trans rfl;have q0:w5.cell? ⟨w.heap.size,0,none⟩=some (.pointer (some ⟨b,0,none⟩)):=XD (o5.box (g:=w.heap.size) (o:= .cells #[.pointer (some ⟨b,0,none⟩)] 26 (0,0)) (by simp)));have HO:=Xqh o5.drop.unbox;clear o5;go_wp2;go_ret2;rw[HF.out];exact⟨rfl,HO.out⟩};have k5:(nd.Xa==5)=false:=by{simp[h5]};by_cases h6:nd.Xa=6;·{have k6:(nd.Xa==6)=true:=by{simp[h6]};have HF:=Xqh (HF.out.trans (if_pos (.inr h6)));clear h5 h6;clear HTR HBM HNX hseq;go_enter Tryz.func29,Tryz.ntmps29;go_wp2_with fail;refine HC1.out.mono ?_;rintro e w1⟨rfl,o1⟩;clear q0;have q0:w1.cell? ⟨w.heap.size,0,none⟩=some (.pointer (some ⟨b,0,none⟩)):=XD (o1.box (g:=w.heap.size) (o:= .cells #[.pointer (some ⟨b,0,none⟩)] 26 (0,0)) (by simp));have HN1:=Xqh (HN.out _ o1);clear HC1 HN o1;go_wp2_with fail;refine HN1.out.mono ?_;rintro e w2⟨ka,kl,kc,aa,al,ac,rfl,o2,-⟩;clear HN1 q0;have HT:=Xqh (XV (w:=w2) nd ka kc aa ac kl al);have o5:=o2.XU nd (.slice ka kl kc) (.slice aa al ac);go_wp2_with((with_reducible refine wpList_store_mid ?_ 41 (.tmp 7) (.tmp 24) ?_ w2.heap.size 0 (nd.cells (.slice ka kl kc) (.slice aa al ac)).toArray ?_ ?_ ?_ ?_ ?_ ?_);exact rfl;exact rfl;exact rfl;exact rfl;exact HT.out.1;exact XM _ _ _;exact all_oneCell_toArray HT.out.2;clear HT;generalize hw5:World.setCells _ _ _ _=w5 at o5⊢;generalize hg5:w2.heap.size=g5 at o5⊢;clear hw5 hg5;have k0:w5.cell? ⟨g5,0,none⟩=some (.int .i64 nd.Xa):=(cell_of_row w5 _ _ _ _ _ (o5.box (g:=g5) (o:= .cells (nd.cells (.slice ka kl kc) (.slice aa al ac)).toArray 41 (0,0)) (by simp))).trans rfl;have k7:w5.cell? ⟨g5,7,none⟩=some (.string nd.data):=(cell_of_row w5 _ _ _ _ _ (o5.box (g:=g5) (o:= .cells (nd.cells (.slice ka kl kc) (.slice aa al ac)).toArray 41 (0,0)) (by simp))).trans rfl;have q0:w5.cell? ⟨w.heap.size,0,none⟩=some (.pointer (some ⟨b,0,none⟩)):=XD (o5.box (g:=w.heap.size) (o:= .cells #[.pointer (some ⟨b,0,none⟩)] 26 (0,0)) (by simp)));have HO:=Xqh o5.drop.unbox;clear o5;go_wp2;go_ret2;rw[HF.out];exact⟨rfl,HO.out⟩};have k6:(nd.Xa==6)=false:=by{simp[h6]};have HF:=Xqh (HF.out.trans (if_neg (by omega)));by_cases h1:nd.Xa=1;·{have k1:(nd.Xa==1)=true:=by{simp[h1]};have HF:=Xqh (HF.out.trans (if_pos (.inl h1)));clear h5 h6 h1;clear HTR HBM HNX hseq;go_enter Tryz.func29,Tryz.ntmps29;go_wp2_with fail;refine HC1.out.mono ?_;rintro e w1⟨rfl,o1⟩;clear q0;have q0:w1.cell? ⟨w.heap.size,0,none⟩=some (.pointer (some ⟨b,0,none⟩)):=XD (o1.box (g:=w.heap.size) (o:= .cells #[.pointer (some ⟨b,0,none⟩)] 26 (0,0)) (by simp));have HN1:=Xqh (HN.out _ o1);clear HC1 HN o1;go_wp2_with fail;refine HN1.out.mono ?_;rintro e w2⟨ka,kl,kc,aa,al,ac,rfl,o2,-⟩;clear HN1 q0;have HT:=Xqh (XV (w:=w2) nd ka kc aa ac kl al);have o5:=o2.XU nd (.slice ka kl kc) (.slice aa al ac);go_wp2_with((with_reducible refine wpList_store_mid ?_ 41 (.tmp 7) (.tmp 24) ?_ w2.heap.size 0 (nd.cells (.slice ka kl kc) (.slice aa al ac)).toArray ?_ ?_ ?_ ?_ ?_ ?_);exact rfl;exact rfl;exact rfl;exact rfl;exact HT.out.1;exact XM _ _ _;exact all_oneCell_toArray HT.out.2;clear HT;generalize hw5:World.setCells _ _ _ _=w5 at o5⊢;generalize hg5:w2.heap.size=g5 at o5⊢;clear hw5 hg5;have k0:w5.cell? ⟨g5,0,none⟩=some (.int .i64 nd.Xa):=(cell_of_row w5 _ _ _ _ _ (o5.box (g:=g5) (o:= .cells (nd.cells (.slice ka kl kc) (.slice aa al ac)).toArray 41 (0,0)) (by simp))).trans rfl;have k7:w5.cell? ⟨g5,7,none⟩=some (.string nd.data):=(cell_of_row w5 _ _ _ _ _ (o5.box (g:=g5) (o:= .cells (nd.cells (.slice ka kl kc) (.slice aa al ac)).toArray 41 (0,0)) (by simp))).trans rfl;have q0:w5.cell? ⟨w.heap.size,0,none⟩=some (.pointer (some ⟨b,0,none⟩)):=XD (o5.box (g:=w.heap.size) (o:= .cells #[.pointer (some ⟨b,0,none⟩)] 26 (0,0)) (by simp)));have HO:=Xqh o5.drop.unbox;clear o5;go_wp2;go_ret2;rw[HF.out];exact⟨rfl,HO.out⟩};have k1:(nd.Xa==1)=false:=by{simp[h1]};by_cases h3:nd.Xa=3;·{have k3:(nd.Xa==3)=true:=by{simp[h3]};have HF:=Xqh (HF.out.trans (if_pos (.inr h3)));clear h5 h6 h1 h3;clear HTR HBM HNX hseq;go_enter Tryz.func29,Tryz.ntmps29;go_wp2_with fail;refine HC1.out.mono ?_;rintro e w1⟨rfl,o1⟩;clear q0;have q0:w1.cell? ⟨w.heap.size,0,none⟩=some (.pointer (some ⟨b,0,none⟩)):=XD (o1.box (g:=w.heap.size) (o:= .cells #[.pointer (some ⟨b,0,none⟩)] 26 (0,0)) (by simp));have HN1:=Xqh (HN.out _ o1);clear HC1 HN o1;go_wp2_with fail;refine HN1.out.mono ?_;rintro e w2⟨ka,kl,kc,aa,al,ac,rfl,o2,-⟩;clear HN1 q0;have HT:=Xqh (XV (w:=w2) nd ka kc aa ac kl al);have o5:=o2.XU nd (.slice ka kl kc) (.slice aa al ac);go_wp2_with((with_reducible refine wpList_store_mid ?_ 41 (.tmp 7) (.tmp 24) ?_ w2.heap.size 0 (nd.cells (.slice ka kl kc) (.slice aa al ac)).toArray ?_ ?_ ?_ ?_ ?_ ?_);exact rfl;exact rfl;exact rfl;exact rfl;exact HT.out.1;exact XM _ _ _;exact all_oneCell_toArray HT.out.2;clear HT;generalize hw5:World.setCells _ _ _ _=w5 at o5⊢;generalize hg5:w2.heap.size=g5 at o5⊢;clear hw5 hg5;have k0:w5.cell? ⟨g5,0,none⟩=some (.int .i64 nd.Xa):=(cell_of_row w5 _ _ _ _ _ (o5.box (g:=g5) (o:= .cells (nd.cells (.slice ka kl kc) (.slice aa al ac)).toArray 41 (0,0)) (by simp))).trans rfl;have k7:w5.cell? ⟨g5,7,none⟩=some (.string nd.data):=(cell_of_row w5 _ _ _ _ _ (o5.box (g:=g5) (o:= .cells (nd.cells (.slice ka kl kc) (.slice aa al ac)).toArray 41 (0,0)) (by simp))).trans rfl;have q0:w5.cell? ⟨w.heap.size,0,none⟩=some (.pointer (some ⟨b,0,none⟩)):=XD (o5.box (g:=w.heap.size) (o:= .cells #[.pointer (some ⟨b,0,none⟩)] 26 (0,0)) (by simp)));have HO:=Xqh o5.drop.unbox;clear o5;go_wp2;go_ret2;rw[HF.out];exact⟨rfl,HO.out⟩};have k3:(nd.Xa==3)=false:=by{simp[h3]};have HF:=Xqh (HF.out.trans (if_neg (by omega)));clear h5 h6 h1 h3;refine(callsIn_wide (n:=8)).1 ?_;refine callsIn_of_wp_marks Tryz.func29 rfl trivial ?_ rfl;simp only[Tryz.ntmps29,List.size_toArray,List.length_cons,List.length_nil,Nat.reduceAdd,Nat.reduceSub,Array.replicate_succ,Array.replicate_zero,List.push_toArray,List.append_toArray,List.nil_append,List.cons_append];refine wpIn_wide.2 ?_;go_wp2_with fail;refine HC1.out.mono ?_;rintro e w1⟨rfl,o1⟩;clear q0;have q0:w1.cell? ⟨w.heap.size,0,none⟩=some (.pointer (some ⟨b,0,none⟩)):=XD (o1.box (g:=w.heap.size) (o:= .cells #[.pointer (some ⟨b,0,none⟩)] 26 (0,0)) (by simp));have HN1:=Xqh (HN.out _ o1);clear HC1 HN o1;go_wp2_with fail;refine HN1.out.mono ?_;rintro e w2⟨ka,kl,kc,aa,al,ac,rfl,o2,-⟩;clear HN1 q0;have HT:=Xqh (XV (w:=w2) nd ka kc aa ac kl al);have o5:=o2.XU nd (.slice ka kl kc) (.slice aa al ac);go_wp2_with((with_reducible refine wpList_store_mid ?_ 41 (.tmp 7) (.tmp 24) ?_ w2.heap.size 0 (nd.cells (.slice ka kl kc) (.slice aa al ac)).toArray ?_ ?_ ?_ ?_ ?_ ?_);exact rfl;exact rfl;exact rfl;exact rfl;exact HT.out.1;exact XM _ _ _;exact all_oneCell_toArray HT.out.2;clear HT;generalize hw5:World.setCells _ _ _ _=w5 at o5⊢;generalize hg5:w2.heap.size=g5 at o5⊢;clear hw5 hg5;have k0:w5.cell? ⟨g5,0,none⟩=some (.int .i64 nd.Xa):=(cell_of_row w5 _ _ _ _ _ (o5.box (g:=g5) (o:= .cells (nd.cells (.slice ka kl kc) (.slice aa al ac)).toArray 41 (0,0)) (by simp))).trans rfl;have k7:w5.cell? ⟨g5,7,none⟩=some (.string nd.data):=(cell_of_row w5 _ _ _ _ _ (o5.box (g:=g5) (o:= .cells (nd.cells (.slice ka kl kc) (.slice aa al ac)).toArray 41 (0,0)) (by simp))).trans rfl;have q0:w5.cell? ⟨w.heap.size,0,none⟩=some (.pointer (some ⟨b,0,none⟩)):=XD (o5.box (g:=w.heap.size) (o:= .cells #[.pointer (some ⟨b,0,none⟩)] 26 (0,0)) (by simp));have q9:(w5.alloc (.cells #[.slice none 0 0] 63)).cell? ⟨w.heap.size,0,none⟩=some (.pointer (some ⟨b,0,none⟩)):=XD ((o5.alloc (.cells #[.slice none 0 0] 63)).box (g:=w.heap.size) (o:= .cells #[.pointer (some ⟨b,0,none⟩)] 26 (0,0)) (by simp)));go_wp2_with fail;refine(XeV b h _).mono ?_;rintro e w6⟨rfl,rfl⟩;have o6:=((o5.alloc (.cells #[.slice none 0 0] 63)).alloc (.cells #[.pointer (some ⟨b,0,none⟩)] 26)).alloc (.cells #[.int .i64 h] 3);simp only[World.size_alloc]at o6;have o7:=Xiv o6.ZI;have hseq:=hseq (w5.heap.size+1) (w5.heap.size+1+1);clear o5 o6 k0 k7 q0 q9;go_wp2_with fail;refine wpIn_wide.1 (XeP (n:=8) (α:=Int) rfl (by omega) (gf:=97) (lb:= #[.pointer (some ⟨w5.heap.size+1,0,none⟩),.pointer (some ⟨w5.heap.size+1+1,0,none⟩)]) rfl trivial (enters_of Tryz.func97 (by kernel_rfl) rfl) (Rd:=Xbn A b (w5.heap.size+1) (w5.heap.size+1+1) h) XeU hseq (fun _=>rfl) o7 (fun pre L'=>(∃rest,A.below h=pre++rest)∧∃va vc,L'= .bytes (.slice va (A.Zi pre).length vc) (A.Zi pre):: .box w5.heap.size (.cells #[.slice va (A.Zi pre).length vc] 63 (0,0)):: .box (w5.heap.size+1+1) (.cells #[.int .i64 h] 3 (0,0)):: .box (w5.heap.size+1) (.cells #[.pointer (some ⟨b,0,none⟩)] 26 (0,0)):: .box g5 (.cells (nd.cells (.slice ka kl kc) (.slice aa al ac)).toArray 41 (0,0)):: .arena b A:: .box w.heap.size (.cells #[.pointer (some ⟨b,0,none⟩)] 26 (0,0))::L) (fun _ _ _=>False) ?hLR ⟨⟨_,rfl⟩,none,0,rfl⟩ ?a1 ?assign ?body ?done ?stop);(case assign=>intro l' x W' K hK;gi_wp2;exact hK);(case hLR=>rintro pre L'⟨-,va,vc,rfl⟩;exact⟨by simp,by simp,_,by simp,HTR.out⟩);(case body=>rintro l' G f pre x W' L'⟨rest,hrest⟩⟨-,va,vc,rfl⟩o;have HP:Hid (∃rest,A.below h=pre++ [x]++rest):=Xqh ⟨rest,hrest⟩;have hxA:=HBM.out x (by rw[hrest];simp);obtain⟨xn,hxn⟩:∃xn,A.get x=xn:=⟨_,rfl⟩;have hto:A.Zi (pre++ [x])=A.Zi pre++if xn.Xa=5 then xn.data.toList else []:=by{rw[Xix,Xnv,hxn]};have hlen:xn.Xa=5→(A.Zi pre).length+xn.data.size≤140737488355328:=fun q=>by{have:=hm;rw[hrest,Xix,List.length_append,hto,List.length_append,if_pos q,Xiu]at this;omega};have q0:W'.cell? ⟨w.heap.size,0,none⟩=some (.pointer (some ⟨b,0,none⟩)):=XD (o.box (g:=w.heap.size) (o:= .cells #[.pointer (some ⟨b,0,none⟩)] 26 (0,0)) (by simp));have HN:=Xqh (HNX.out x hxA W' _ o (by simp) xn hxn);have HTO:=Xqh hto;clear o hrest hseq o7 hxA hxn hto HNX HBM HTR hm;gi_wp2_with fail;refine⟨trivial,?_⟩;refine(CallsIn.inRound l' (callsIn_wide.2 HN.out)).mono ?_;rintro e w6⟨kax,klx,kcx,aax,alx,acx,rfl,o6,-⟩;clear HN q0;by_cases h5:xn.Xa=5;·{have e5:(xn.Xa==5)=true:=by{simp[h5]};have hle:=hlen h5;have hto:=HTO.out;rw[if_pos h5]at hto;clear h5 hlen HTO;have HT:=Xqh (XV (w:=w6) xn kax kcx aax acx klx alx);have o7:=o6.XU xn (.slice kax klx kcx) (.slice aax alx acx);gi_wp2_with(first|(gi_at_builtin;refine Xnt _ rfl _ _ 63 9 rfl B 5 i0 Tryz.underlying63 Tryz.underlying9 HI.out hz0 hz1 hz2 _ _ _ rfl HR.out xn.data rfl (by unfold maxLen;omega) (by omega) hBW ?_)|((with_reducible refine Xit ?_ 41 (.tmp 11) (.tmp 44) ?_ w6.heap.size 0 (xn.cells (.slice kax klx kcx) (.slice aax alx acx)).toArray ?_ ?_ ?_ ?_ ?_ ?_);exact rfl;exact rfl;exact rfl;exact rfl;exact HT.out.1;exact XM _ _ _;exact all_oneCell_toArray HT.out.2;clear HT;generalize hw5:World.setCells _ _ _ _=w7 at o7⊢;generalize hg5:w6.heap.size=g7 at o7⊢;clear hw5 hg5;have k0:w7.cell? ⟨g7,0,none⟩=some (.int .i64 xn.Xa):=(cell_of_row w7 _ _ _ _ _ (o7.box (g:=g7) (o:= .cells (xn.cells (.slice kax klx kcx) (.slice aax alx acx)).toArray 41 (0,0)) (by simp))).trans rfl;have k7:w7.cell? ⟨g7,7,none⟩=some (.string xn.data):=(cell_of_row w7 _ _ _ _ _ (o7.box (g:=g7) (o:= .cells (xn.cells (.slice kax klx kcx) (.slice aax alx acx)).toArray 41 (0,0)) (by simp))).trans rfl;have k1:=XD (o7.box (g:=w5.heap.size) (o:= .cells #[.slice va (A.Zi pre).length vc] 63 (0,0)) (by simp));have hro:=o7.row (e:=5) (size:=1) (v:= .slice va (A.Zi pre).length vc) (n:=(A.Zi pre).length) (xs:=(A.Zi pre).map u8v) (by simp);have HO:=Xqh o7;have HR:=Xqh hro;have hBW:B≤w7.heap.size:=o7.big;have HT2:=Xqh hto;clear o7 hro hto;generalize hbs:A.Zi pre=bs at*;generalize hbs2:A.Zi (pre++ [x])=bs2 at*));intro v' w8 hown hgrow hat;have o8:=((HO.out.ZI).grow hown hgrow hat).Xb5;obtain⟨va',vc',rfl⟩:=X6 hown;have k3:=XD (o8.box (g:=w5.heap.size) (o:= .cells #[.slice va bs.length vc] 63 (0,0)) (by simp));have f3:=Xbf (o8.box (g:=w5.heap.size) (o:= .cells #[.slice va bs.length vc] 63 (0,0)) (by simp));have o9:=(o8.J4 (u:= .slice va' (bs.length+xn.data.size) vc')).ZI.drop.ZI.ZI.swap;have e1:bs.length+xn.data.size=bs2.length:=by{rw[HT2.out,List.length_append,Xiu]};have e2:bs.map u8v++Lib.strCells xn.data=bs2.map u8v:=by{rw[HT2.out,List.map_append,Xnu]};rw[e2]at o9;rw[e1]at o9⊢;have HK:Hid (∃va vc,Own w0 B (.keep G f:: .bytes (.slice va bs2.length vc) bs2:: .box w5.heap.size (.cells #[.slice va bs2.length vc] 63 (0,0)):: .box (w5.heap.size+1+1) (.cells #[.int .i64 h] 3 (0,0)):: .box (w5.heap.size+1) (.cells #[.pointer (some ⟨b,0,none⟩)] 26 (0,0)):: .box g5 (.cells (nd.cells (.slice ka kl kc) (.slice aa al ac)).toArray 41 (0,0)):: .arena b A:: .box w.heap.size (.cells #[.pointer (some ⟨b,0,none⟩)] 26 (0,0))::L) (w8.setCell ⟨w5.heap.size,0,none⟩ (.slice va' bs2.length vc'))):=Xqh ⟨_,_,o9⟩;clear o8 o9 e1 e2 hown hgrow hat HO HR HT2;gi_wp2;obtain⟨va2,vc2,HKO⟩:=HK.out;exact⟨_,⟨HP.out,va2,vc2,by rw[hbs2]⟩,HKO⟩};·have e5:(xn.Xa==5)=false:=by{simp[h5]};have hto:=HTO.out;rw[if_neg h5,List.append_nil]at hto;have HT2:=Xqh hto;clear hto h5 hlen HTO;have HT:=Xqh (XV (w:=w6) xn kax kcx aax acx klx alx);have o7:=o6.XU xn (.slice kax klx kcx) (.slice aax alx acx);gi_wp2_with((with_reducible refine Xit ?_ 41 (.tmp 11) (.tmp 44) ?_ w6.heap.size 0 (xn.cells (.slice kax klx kcx) (.slice aax alx acx)).toArray ?_ ?_ ?_ ?_ ?_ ?_);exact rfl;exact rfl;exact rfl;exact rfl;exact HT.out.1;exact XM _ _ _;exact all_oneCell_toArray HT.out.2;clear HT;generalize hw5:World.setCells _ _ _ _=w7 at o7⊢;generalize hg5:w6.heap.size=g7 at o7⊢;clear hw5 hg5;have k0:w7.cell? ⟨g7,0,none⟩=some (.int .i64 xn.Xa):=(cell_of_row w7 _ _ _ _ _ (o7.box (g:=g7) (o:= .cells (xn.cells (.slice kax klx kcx) (.slice aax alx acx)).toArray 41 (0,0)) (by simp))).trans rfl;have k7:w7.cell? ⟨g7,7,none⟩=some (.string xn.data):=(cell_of_row w7 _ _ _ _ _ (o7.box (g:=g7) (o:= .cells (xn.cells (.slice kax klx kcx) (.slice aax alx acx)).toArray 41 (0,0)) (by simp))).trans rfl;have HK:=Xqh o7.drop;clear o7);gi_wp2;refine⟨_,⟨HP.out,va,vc,rfl⟩,?_⟩;rw[HT2.out];exact HK.out);(case done=>rintro xs W' L' rfl⟨-,va,vc,rfl⟩o;simp only[World.size_alloc]at o;generalize A.Zi (A.below h)=bs at*;have hro:=o.row (e:=5) (size:=1) (v:= .slice va bs.length vc) (n:=bs.length) (xs:=bs.map u8v) (by simp);have hback:=Xiw hro;have HO:=Xqh o;have q1:=XD (o.box (g:=w5.heap.size) (o:= .cells #[.slice va bs.length vc] 63 (0,0)) (by simp));have hD:=o.box (g:=w5.heap.size+1+1+1) (o:= .deferred (some [])) (by simp);clear o hseq o7 hro;generalize(⟨bs.toArray⟩:ByteArray)=r at*;go_wp2;simp only[World.size_alloc];refine⟨by simp,.inl ⟨_,_,rfl,run_takeDeferred hD,?_⟩⟩;refine⟨.tuple #[.string r,.int .i64 0],by simp[results,Tryz.f29,go_sem],?_⟩;rw[HF.out];refine⟨rfl,?_⟩;have o20:=(HO.out.Xak (ZT (.deferred none) rfl) (World.putObj_heap_same (lt_of_block hD))).drop;exact o20.drop.drop.drop.drop.drop.unbox);case stop=>rintro c pre W' L'-hf-;exact hf.elim
 ·have HC1:=Xqh (Zz (opt:= -1) (x:=h) o1 (b:=b) (A:=A) (by simp) HS (Zy.trans (if_neg hh)));simp only[World.size_alloc]at HC1;have HF:Hid (A.Xbl h=(ByteArray.empty,3)):=Xqh (if_pos hh);clear o1 hI HS hm;go_enter Tryz.func29,Tryz.ntmps29;go_wp2_with fail;refine HC1.out.mono ?_;rintro e w1⟨rfl,o1⟩;have HO:=Xqh o1.unbox;clear o1 HC1;go_wp2;go_ret2;rw[HF.out];exact⟨rfl,HO.out⟩
end
section
open Go.RowKit Go.Shelf
attribute [local go_sem] Oper.semAt_some
def dk0 : Ar := Ar.new
def dk1 : Ar := dk0.Xn false
def dk2 : Ar := (dk1.element 1 1 ⟨#[104, 116, 109, 108]⟩ []).2
def dk3 : Ar := (dk2.element 1 1 ⟨#[112]⟩ []).2
def dk4 : Ar := (dk3.make 1 (Xs ⟨#[97, 98]⟩)).2
def dk5 : Ar := (dk4.make 1 (YT ⟨#[104, 116, 109, 108]⟩ ⟨#[]⟩ ⟨#[]⟩)).2
def dk6 : Ar := (dk5.make 1 Zm).2
def dk7 : Ar := (dk6.XX 6 3 0).2
def dk8 : Ar := (dk7.XX 6 4 0).2
def dk9 : Ar := (dk8.XX 1 2 0).2
def XbE : Ar := (dk9.XX 1 3 0).2
def XbF : Ar := (XbE.XX 1 4 0).2
def XbG : Ar := (XbF.XX 1 5 0).2
def XbH : Ar := (XbG.XX 1 5 2).2
def Jo : Ar := (XbH.XX 2 6 0).2
def Z9 : Ar := (Jo.split 4 1).2
def XaD : Ar := (Z9.normalize 2).2
theorem Xph :(dk6.XX 6 3 0).1=0:=by
 decide+kernel
theorem Xpi :(dk7.XX 6 4 0).1=0:=by
 decide+kernel
theorem Xpj :(dk8.XX 1 2 0).1=0:=by
 decide+kernel
theorem Xpk :(dk9.XX 1 3 0).1=4:=by
 decide+kernel
theorem Xpl :(XbE.XX 1 4 0).1=4:=by
 decide+kernel
theorem Xpm :(XbF.XX 1 5 0).1=4:=by
 decide+kernel
theorem Xpn :(XbG.XX 1 5 2).1=0:=by
 decide+kernel
theorem Xpo :(XbH.XX 2 6 0).1=0:=by
 decide+kernel
theorem Xpp :Jo.YN 2= [3,4]:=by
 decide+kernel
theorem Xpq :Jo.YN 6= []:=by
 decide+kernel
theorem Xpr :(Jo.split 4 1).1=(7,0):=by
 decide+kernel
theorem Xps :Z9.YN 2= [3,4,7]:=by
 decide+kernel
theorem Xpt :Z9.Xbl 2=(⟨#[97,98]⟩,0):=by
 decide+kernel
theorem Xpu :(Z9.normalize 2).1=0:=by
 decide+kernel
theorem Xpv :XaD.YN 2= [3,4]:=by
 decide+kernel
theorem Xpw :Z9.Xk≤9223372036854775807:=by
 decide+kernel
theorem Xpx :(Z9.Zi (Z9.below 2)).length≤140737488355328:=by
 decide+kernel
theorem Xac {A:Ar}{t:Nat}(h:A.Inv∧A.XB t)(x:OpD)(hx:x.Xb.length≤20)(h1:20≤t)(h2:t≤900):(A.Xo x).2.Inv∧(A.Xo x).2.XB (t+1):=⟨(Xfk h.1 (h.2.mono h2) x hx).1,XeG h.2 x (Nat.le_trans hx h1)⟩
theorem XaE {A:Ar}{t:Nat}(h:A.Inv∧A.XB t)(a b c:Int)(h1:20≤t)(h2:t≤900):(A.XX a b c).2.Inv∧(A.XX a b c).2.XB (t+1):=Xac h ⟨21,a,b,c,false,0,ByteArray.empty,ByteArray.empty,ByteArray.empty,[]⟩ (Nat.zero_le _) h1 h2
theorem Xpy {A:Ar}{t:Nat}(h:A.Inv∧A.XB t)(a b:Int)(h1:20≤t)(h2:t≤900):(A.split a b).2.Inv∧(A.split a b).2.XB (t+1):=Xac h ⟨35,a,b,0,false,0,ByteArray.empty,ByteArray.empty,ByteArray.empty,[]⟩ (Nat.zero_le _) h1 h2
theorem Xpz {A:Ar}{t:Nat}(h:A.Inv∧A.XB t)(a:Int)(h1:20≤t)(h2:t≤900):(A.normalize a).2.Inv∧(A.normalize a).2.XB (t+1):=Xac h ⟨34,a,0,0,false,0,ByteArray.empty,ByteArray.empty,ByteArray.empty,[]⟩ (Nat.zero_le _) h1 h2
theorem XdN {w0 w:World}{B b:Nat}{A:Ar}{l:List Xf}{h:Int}(o:Own w0 B l w)(hm:Xf.arena b A∈l)(hS:A.YC){y:List Int}(hy:A.YN h=y):Calls Tryz.prog 27 #[.pointer (some ⟨b,0,none⟩),.int .i64 h] w fun e w'=>∃a c,e= .returned (.slice a y.length c)∧Own w0 B (.ints (.slice a y.length c) y::l) w':=by
 subst hy
 exact Xap o hm hS
theorem XpA :dk0.Inv∧dk0.XB 20:=⟨Xen,XcY _⟩
theorem XpB :dk1.Inv∧dk1.XB 21:=Xac XpA ⟨1,0,0,0,false,0,ByteArray.empty,ByteArray.empty,ByteArray.empty,[]⟩ (by decide) (by decide) (by decide)
theorem XpC :dk2.Inv∧dk2.XB 22:=Xac XpB ⟨3,1,0,0,false,1,⟨#[104,116,109,108]⟩,ByteArray.empty,ByteArray.empty,[]⟩ (by decide) (by decide) (by decide)
theorem XpD :dk3.Inv∧dk3.XB 23:=Xac XpC ⟨3,1,0,0,false,1,⟨#[112]⟩,ByteArray.empty,ByteArray.empty,[]⟩ (by decide) (by decide) (by decide)
theorem XpE :dk4.Inv∧dk4.XB 24:=Xac XpD ⟨4,1,0,0,false,0,ByteArray.empty,⟨#[97,98]⟩,ByteArray.empty,[]⟩ (by decide) (by decide) (by decide)
theorem XpF :dk5.Inv∧dk5.XB 25:=Xac XpE ⟨2,1,0,0,false,0,⟨#[104,116,109,108]⟩,⟨#[]⟩,⟨#[]⟩,[]⟩ (by decide) (by decide) (by decide)
theorem Xi7 :dk6.Inv∧dk6.XB 26:=Xac XpF ⟨6,1,0,0,false,0,ByteArray.empty,ByteArray.empty,ByteArray.empty,[]⟩ (by decide) (by decide) (by decide)
theorem Xi8 :dk7.Inv∧dk7.XB 27:=XaE Xi7 6 3 0 (by decide) (by decide)
theorem Xi9 :dk8.Inv∧dk8.XB 28:=XaE Xi8 6 4 0 (by decide) (by decide)
theorem Xja :dk9.Inv∧dk9.XB 29:=XaE Xi9 1 2 0 (by decide) (by decide)
theorem Xjb :XbE.Inv∧XbE.XB 30:=XaE Xja 1 3 0 (by decide) (by decide)
theorem Xjc :XbF.Inv∧XbF.XB 31:=XaE Xjb 1 4 0 (by decide) (by decide)
theorem Xjd :XbG.Inv∧XbG.XB 32:=XaE Xjc 1 5 0 (by decide) (by decide)
theorem Xje :XbH.Inv∧XbH.XB 33:=XaE Xjd 1 5 2 (by decide) (by decide)
theorem XfY :Jo.Inv∧Jo.XB 34:=XaE Xje 2 6 0 (by decide) (by decide)
theorem Xco :Z9.Inv∧Z9.XB 35:=Xpy XfY 4 1 (by decide) (by decide)
theorem XpG :XaD.Inv∧XaD.XB 36:=Xpz Xco 2 (by decide) (by decide)
theorem XpH :dk0.ns.length≤20:=by
 decide+kernel
theorem XpI :dk1.ns.length≤20:=by
 decide+kernel
theorem XpJ :dk2.ns.length≤20:=by
 decide+kernel
theorem XpK :dk3.ns.length≤20:=by
 decide+kernel
theorem XpL :dk4.ns.length≤20:=by
 decide+kernel
theorem XpM :dk5.ns.length≤20:=by
 decide+kernel
theorem XpN :dk6.ns.length≤20:=by
 decide+kernel
theorem XpO :dk7.ns.length≤20:=by
 decide+kernel
theorem XpP :dk8.ns.length≤20:=by
 decide+kernel
theorem XpQ :dk9.ns.length≤20:=by
 decide+kernel
theorem XpR :XbE.ns.length≤20:=by
 decide+kernel
theorem XpS :XbF.ns.length≤20:=by
 decide+kernel
theorem XpT :XbG.ns.length≤20:=by
 decide+kernel
theorem XpU :XbH.ns.length≤20:=by
 decide+kernel
theorem Xjf :Jo.ns.length≤20:=by
 decide+kernel
theorem XfZ :Z9.ns.length≤20:=by
 decide+kernel
theorem XpV :XaD.ns.length≤20:=by
 decide+kernel
theorem Xjg :Jo.YC:=XfY.1.short (Nat.le_trans Xjf (by decide))
theorem XpW :Z9.YC:=Xco.1.short (Nat.le_trans XfZ (by decide))
theorem XpX :XaD.YC:=XpG.1.short (Nat.le_trans XpV (by decide))
theorem XdO (w:World):Calls Tryz.prog 6 #[] w fun e w'=>e= .returned (.bool true)∧Below w.heap.size w w':=by
 have HN:=Xqh (Xgv w)
 go_enter Tryz.func6,Tryz.ntmps6
 go_wp2_with fail
 refine HN.out.mono ?_
 rintro e w0⟨rfl,hw1⟩
 have o:=(Own.start w).XgB
 rw[←hw1]at o
 clear hw1 HN
 have o:Own w w.heap.size [.arena w.heap.size dk0] w0:=o
 obtain⟨g,hg⟩:∃g,w.heap.size=g:=⟨_,rfl⟩
 rw[show(Xf.arena w.heap.size dk0)=Xf.arena g dk0 by(rw[hg])]at o
 rw[show(Value.pointer (some (⟨w.heap.size,0,none⟩:Addr)))=Value.pointer (some ⟨g,0,none⟩)by(rw[hg])]
 clear hg
 have HC:=Xqh (o.call (fun ρ hA=>XbO dk0 ρ g false _ hA (Nat.le_trans XpH (by decide))))
 clear o
 go_wp2_with fail
 refine HC.out.mono ?_
 rintro e w1⟨rfl,o1⟩
 clear HC
 have o:Own w w.heap.size [.arena g dk1] w1:=o1
 clear o1
 generalize w1=w0 at*
 have HC:=Xqh (o.call (fun ρ hA=>XaO dk1 ρ g 1 1 ⟨#[104,116,109,108]⟩ (.slice none 0 0) [] _ hA (Xfu (b:=0) (l:= []) (World.ownsRow_nil _ 0 120 3)) (Nat.le_trans (Nat.add_le_add_right XpI _) (by decide)) (by decide)))
 clear o
 go_wp2_with fail
 refine HC.out.mono ?_
 rintro e w1⟨rfl,o1⟩
 clear HC
 have o:Own w w.heap.size [.arena g dk2] w1:=o1
 clear o1
 generalize w1=w0 at*
 have HC:=Xqh (o.call (fun ρ hA=>XaO dk2 ρ g 1 1 ⟨#[112]⟩ (.slice none 0 0) [] _ hA (Xfu (b:=0) (l:= []) (World.ownsRow_nil _ 0 120 3)) (Nat.le_trans (Nat.add_le_add_right XpJ _) (by decide)) (by decide)))
 clear o
 go_wp2_with fail
 refine HC.out.mono ?_
 rintro e w1⟨rfl,o1⟩
 clear HC
 have o:Own w w.heap.size [.arena g dk3] w1:=o1
 clear o1
 generalize w1=w0 at*
 have HC:=Xqh (o.call (fun ρ hA=>Xbe dk3 ρ g 1 ⟨#[97,98]⟩ _ hA (Nat.le_trans XpK (by decide))))
 clear o
 go_wp2_with fail
 refine HC.out.mono ?_
 rintro e w1⟨rfl,o1⟩
 clear HC
 have o:Own w w.heap.size [.arena g dk4] w1:=o1
 clear o1
 generalize w1=w0 at*
 have HC:=Xqh (o.call (fun ρ hA=>XcE dk4 ρ g 1 ⟨#[104,116,109,108]⟩ ⟨#[]⟩ ⟨#[]⟩ _ hA (Nat.le_trans XpL (by decide))))
 clear o
 go_wp2_with fail
 refine HC.out.mono ?_
 rintro e w1⟨rfl,o1⟩
 clear HC
 have o:Own w w.heap.size [.arena g dk5] w1:=o1
 clear o1
 generalize w1=w0 at*
 have HC:=Xqh (o.call (fun ρ hA=>XcF dk5 ρ g 1 _ hA (Nat.le_trans XpM (by decide))))
 clear o
 go_wp2_with fail
 refine HC.out.mono ?_
 rintro e w1⟨rfl,o1⟩
 clear HC
 have o:Own w w.heap.size [.arena g dk6] w1:=o1
 clear o1
 generalize w1=w0 at*
 have HC:=Xqh (Xas (p:=6) (n:=3) o Xi7.1 (Nat.le_trans (Nat.add_le_add_right XpN _) (by decide)))
 rw[Xph]at HC
 clear o
 go_wp2_with fail
 refine HC.out.mono ?_
 rintro e w1⟨rfl,o1⟩
 clear HC
 have o:Own w w.heap.size [.arena g dk7] w1:=o1
 clear o1
 generalize w1=w0 at*
 have HC:=Xqh (Xas (p:=6) (n:=4) o Xi8.1 (Nat.le_trans (Nat.add_le_add_right XpO _) (by decide)))
 rw[Xpi]at HC
 clear o
 go_wp2_with fail
 refine HC.out.mono ?_
 rintro e w1⟨rfl,o1⟩
 clear HC
 have o:Own w w.heap.size [.arena g dk8] w1:=o1
 clear o1
 generalize w1=w0 at*
 have HC:=Xqh (Xas (p:=1) (n:=2) o Xi9.1 (Nat.le_trans (Nat.add_le_add_right XpP _) (by decide)))
 rw[Xpj]at HC
 clear o
 go_wp2_with fail
 refine HC.out.mono ?_
 rintro e w1⟨rfl,o1⟩
 clear HC
 have o:Own w w.heap.size [.arena g dk9] w1:=o1
 clear o1
 generalize w1=w0 at*
 have HC:=Xqh (Xas (p:=1) (n:=3) o Xja.1 (Nat.le_trans (Nat.add_le_add_right XpQ _) (by decide)))
 rw[Xpk]at HC
 clear o
 go_wp2_with fail
 refine HC.out.mono ?_
 rintro e w1⟨rfl,o1⟩
 clear HC
 have o:Own w w.heap.size [.arena g XbE] w1:=o1
 clear o1
 generalize w1=w0 at*
 have HC:=Xqh (Xas (p:=1) (n:=4) o Xjb.1 (Nat.le_trans (Nat.add_le_add_right XpR _) (by decide)))
 rw[Xpl]at HC
 clear o
 go_wp2_with fail
 refine HC.out.mono ?_
 rintro e w1⟨rfl,o1⟩
 clear HC
 have o:Own w w.heap.size [.arena g XbF] w1:=o1
 clear o1
 generalize w1=w0 at*
 have HC:=Xqh (Xas (p:=1) (n:=5) o Xjc.1 (Nat.le_trans (Nat.add_le_add_right XpS _) (by decide)))
 rw[Xpm]at HC
 clear o
 go_wp2_with fail
 refine HC.out.mono ?_
 rintro e w1⟨rfl,o1⟩
 clear HC
 have o:Own w w.heap.size [.arena g XbG] w1:=o1
 clear o1
 generalize w1=w0 at*
 have HC:=Xqh (Xe0 (p:=1) (n:=5) (c:=2) o Xjd.1 (Nat.le_trans (Nat.add_le_add_right XpT _) (by decide)))
 rw[Xpn]at HC
 clear o
 go_wp2_with fail
 refine HC.out.mono ?_
 rintro e w1⟨rfl,o1⟩
 clear HC
 have o:Own w w.heap.size [.arena g XbH] w1:=o1
 clear o1
 generalize w1=w0 at*
 have HC:=Xqh (Xas (p:=2) (n:=6) o Xje.1 (Nat.le_trans (Nat.add_le_add_right XpU _) (by decide)))
 rw[Xpo]at HC
 clear o
 go_wp2_with fail
 refine HC.out.mono ?_
 rintro e w1⟨rfl,o1⟩
 clear HC
 have o:Own w w.heap.size [.arena g Jo] w1:=o1
 clear o1
 generalize w1=w0 at*
 have HC:=Xqh (XdN (b:=g) (A:=Jo) (h:=2) o (by simp) Xjg Xpp)
 clear o
 go_wp2_with fail
 refine HC.out.mono ?_
 rintro e w1⟨ka,kc,rfl,o1⟩
 clear HC
 simp only[List.length_cons,List.length_nil,Nat.zero_add,Nat.reduceAdd]at o1⊢
 have o2:=o1.alloc (.cells #[.int .i64 3,.int .i64 4] 3)
 have HC:=Xqh (XcU (.slice ka 2 kc) (.slice (some ⟨w1.heap.size,0,none⟩) 2 2) [3,4] [3,4] _ (o2.ints (by simp)) (Xbq w1 [3,4] 3 (by decide)))
 rw[show decide (([3,4]:List Int)= [3,4])=true from by{decide}]at HC
 have HO:=Xqh o2
 clear o1 o2
 go_wp2_with fail
 refine HC.out.mono ?_
 rintro e w2⟨rfl,hB⟩
 clear HC
 have o:Own w w.heap.size [.arena g Jo] w2:=(HO.out.read hB).drop.drop
 clear HO hB
 generalize w2=w0 at*
 have HC:=Xqh (XdN (b:=g) (A:=Jo) (h:=6) o (by simp) Xjg Xpq)
 clear o
 go_wp2_with fail
 refine HC.out.mono ?_
 rintro e w1⟨ka,kc,rfl,o1⟩
 clear HC
 simp only[List.length_nil]at o1⊢
 have o:Own w w.heap.size [.arena g Jo] w1:=o1.drop
 clear o1
 generalize w1=w0 at*
 have HC:=Xqh (Xh9 (h:=4) (at':=1) o XfY.1 (Nat.le_trans (Nat.add_le_add_right Xjf _) (by decide)))
 rw[Xpr,show Xl (7,0)= .tuple #[.int .i64 7,.int .i64 0]from rfl]at HC
 clear o
 go_wp2_with fail
 refine HC.out.mono ?_
 rintro e w1⟨rfl,o1⟩
 clear HC
 have o:Own w w.heap.size [.arena g Z9] w1:=o1
 clear o1
 generalize w1=w0 at*
 have HC:=Xqh (Xnw (h:=2) o Xco.1 (Nat.le_trans XfZ (by decide)) Xpx)
 rw[Xpt]at HC
 clear o
 go_wp2_with fail
 refine HC.out.mono ?_
 rintro e w1⟨rfl,o1⟩
 clear HC
 have o:Own w w.heap.size [.arena g Z9] w1:=o1
 clear o1
 generalize w1=w0 at*
 have HC:=Xqh (XdN (b:=g) (A:=Z9) (h:=2) o (by simp) XpW Xps)
 clear o
 go_wp2_with fail
 refine HC.out.mono ?_
 rintro e w1⟨ka,kc,rfl,o1⟩
 clear HC
 simp only[List.length_cons,List.length_nil,Nat.zero_add,Nat.reduceAdd]at o1⊢
 have o2:=o1.alloc (.cells #[.int .i64 3,.int .i64 4,.int .i64 7] 3)
 have HC:=Xqh (XcU (.slice ka 3 kc) (.slice (some ⟨w1.heap.size,0,none⟩) 3 3) [3,4,7] [3,4,7] _ (o2.ints (by simp)) (Xbq w1 [3,4,7] 3 (by decide)))
 rw[show decide (([3,4,7]:List Int)= [3,4,7])=true from by{decide}]at HC
 have HO:=Xqh o2
 clear o1 o2
 go_wp2_with fail
 refine HC.out.mono ?_
 rintro e w2⟨rfl,hB⟩
 clear HC
 have o:Own w w.heap.size [.arena g Z9] w2:=(HO.out.read hB).drop.drop
 clear HO hB
 generalize w2=w0 at*
 have HC:=Xqh (Xia (h:=2) o Xco.1 (Nat.le_trans XfZ (by decide)) (fun y hy=>Nat.le_trans (Xmg Xco.1 hy) Xpw))
 rw[Xpu]at HC
 clear o
 go_wp2_with fail
 refine HC.out.mono ?_
 rintro e w1⟨rfl,o1⟩
 clear HC
 have o:Own w w.heap.size [.arena g XaD] w1:=o1
 clear o1
 generalize w1=w0 at*
 have HC:=Xqh (XdN (b:=g) (A:=XaD) (h:=2) o (by simp) XpX Xpv)
 clear o
 go_wp2_with fail
 refine HC.out.mono ?_
 rintro e w1⟨ka,kc,rfl,o1⟩
 clear HC
 simp only[List.length_cons,List.length_nil,Nat.zero_add,Nat.reduceAdd]at o1⊢
 have o2:=o1.alloc (.cells #[.int .i64 3,.int .i64 4] 3)
 have HC:=Xqh (XcU (.slice ka 2 kc) (.slice (some ⟨w1.heap.size,0,none⟩) 2 2) [3,4] [3,4] _ (o2.ints (by simp)) (Xbq w1 [3,4] 3 (by decide)))
 rw[show decide (([3,4]:List Int)= [3,4])=true from by{decide}]at HC
 have HO:=Xqh o2
 clear o1 o2
 go_wp2_with fail
 refine HC.out.mono ?_
 rintro e w2⟨rfl,hB⟩
 clear HC
 have o:Own w w.heap.size [.arena g XaD] w2:=(HO.out.read hB).drop.drop
 clear HO hB
 generalize w2=w0 at*
 have HO:=Xqh o
 clear o
 go_wp2
 go_ret
 exact⟨rfl,HO.out.low⟩
end
end Go.Proofs.YtpicinjcmjaogaaGreatDoor
