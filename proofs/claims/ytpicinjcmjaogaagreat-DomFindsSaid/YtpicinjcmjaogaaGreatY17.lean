import Derived.Test.YtpicinjcmjaogaaGreatY16
set_option maxRecDepth 100000
set_option maxHeartbeats 4000000
set_option linter.unusedVariables false
namespace Go.Proofs.YtpicinjcmjaogaaGreat
variable{w:World}{ρ:Nat->Nat}{b nb:Nat}{A:Ar}{v:Value}
section
open Go.RowKit
theorem Xx.field {x:Int}{f:Nd->Nd}{j c:Nat}(hA:Xx w ρ b A)(hx:A.has x)(hc0:w.cell? ⟨b,0,none⟩=some (.slice (some ⟨nb,0,none⟩) (A.ns.length+1) c))(hj:j<13)(hf:∀kv av,((A.get x).cells kv av).set j v=(f (A.get x)).cells kv av)(hk:(f (A.get x)).Xc=(A.get x).Xc)(ha:(f (A.get x)).Xb=(A.get x).Xb):Xx (w.setCell ⟨nb,x.toNat*13+j,none⟩ v) ρ b (A.mod x f)/\Xr ρ ρ w (w.setCell ⟨nb,x.toNat*13+j,none⟩ v):=Xx.store hA hx hc0 (Upd.refl _ _) (λ_ _=>rfl) hA.1 hj (λkv av h1 h2 _ _=>⟨kv,av,hf kv av,by rw[hk];exact h1,by rw[ha];exact h2⟩)
theorem Xx.look (hA:Xx w ρ b A):∃nb c,w.cell? ⟨b,0,none⟩=some (.slice (some ⟨nb,0,none⟩) (A.ns.length+1) c)/\(A.ns.length:Int)+1<=9223372036854775807/\A.ns.length+1<=c/\(∀j,w.frozen? ⟨nb,j,none⟩=false)/\ρ nb=2/\(∀h W,W.cell? ⟨b,0,none⟩=some (.slice (some ⟨nb,0,none⟩) (A.ns.length+1) c)->Calls Tryz.prog 64 #[.pointer (some ⟨b,0,none⟩),.int .i64 h] W λe w'=>e= .returned (.bool (decide (A.has h)))/\W=w')/\∀x,A.has x->1<=x/\x<=A.ns.length/\∃kv av,YB w nb (x.toNat*13) (A.get x) kv av/\XT w ρ (2*x.toNat+4) 3 1 kv (A.get x).Xc.length ((A.get x).Xc.map Xp)/\XT w ρ (2*x.toNat+5) 132 3 av (A.get x).Xb.length ((A.get x).Xb.flatMap Xv):=by
 obtain⟨nb,c,ib,ic,h0,h1,hf,hlt,hm,hc,-,hnb,-,-,-,hfn,-,-,-,hN⟩:=hA.head
 exact⟨nb,c,h0,hm,hc,hfn,hnb,λh W hW=>Xhm A b _ c h W hW hm,λx hx=>⟨hx.1,by have:=hx.2;unfold Ar.n at this;exact this,hN x hx⟩⟩
theorem Z6 {e:Int}(hA:Xx w ρ b A):Yu A ρ b w (.int .i64 e) (.returned (.int .i64 e)) w:=⟨rfl,ρ,hA,Xr.refl _ _⟩
theorem Xlm (A:Ar)(ρ:Nat->Nat)(b:Nat)(h:Int)(s:ByteArray)(w:World)(hA:Xx w ρ b A):Calls Tryz.prog 236 #[.pointer (some ⟨b,0,none⟩),.int .i64 h,.string s] w (Yu (A.XG h s).2 ρ b w (.int .i64 (A.XG h s).1)):=by
 obtain⟨nb,c,h0,hm,hc,hfn,-,HH,hN⟩:=hA.look
 have HH:=Xqh HH
 by_cases hh:A.has h
 ·obtain⟨hp,hq,kv,av,F,-,-⟩:=hN h hh;have c0:=F.c0;have c7:=F.c7;have f7:=hfn (h.toNat*13+7);have hd:decide (A.has h)=true:=by{simp[hh]};have HST:=Xqh (fun(s:ByteArray)=>hA.field (f:=λx=>{x with data:=s}) (j:=7) (v:= .string s) hh h0 (by omega) (λ_ _=>rfl) rfl rfl);by_cases hk:(A.get h).Xa=5\/(A.get h).Xa=6;{have e:A.XG h s=(0,A.mod h (λx=>{x with data:=s})):=by{unfold Ar.XG;rw[if_neg (by simp[hh]),if_neg (λq=>q hk)]};rw[e];clear e F hN hh hfn hA;generalize(A.get h).Xa=k at*;rcases hk with rfl|rfl;all_goals go_enter Tryz.func236,Tryz.ntmps236;go_wp2_with fail;refine(HH.out _ _ h0).mono ?_;rintro e w'⟨rfl,rfl⟩;rw[hd];go_wp2;go_ret;exact⟨rfl,ρ,(HST.out s).1,(HST.out s).2⟩};·have e:A.XG h s=(9,A):=by{unfold Ar.XG;rw[if_neg (by simp[hh]),if_pos hk]};rw[e];have hk5:((A.get h).Xa !=5)=true:=by{simp;exact λq=>hk (.inl q)};have hk6:((A.get h).Xa !=6)=true:=by{simp;exact λq=>hk (.inr q)};have HA:=Xqh hA;clear e F hN hh hfn hA hk;go_enter Tryz.func236,Tryz.ntmps236;go_wp2_with fail;refine(HH.out _ _ h0).mono ?_;rintro e w'⟨rfl,rfl⟩;rw[hd];go_wp2;go_ret;exact Z6 HA.out
 ·have hd:decide (A.has h)=false:=by{simp[hh]};have e:A.XG h s=(3,A):=by{unfold Ar.XG;rw[if_pos hh]};rw[e];have HA:=Xqh hA;clear e hN hh hfn hA;go_enter Tryz.func236,Tryz.ntmps236;go_wp2_with fail;refine(HH.out _ _ h0).mono ?_;rintro e w'⟨rfl,rfl⟩;rw[hd];go_wp2;go_ret;exact Z6 HA.out
theorem Xln (A:Ar)(ρ:Nat->Nat)(b:Nat)(h:Int)(q:Bool)(w:World)(hA:Xx w ρ b A):Calls Tryz.prog 238 #[.pointer (some ⟨b,0,none⟩),.int .i64 h,.bool q] w (Yu (A.YQ h q).2 ρ b w (.int .i64 (A.YQ h q).1)):=by
 obtain⟨nb,c,h0,hm,hc,hfn,-,HH,hN⟩:=hA.look
 have HH:=Xqh HH
 by_cases hh:A.has h
 ·obtain⟨hp,hq,kv,av,F,-,-⟩:=hN h hh;have c0:=F.c0;have c10:=F.c10;have f10:=hfn (h.toNat*13+10);have hd:decide (A.has h)=true:=by{simp[hh]};have HST:=Xqh (hA.field (f:=λx=>{x with XI:=q}) (j:=10) (v:= .bool q) hh h0 (by omega) (λ_ _=>rfl) rfl rfl);by_cases hk:(A.get h).Xa=1;{have e:A.YQ h q=(0,A.mod h (λx=>{x with XI:=q})):=by{unfold Ar.YQ;rw[if_neg (by simp[hh]),if_neg (λq=>q hk)]};rw[e];rw[hk]at c0;clear e F hN hh hfn hA hk;go_enter Tryz.func238,Tryz.ntmps238;go_wp2_with fail;refine(HH.out _ _ h0).mono ?_;rintro e w'⟨rfl,rfl⟩;rw[hd];go_wp2;go_ret;exact⟨rfl,ρ,HST.out.1,HST.out.2⟩};·have e:A.YQ h q=(9,A):=by{unfold Ar.YQ;rw[if_neg (by simp[hh]),if_pos hk]};rw[e];have hk5:((A.get h).Xa !=1)=true:=by{simpa using hk};have HA:=Xqh hA;clear e F hN hh hfn hA hk;go_enter Tryz.func238,Tryz.ntmps238;go_wp2_with fail;refine(HH.out _ _ h0).mono ?_;rintro e w'⟨rfl,rfl⟩;rw[hd];go_wp2;go_ret;exact Z6 HA.out
 ·have hd:decide (A.has h)=false:=by{simp[hh]};have e:A.YQ h q=(3,A):=by{unfold Ar.YQ;rw[if_pos hh]};rw[e];have HA:=Xqh hA;clear e hN hh hfn hA;go_enter Tryz.func238,Tryz.ntmps238;go_wp2_with fail;refine(HH.out _ _ h0).mono ?_;rintro e w'⟨rfl,rfl⟩;rw[hd];go_wp2;go_ret;exact Z6 HA.out
theorem Xlo (A:Ar)(ρ:Nat->Nat)(b:Nat)(h d:Int)(w:World)(hA:Xx w ρ b A):Calls Tryz.prog 239 #[.pointer (some ⟨b,0,none⟩),.int .i64 h,.int .i64 d] w (Yu (A.Xt h d).2 ρ b w (.int .i64 (A.Xt h d).1)):=by
 obtain⟨nb,c,h0,hm,hc,hfn,-,HH,hN⟩:=hA.look
 have HH:=Xqh HH
 have HA:=Xqh hA
 by_cases hh:A.has h
 ·have hd:decide (A.has h)=true:=by{simp[hh]};by_cases hh2:A.has d;{have hd2:decide (A.has d)=true:=by{simp[hh2]};obtain⟨hp,hq,kv,av,F,-,-⟩:=hN h hh;obtain⟨hp2,hq2,kv2,av2,F2,-,-⟩:=hN d hh2;have c0:=F.c0;have c3:=F.c3;have d0:=F2.c0;have f10:=hfn (h.toNat*13+3);have HST:=Xqh (hA.field (f:=λx=>{x with doc:=d}) (j:=3) (v:= .int .i64 d) hh h0 (by omega) (λ_ _=>rfl) rfl rfl);by_cases hk:(A.get h).Xa=1;{have e:A.Xt h d=(9,A):=by{unfold Ar.Xt;rw[if_neg (by simp[hh,hh2]),if_pos (.inl hk)]};rw[e];rw[hk]at c0;clear e F F2 hN hh hh2 hfn hA hk;go_enter Tryz.func239,Tryz.ntmps239;go_wp2_with fail;refine(HH.out _ _ h0).mono ?_;rintro e w'⟨rfl,rfl⟩;rw[hd];go_wp2_with fail;refine(HH.out _ _ h0).mono ?_;rintro e w'⟨rfl,rfl⟩;rw[hd2];go_wp2;go_ret;exact Z6 HA.out};·have hk1:((A.get h).Xa==1)=false:=by{simpa using hk};by_cases hk2:(A.get d).Xa=1;{have e:A.Xt h d=(0,A.mod h (λx=>{x with doc:=d})):=by{unfold Ar.Xt;rw[if_neg (by simp[hh,hh2]),if_neg (by simp[hk,hk2])]};rw[e];rw[hk2]at d0;clear e F F2 hN hh hh2 hfn hA hk hk2;go_enter Tryz.func239,Tryz.ntmps239;go_wp2_with fail;refine(HH.out _ _ h0).mono ?_;rintro e w'⟨rfl,rfl⟩;rw[hd];go_wp2_with fail;refine(HH.out _ _ h0).mono ?_;rintro e w'⟨rfl,rfl⟩;rw[hd2];go_wp2;go_ret;exact⟨rfl,ρ,HST.out.1,HST.out.2⟩};·have e:A.Xt h d=(9,A):=by{unfold Ar.Xt;rw[if_neg (by simp[hh,hh2]),if_pos (.inr hk2)]};rw[e];have hk2':((A.get d).Xa !=1)=true:=by{simpa using hk2};clear e F F2 hN hh hh2 hfn hA hk hk2;go_enter Tryz.func239,Tryz.ntmps239;go_wp2_with fail;refine(HH.out _ _ h0).mono ?_;rintro e w'⟨rfl,rfl⟩;rw[hd];go_wp2_with fail;refine(HH.out _ _ h0).mono ?_;rintro e w'⟨rfl,rfl⟩;rw[hd2];go_wp2;go_ret;exact Z6 HA.out};·have hd2:decide (A.has d)=false:=by{simp[hh2]};have e:A.Xt h d=(3,A):=by{unfold Ar.Xt;rw[if_pos (.inr hh2)]};rw[e];clear e hN hh hh2 hfn hA;go_enter Tryz.func239,Tryz.ntmps239;go_wp2_with fail;refine(HH.out _ _ h0).mono ?_;rintro e w'⟨rfl,rfl⟩;rw[hd];go_wp2_with fail;refine(HH.out _ _ h0).mono ?_;rintro e w'⟨rfl,rfl⟩;rw[hd2];go_wp2;go_ret;exact Z6 HA.out
 ·have hd:decide (A.has h)=false:=by{simp[hh]};have e:A.Xt h d=(3,A):=by{unfold Ar.Xt;rw[if_pos (.inl hh)]};rw[e];clear e hN hh hfn hA;go_enter Tryz.func239,Tryz.ntmps239;go_wp2_with fail;refine(HH.out _ _ h0).mono ?_;rintro e w'⟨rfl,rfl⟩;rw[hd];go_wp2;go_ret;exact Z6 HA.out
end
section
open Go.RowKit
theorem Xe3 (w:World)(ρ:Nat->Nat)(r:Nat):XT w ρ r 132 3 (.slice none 0 0) 0 []:=⟨World.ownsRow_nil _ _ _ _,λg hg=>by simp[Value.ownBlock]at hg⟩
theorem Xhn (w:World)(o1 o2 o3:Obj):∀W,W=((w.alloc o1).alloc o2).alloc o3->W.heap[w.heap.size]?=some o1/\W.heap[w.heap.size+1]?=some o2/\W.heap[w.heap.size+2]?=some o3/\W.heap.size=w.heap.size+3/\Below w.heap.size w W:=by
 rintro W rfl
 have hnew:∀(v:World)(o:Obj)(k:Nat),k=v.heap.size->(v.alloc o).heap[k]?=some o:=λv o k hk=>by rw[hk];exact heap_alloc_new v o
 refine⟨?_,?_,?_,by simp,?_⟩
 ·rw[Ja _ _ _ (by simp;omega),Ja _ _ _ (by simp)];exact hnew _ _ _ rfl
 ·rw[Ja _ _ _ (by simp)];exact hnew _ _ _ (by simp)
 ·exact hnew _ _ _ (by simp)
 ·exact(((Below.refl _ w).alloc (by simp) _).alloc (by simp) _).alloc (by simp;omega) _
theorem Xho {ib:Nat}(h1:w.heap[b]?=some (.cells #[.slice (some ⟨nb,0,none⟩) 1 1,.slice (some ⟨ib,0,none⟩) 1 1] 112 (0,0)))(h2:w.heap[nb]?=some (.cells (XL.cells (.slice none 0 0) (.slice none 0 0)).toArray 46 (0,0)))(h3:w.heap[ib]?=some (.cells #[.int .i64 0] 3 (0,0))):Xx w (λk=>if k=b then 1 else if k=nb then 2 else if k=ib then 3 else 0) b Ar.new:=by
 have hbn:nb≠b:=λe=>by rw[e,h1]at h2;simp at h2
 have hbi:ib≠b:=λe=>by rw[e,h1]at h3;simp at h3
 have hni:ib≠nb:=λe=>by rw[e,h2]at h3;simp[Nd.cells]at h3
 refine⟨λk hk=>?_,by simp,rfl,_,_,h1,⟨[XL.cells (.slice none 0 0) (.slice none 0 0)],⟨⟨rfl,.inr ⟨nb,1,_,rfl,Nat.zero_le _,h2,Nat.le_refl _,by unfold maxLen;simp,by simp[Nd.cells],by simp[Nd.cells,Ar.new]⟩⟩,λg hg=>?_⟩,rfl,λi n hn=>?_⟩,⟨rfl,.inr ⟨ib,1,_,rfl,Nat.zero_le _,h3,Nat.le_refl _,by unfold maxLen;omega,rfl,rfl⟩⟩,λg hg=>?_⟩
 ·dsimp only at hk;split at hk;{rename_i e;rw[e];exact lt_of_block h1};·split at hk;{rename_i e;rw[e];exact lt_of_block h2};·split at hk;{rename_i e;rw[e];exact lt_of_block h3};·exact absurd rfl hk
 ·simp[Value.ownBlock]at hg;subst hg;simp[hbn]
 ·cases i with|zero=>{simp at hn;subst hn;exact⟨_,rfl,_,_,rfl,⟨World.ownsRow_nil _ _ _ _,λg hg=>by simp[Value.ownBlock]at hg⟩,⟨World.ownsRow_nil _ _ _ _,λg hg=>by simp[Value.ownBlock]at hg⟩⟩}|succ i=>simp[Ar.new]at hn
 ·simp[Value.ownBlock]at hg;subst hg;simp[hbi,hni]
theorem Xlp (w:World):Calls Tryz.prog 21 #[] w λe w'=>e= .returned (.pointer (some ⟨w.heap.size+2,0,none⟩))/\Below w.heap.size w w'/\∃ρ,Xx w' ρ (w.heap.size+2) Ar.new/\∀k,ρ k≠0->w.heap.size<=k:=by
 obtain⟨i0,hi,hz0,hz1,hz2⟩:=info_parts XcW
 obtain⟨j0,hj,hy0,hy1,hy2⟩:=info_parts Xaf
 have m46:=λW:World=>run_make (P:=Tryz.prog) W 60 46 i0 _ Tryz.underlying60 hi hz0 .i64 .i64 1 1 (by omega) (by omega) (by rw[hz2];omega) (by omega)
 have m32:=λW:World=>run_make (P:=Tryz.prog) W 41 3 j0 _ Tryz.underlying41 hj hy0 .i64 .i64 1 1 (by omega) (by omega) (by rw[hy2];omega) (by omega)
 rw[hz1]at m46
 rw[hy1]at m32
 have eN:madeCells (Value.agg #[.int .i64 0,.int .i64 0,.slice none 0 0,.int .i64 0,.int .i64 0,.string ByteArray.empty,.slice none 0 0,.string ByteArray.empty,.string ByteArray.empty,.string ByteArray.empty,.bool false,.int .i64 0,.int .i64 0]).cells ((1:Int).toNat*13)=(XL.cells (.slice none 0 0) (.slice none 0 0)).toArray:=by kernel_rfl
 have eI:madeCells (Value.int .i64 0).cells ((1:Int).toNat*1)= #[.int .i64 0]:=by kernel_rfl
 rw[eN]at m46
 rw[eI]at m32
 simp only[show(1:Int).toNat=1 from rfl]at m46 m32
 clear eN eI hi hz0 hz1 hz2 hj hy0 hy1 hy2
 unfold Nd.cells at m46
 go_enter Tryz.func21,Tryz.ntmps21
 go_wp2
 go_region
 ·go_wp2;go_ret;obtain⟨q1,q2,q3,q4,q5⟩:=Xhn w _ _ _ _ rfl;refine⟨rfl,Below.drew q5,_,Xx.upd (F:=λ_=>False) (Xho q3 q1 q2) ((Upd.refl _ _).drew) (λ_ _=>id),λk hk=>?_⟩;(try dsimp only at hk);(repeat' split at hk);all_goals omega
 ·go_wp2;go_ret;obtain⟨q1,q2,q3,q4,q5⟩:=Xhn w _ _ _ _ rfl;refine⟨rfl,Below.drew q5,_,Xx.upd (F:=λ_=>False) (Xho q3 q2 q1) ((Upd.refl _ _).drew) (λ_ _=>id),λk hk=>?_⟩;(try dsimp only at hk);(repeat' split at hk);all_goals omega
theorem Xe4 (A:Ar)(ρ:Nat->Nat)(b:Nat)(q:Bool)(w:World)(hA:Xx w ρ b A)(hsmall:A.ns.length<=1000000):Calls Tryz.prog 23 #[.pointer (some ⟨b,0,none⟩),.bool q] w (Yu (A.Xn q) ρ b w (.int .i64 (A.n+1))):=by
 have HC:=Xqh (Xdd A ρ b {XL with Xa:=1,XI:=q,doc:=A.n+1} none 0 w hA hsmall rfl (Xe3 _ _ _))
 obtain⟨nb,c,h0,hm,hc,hfn,-,HH,hN⟩:=hA.look
 clear hN HH hfn hA
 go_enter Tryz.func23,Tryz.ntmps23
 go_wp2_with fail
 refine HC.out.mono ?_
 rintro e w1⟨rfl,hR⟩
 have HR:=Xqh hR
 clear hR
 go_wp2
 go_ret
 exact⟨rfl,HR.out⟩
theorem Yu.from {A':Ar}{W:World}{e:Ending}{w':World}(h:Yu A' ρ b W v e w')(hB:Below w.heap.size w W):Yu A' ρ b w v e w':=by
 obtain⟨rfl,ρ',h1,h2⟩:=h
 exact⟨rfl,ρ',h1,(Xr.below hB).trans h2⟩
theorem XaZ (A:Ar)(ρ:Nat->Nat)(b:Nat)(d:Int)(n:Nd)(w:World)(hA:Xx w ρ b A)(hsmall:A.ns.length<=1000000)(hk:n.Xc= [])(ha:n.Xb= []):Calls Tryz.prog 234 #[.pointer (some ⟨b,0,none⟩),.int .i64 d,.agg (n.cells (.slice none 0 0) (.slice none 0 0)).toArray] w (Yu (A.make d n).2 ρ b w (Xl (A.make d n).1)):=by
 obtain⟨x0,x1,x2,x3,x4,x5,x6,x7,x8,x9,x10,x11,x12⟩:=n
 dsimp only at hk ha
 subst hk
 subst ha
 generalize hnn:(⟨x0,x1,[],x3,x4,x5,[],x7,x8,x9,x10,x11,x12⟩:Nd)=n
 have HC:Hid (A.XA d=0->∀W,Below w.heap.size w W->Calls Tryz.prog 88 #[.pointer (some ⟨b,0,none⟩),.agg ({n with doc:=d}.cells (.slice none 0 0) (.slice none 0 0)).toArray] W (Yu (A.make d n).2 ρ b w (.int .i64 (A.n+1)))):=Xqh (λhe W hW=>by have e:(A.make d n).2=A.add {n with doc:=d}:=by{unfold Ar.make;rw[if_neg (by simp[he])]};rw[e];subst hnn;refine(Xdd A ρ b ⟨x0,x1,[],d,x4,x5,[],x7,x8,x9,x10,x11,x12⟩ none 0 W (hA.below hW) hsmall rfl (Xe3 _ _ _)).mono ?_;exact λe w' h=>h.from hW)
 have HO:=Xqh (λW(hW:Below w.heap.size w W)=>Xb9 A ρ b d W (hA.below hW))
 have HA:=Xqh (fun(o:Obj)=>hA.below (Xw w o))
 have HF:=Xqh (show A.make d n=if A.XA d≠0 then((0,A.XA d),A)else((A.n+1,0),A.add {n with doc:=d})from rfl)
 subst hnn
 dsimp only at HC
 generalize hm:A.make d _=R at*
 unfold Nd.cells at HC⊢
 dsimp only at HC⊢
 clear hA hm
 by_cases he:A.XA d=0
 ·have he1:(A.XA d !=0)=false:=by{simp[he]};have hR:R.1=(A.n+1,0):=by{rw[HF.out,if_neg (by simp[he])]};have HE:=Xqh he;rw[hR];clear he hR HF HA;go_enter Tryz.func234,Tryz.ntmps234;go_wp2_with fail;refine(HO.out _ (Xw _ _)).mono ?_;rintro e w1⟨rfl,rfl⟩;go_wp2_with fail;refine(HC.out HE.out _ (Xw _ _)).mono ?_;rintro e w2⟨rfl,hR2⟩;have HR:=Xqh hR2;clear hR2;go_wp2;go_ret2;exact⟨rfl,HR.out⟩
 ·have he1:(A.XA d !=0)=true:=by{simp[he]};have hR:R=((0,A.XA d),A):=by{rw[HF.out,if_pos he]};rw[hR];clear he hR HF HC;go_enter Tryz.func234,Tryz.ntmps234;go_wp2_with fail;refine(HO.out _ (Xw _ _)).mono ?_;rintro e w1⟨rfl,rfl⟩;go_wp2;go_ret2;exact⟨rfl,ρ,HA.out _,Xr.below (Xw _ _)⟩
end
end Go.Proofs.YtpicinjcmjaogaaGreat
