import Derived.Test.YtpicinjcmjaogaaGreatX24
set_option maxRecDepth 100000
set_option maxHeartbeats 4000000
set_option linter.unusedVariables false
namespace Go.Proofs.YtpicinjcmjaogaaGreat
section
/-- Labels are the same along the Xcw. -/
def Lab (ρ : Int → Int) (A : Ar) : Prop := ∀ (i : Nat) (n : Nd), A.ns[i]? = some n → (n.Xd ≠ 0 → ρ n.Xd = ρ ((i : Int) + 1)) ∧ (n.host ≠ 0 → ρ n.host = ρ ((i : Int) + 1))
/-- Texts as they were, but for one; new nodes XQ texts, but for one. -/
structure Kp (ρ : Int → Int) (z : Int) (A A' : Ar) : Prop where
  lab : Lab ρ A'
  old : ∀ (i : Nat) (n : Nd), A.ns[i]? = some n → ∃ n', A'.ns[i]? = some n' ∧ (tx n' ≤ tx n ∨ ((i : Int) + 1 = z ∧ tx n' ≤ 400))
  new : ∀ (i : Nat) (n' : Nd), A'.ns[i]? = some n' → A.ns.length ≤ i → tx n' = 0 ∨ ((i : Int) + 1 = z ∧ tx n' ≤ 400)
theorem Kp.refl {ρ:Int→Int}(z:Int){A:Ar}(h:Lab ρ A):Kp ρ z A A:=⟨h,fun i n hi=>⟨n,hi,.inl (Nat.le_refl _)⟩,fun i n hi hl=>by have:=(List.getElem?_eq_some_iff.1 hi).1;omega⟩
theorem Kp.trans {ρ:Int→Int}{z:Int}{A B C:Ar}(h1:Kp ρ z A B)(h2:Kp ρ z B C):Kp ρ z A C:=by
 refine⟨h2.lab,fun i n hi=>?_,fun i n hi hl=>?_⟩
 ·obtain⟨n1,e1,q1⟩:=h1.old i n hi;obtain⟨n2,e2,q2⟩:=h2.old i n1 e1;refine⟨n2,e2,?_⟩;rcases q2 with q2|q2;·{rcases q1 with q1|q1;·{exact .inl (by omega)};·exact .inr ⟨q1.1,by omega⟩};·exact .inr q2
 ·by_cases hb:i<B.ns.length;·{obtain⟨n2,e2,q2⟩:=h2.old i _ (List.getElem?_eq_getElem hb);obtain rfl:n=n2:=by{rw[hi]at e2;exact Option.some.inj e2};rcases q2 with q2|q2;·{rcases h1.new i _ (List.getElem?_eq_getElem hb) hl with q1|q1;·{exact .inl (by omega)};·exact .inr ⟨q1.1,by omega⟩};·exact .inr q2};·exact h2.new i n hi (by omega)
theorem kp_mod {ρ:Int→Int}{z:Int}{A:Ar}(h:Lab ρ A)(x:Int){f:Nd→Nd}(h1:∀n,(f n).host=n.host)(h2:∀n,(f n).Xd=n.Xd∨(f n).Xd=0∨ρ (f n).Xd=ρ (((x.toNat-1:Nat):Int)+1))(h3:∀n,tx (f n)≤tx n∨(((x.toNat-1:Nat):Int)+1=z∧tx (f n)≤400)):Kp ρ z A (A.mod x f):=by
 have hg:∀i,(A.mod x f).ns[i]?=if x.toNat-1=i then A.ns[i]?.map f else A.ns[i]?:=fun i=>by show(A.ns.modify (x.toNat-1) f)[i]?=_;rw[List.getElem?_modify];split<;>simp_all
 refine⟨fun i n hi=>?_,fun i n hi=>?_,fun i n hi hl=>?_⟩
 ·rw[hg]at hi;split at hi;·{rename_i e;cases hq:A.ns[i]? with|none=>{rw[hq]at hi;simp at hi}|some m=>rw[hq]at hi;obtain rfl:f m=n:=by{simpa using hi};have:=h i m hq;refine⟨fun hz=>?_,fun hz=>by rw[h1]at hz⊢;exact this.2 hz⟩;rcases h2 m with q|q|q;·{rw[q]at hz⊢;exact this.1 hz};·{exact absurd q hz};·rw[q,e]};·exact h i n hi
 ·rw[hg];split;·{rename_i e;rw[hi];refine⟨f n,rfl,?_⟩;rcases h3 n with q|q;·{exact .inl q};·exact .inr ⟨by rw[←e];exact q.1,q.2⟩};·exact⟨n,hi,.inl (Nat.le_refl _)⟩
 ·have:i<(A.mod x f).ns.length:=(List.getElem?_eq_some_iff.1 hi).1;have h5:(A.mod x f).ns.length=A.ns.length:=by{simp[Ar.mod]};omega
theorem kp_keep {ρ:Int→Int}{z:Int}{A:Ar}(h:Lab ρ A)(x:Int){f:Nd→Nd}(h1:∀n,(f n).host=n.host)(h2:∀n,(f n).Xd=n.Xd)(h3:∀n,tx (f n)=tx n):Kp ρ z A (A.mod x f):=kp_mod h x h1 (fun n=> .inl (h2 n)) (fun n=> .inl (Nat.le_of_eq (h3 n)))
theorem kp_add {ρ:Int→Int}{z:Int}{A:Ar}(h:Lab ρ A){n:Nd}(h1:n.Xd=0)(h2:n.host≠0→ρ n.host=ρ (A.n+1))(h3:tx n=0∨(A.n+1=z∧tx n≤400)):Kp ρ z A (A.add n):=by
 have hg:∀i,(A.add n).ns[i]?=if i<A.ns.length then A.ns[i]? else if i=A.ns.length then some n else none:=fun i=>by show(A.ns++ [n])[i]?=_;by_cases e:i<A.ns.length;·{rw[if_pos e,List.getElem?_append_left e]};·rw[if_neg e,List.getElem?_append_right (by omega)];by_cases e2:i=A.ns.length;·{rw[if_pos e2,e2];simp};·rw[if_neg e2,List.getElem?_eq_none (by simp;omega)]
 refine⟨fun i m hi=>?_,fun i m hi=>?_,fun i m hi hl=>?_⟩
 ·rw[hg]at hi;split at hi;·{exact h i m hi};·split at hi;·{rename_i e;obtain rfl:n=m:=by{simpa using hi};refine⟨fun hz=>absurd h1 hz,fun hz=>?_⟩;rw[h2 hz,e];rfl};·cases hi
 ·have hl:=(List.getElem?_eq_some_iff.1 hi).1;exact⟨m,by rw[hg,if_pos hl];exact hi,.inl (Nat.le_refl _)⟩
 ·rw[hg,if_neg (by omega)]at hi;split at hi;·{rename_i e;obtain rfl:n=m:=by{simpa using hi};rcases h3 with q|q;·{exact .inl q};·exact .inr ⟨by rw[←q.1,e];rfl,q.2⟩};·cases hi
theorem kp_cut {ρ:Int→Int}{z:Int}{A:Ar}(h:Lab ρ A)(x:Int):Kp ρ z A (A.cut x):=by
 unfold Ar.cut
 split
 ·exact Kp.refl z h
 ·have k1:Kp ρ z A (A.mod (A.get x).Xd (fun m=>{m with Xc:=XQ m.Xc x})):=kp_keep h _ (fun _=>rfl) (fun _=>rfl) (fun _=>rfl);exact k1.trans (kp_mod k1.lab x (fun _=>rfl) (fun _=> .inr (.inl rfl)) (fun _=> .inl (Nat.le_refl _)))
theorem at_has {x:Int}(h:1≤x):((x.toNat-1:Nat):Int)+1=x:=by
 omega
theorem kp_put {ρ:Int→Int}{z:Int}{A:Ar}(h:Lab ρ A){p x:Int}(c:Int)(he:A.has x→ρ x=ρ p):Kp ρ z A (A.put p x c).2:=by
 unfold Ar.put
 split
 ·exact Kp.refl z h
 ·rename_i hq;have hx:=(Xem (Classical.not_not.1 hq)).2.1;have k1:=kp_cut (z:=z) h x;have k2:Kp ρ z (A.cut x) ((A.cut x).mod p (fun m=>{m with Xc:=YK m.Xc x c})):=kp_keep k1.lab _ (fun _=>rfl) (fun _=>rfl) (fun _=>rfl);exact k1.trans (k2.trans (kp_mod k2.lab x (fun _=>rfl) (fun _=> .inr (.inr (by rw[at_has hx.1,he hx]))) (fun _=> .inl (Nat.le_refl _))))
theorem kp_document {ρ:Int→Int}{z:Int}{A:Ar}(h:Lab ρ A)(q:Bool):Kp ρ z A (A.Xn q):=kp_add h rfl (fun e=>absurd rfl e) (.inl rfl)
theorem kp_inertOf {ρ:Int→Int}{z:Int}{A:Ar}(h:Lab ρ A)(d:Int):Kp ρ z A (A.Xq d).2:=by
 unfold Ar.Xq
 split
 ·exact Kp.refl z h
 ·have k:=kp_document (z:=z) h false;exact⟨k.lab,k.old,k.new⟩
theorem kp_inertCall {ρ:Int→Int}{z:Int}{A:Ar}(h:Lab ρ A)(d:Int):Kp ρ z A (A.YA d).2:=by
 unfold Ar.YA
 split
 ·exact Kp.refl z h
 ·exact kp_inertOf h d
theorem kp_make {ρ:Int→Int}{z:Int}{A:Ar}(h:Lab ρ A)(d:Int){n:Nd}(h1:n.Xd=0)(h2:n.host=0)(h3:tx n=0∨(A.n+1=z∧tx n≤400)):Kp ρ z A (A.make d n).2:=by
 unfold Ar.make
 split
 ·exact Kp.refl z h
 ·exact kp_add h h1 (fun e=>absurd h2 e) h3
/-- The labels of new nodes are the same. -/
def NewL (ρ : Int → Int) (k : Nat) : Prop := ∀ i j : Nat, k ≤ i → k ≤ j → ρ ((i : Int) + 1) = ρ ((j : Int) + 1)
theorem kp_element {ρ:Int→Int}{z:Int}{A:Ar}(h:Lab ρ A){k:Nat}(hν:NewL ρ k)(hk:k≤A.ns.length)(d s:Int)(name:ByteArray)(l:List Xm):Kp ρ z A (A.element d s name l).2:=by
 have h1:Kp ρ z A (A.add (XJ d s name l)):=kp_add h rfl (fun e=>absurd rfl e) (.inl rfl)
 by_cases he:A.XA d=0
 ·by_cases hs:XS s∧Ys l;·{by_cases ht:XN (XJ d s name l);·{rw[XaN he hs ht];have k2:=kp_inertOf (z:=z) h1.lab d;have hn:A.ns.length≤((A.add (XJ d s name l)).Xq d).2.ns.length:=by{have:(A.add (XJ d s name l)).ns.length=A.ns.length+1:=by{simp[Ar.add]};unfold Ar.Xq;split;·{dsimp only;omega};·simp[Ar.Xn,Ar.add]};have k3:Kp ρ z ((A.add (XJ d s name l)).Xq d).2 (((A.add (XJ d s name l)).Xq d).2.add (Y7 (A.n+1) ((A.add (XJ d s name l)).Xq d).1)):=kp_add k2.lab rfl (fun _=>hν A.ns.length ((A.add (XJ d s name l)).Xq d).2.ns.length hk (by omega)) (.inl rfl);have k4:=kp_keep (z:=z) k3.lab (A.n+1) (f:=fun x=>{x with Xg:=((A.add (XJ d s name l)).Xq d).2.n+1}) (fun _=>rfl) (fun _=>rfl) (fun _=>rfl);exact h1.trans (k2.trans (k3.trans k4))};·rw[XaM he hs ht];exact h1};·rw[XaL he hs];exact Kp.refl z h
 ·have:A.element d s name l=((0,A.XA d),A):=by{simp[Ar.element,he]};rw[this];exact Kp.refl z h
theorem tx_data (n:Nd)(s:ByteArray):tx {n with data:=s}≤s.size:=by
 unfold tx
 dsimp only
 split<;>omega
theorem kp_setData {ρ:Int→Int}{A:Ar}(h:Lab ρ A)(x:Int){s:ByteArray}(hs:s.size≤400):Kp ρ x A (A.XG x s).2:=by
 unfold Ar.XG
 split
 ·exact Kp.refl x h
 ·rename_i hx;split;·{exact Kp.refl x h};·exact kp_mod h x (fun _=>rfl) (fun _=> .inl rfl) (fun n=> .inr ⟨at_has (Classical.not_not.1 hx).1,Nat.le_trans (tx_data n s) hs⟩)
theorem kp_setQuirks {ρ:Int→Int}{z:Int}{A:Ar}(h:Lab ρ A)(x:Int)(q:Bool):Kp ρ z A (A.YQ x q).2:=by
 unfold Ar.YQ
 repeat' split
 all_goals first|(exact Kp.refl z h)|exact kp_keep h x (fun _=>rfl) (fun _=>rfl) (fun _=>rfl)
theorem kp_setDoc {ρ:Int→Int}{z:Int}{A:Ar}(h:Lab ρ A)(x d:Int):Kp ρ z A (A.Xt x d).2:=by
 unfold Ar.Xt
 repeat' split
 all_goals first|(exact Kp.refl z h)|exact kp_keep h x (fun _=>rfl) (fun _=>rfl) (fun _=>rfl)
theorem kp_setAttrs {ρ:Int→Int}{z:Int}{A:Ar}(h:Lab ρ A)(x:Int)(l:List Xm):Kp ρ z A (A.X0 x l).2:=by
 unfold Ar.X0
 repeat' split
 all_goals first|(exact Kp.refl z h)|exact kp_keep h x (fun _=>rfl) (fun _=>rfl) (fun _=>rfl)
theorem kp_adoptF {ρ:Int→Int}{z:Int}:∀(n:Nat){A:Ar}(h:Lab ρ A)(x d:Int),Kp ρ z A (adoptF n A x d)
 |0,A,h,x,d=>kp_cut h x
 |n+1,A,h,x,d=>by{unfold adoptF;split;·{exact kp_cut h x};·refine Ze (P:=fun B:Ar=>Kp ρ z A B) (kp_cut h x) ?_;intro B y hy hB;unfold Yf;split;·{exact hB.trans (kp_setDoc hB.lab y d)};·have k1:=hB.trans (kp_setDoc hB.lab y d);have k2:=k1.trans (kp_inertOf k1.lab d);exact k2.trans (kp_adoptF n k2.lab _ _)}
theorem kp_empty {ρ:Int→Int}{z:Int}{A:Ar}(h:Lab ρ A)(p:Int):Kp ρ z A (A.empty p):=Ze (P:=fun B:Ar=>Kp ρ z A B) (Kp.refl z h) (fun B x hx hB=>hB.trans (kp_cut hB.lab x))
theorem lab_parent {ρ:Int→Int}{A:Ar}(h:Lab ρ A){x:Int}(hx:A.has x)(hp:(A.get x).Xd≠0):ρ (A.get x).Xd=ρ x:=by
 have:=(h (x.toNat-1) (A.get x) (Ar.get_some hx)).1 hp
 rwa[at_has hx.1]at this
theorem nodes_lab {ρ:Int→Int}{A:Ar}(hI:A.Inv)(h:Lab ρ A){n:Int}(hn:A.has n):∀x∈A.X7 n,ρ x=ρ n:=by
 intro x hx
 unfold Ar.X7 at hx
 split at hx
 ·obtain⟨h1,h2⟩:=hI.wf.Xc n hn x hx;have:=lab_parent h h1 (by rw[h2];intro e;rw[e]at hn;exact Za A hn);rw[h2]at this;exact this.symm
 ·rw[List.mem_singleton.1 hx]
theorem kp_insertAt {ρ:Int→Int}{z:Int}{A:Ar}(h:Lab ρ A)(p n c:Int)(he:∀x∈A.X7 n,ρ x=ρ p):Kp ρ z A (A.YD p n c):=Ze (P:=fun B:Ar=>Kp ρ z A B) (Kp.refl z h) (fun B x hx hB=>by have k1:=hB.trans (kp_adoptF B.ns.length hB.lab x (A.get p).doc);exact k1.trans (kp_put k1.lab c (fun _=>he x hx)))
end
section
/-- A call that XfU at most two trees, and makes or sets at most one text of at most 400 bytes. -/
def Quiet (A A' : Ar) : Prop := ∃ p nd g z : Int, (p = nd ∨ A.has p ∧ A.has nd ∧ z = 0) ∧ (A.has g ∨ A.ns.length = 0) ∧
  ∀ ρ : Int → Int, Lab ρ A → ρ p = ρ nd → NewL ρ A.ns.length → (∀ i : Nat, A.ns.length ≤ i → ρ ((i : Int) + 1) = ρ g) → Kp ρ z A A'
theorem has_one (A:Ar):A.has 1∨A.ns.length=0:=by
 unfold Ar.has Ar.n
 omega
theorem Quiet.plain {A A':Ar}(z:Int)(h:∀ρ:Int→Int,Lab ρ A→NewL ρ A.ns.length→Kp ρ z A A'):Quiet A A':=⟨0,0,1,z,.inl rfl,has_one A,fun ρ h1 _ h3 _=>h ρ h1 h3⟩
theorem Quiet.same (A:Ar):Quiet A A:= .plain 0 (fun ρ h _=>Kp.refl 0 h)
theorem Quiet.two {A A':Ar}{p n:Int}(hp:A.has p)(hn:A.has n)(h:∀ρ:Int→Int,Lab ρ A→ρ p=ρ n→Kp ρ 0 A A'):Quiet A A':=⟨p,n,1,0,.inr ⟨hp,hn,rfl⟩,has_one A,fun ρ h1 h2 _ _=>h ρ h1 h2⟩
theorem q_put {A:Ar}(p n c:Int):Quiet A (A.put p n c).2:=by
 by_cases h:A.has p∧A.has n
 ·exact .two h.1 h.2 (fun ρ h1 h2=>kp_put h1 c (fun _=>h2.symm))
 ·have:(A.put p n c).2=A:=by{unfold Ar.put;rw[if_pos];intro e;have:=Xem e;exact h ⟨this.1,this.2.1⟩};rw[this];exact .same A
theorem q_cut {A:Ar}(x:Int):Quiet A (A.cut x):= .plain 0 (fun ρ h _=>kp_cut h x)
theorem q_insertAt {A:Ar}(hI:A.Inv){p n:Int}(c:Int)(hp:A.has p)(hn:A.has n):Quiet A (A.YD p n c):= .two hp hn (fun ρ h1 h2=>kp_insertAt h1 p n c (fun x hx=>(nodes_lab hI h1 hn x hx).trans h2.symm))
theorem q_insertCall {A:Ar}(hI:A.Inv)(p n c:Int):Quiet A (A.XX p n c).2:=by
 unfold Ar.XX
 split
 ·exact .same A
 ·rename_i hv;have hv:=Classical.not_not.1 hv;unfold Ar.Y4 at hv;split at hv;·{rename_i h;exact q_insertAt hI _ h.1 h.2.1};·exact absurd hv (by decide)
theorem q_replaceCall {A:Ar}(hI:A.Inv)(p n c:Int):Quiet A (A.YU p n c).2:=by
 unfold Ar.YU
 split
 ·rename_i h;split;·{exact .same A};·refine .two h.1 h.2.1 (fun ρ h1 h2=>?_);have k:=kp_cut (z:=0) h1 c;exact k.trans (kp_insertAt k.lab p n _ (fun x hx=>(nodes_lab (Ar.XC.cut hI h.2.2) k.lab ((Ar.X5 _ _ _).2 h.2.1) x hx).trans h2.symm))
 ·exact .same A
theorem q_removeCall {A:Ar}(p c:Int):Quiet A (A.Zo p c).2:=by
 unfold Ar.Zo
 repeat' split
 all_goals first|(exact .same A)|exact q_cut c
theorem q_cutCall {A:Ar}(h:Int):Quiet A (A.XR h).2:=by
 unfold Ar.XR
 split
 ·exact q_cut h
 ·exact .same A
theorem q_replaceAllCall {A:Ar}(hI:A.Inv)(p n:Int):Quiet A (A.Yq p n).2:=by
 unfold Ar.Yq
 split
 ·rename_i h;split;·{exact .same A};·split;·{exact .same A};·dsimp only;split;·{rename_i hn;obtain⟨f1,f2,-,-⟩:=Xcg hI h.1;refine .two h.1 (h.2 hn) (fun ρ h1 h2=>?_);have k:=kp_empty (z:=0) h1 p;exact k.trans (kp_insertAt k.lab p n _ (fun x hx=>(nodes_lab f1 k.lab (by have:=h.2 hn;unfold Ar.has at this⊢;rw[f2];exact this) x hx).trans h2.symm))};·exact .plain 0 (fun ρ h1 _=>kp_empty h1 p)
 ·exact .same A
theorem q_adoptCall {A:Ar}(n d:Int):Quiet A (A.YV n d).2:=by
 unfold Ar.YV
 repeat' split
 all_goals first|(exact .same A)|exact .plain 0 (fun ρ h1 _=>kp_adoptF _ h1 _ _)
theorem q_element {A:Ar}(d s:Int)(name:ByteArray)(l:List Xm):Quiet A (A.element d s name l).2:= .plain 0 (fun ρ h1 h2=>kp_element h1 h2 (Nat.le_refl _) d s name l)
theorem q_createElement {A:Ar}(d:Int)(name:ByteArray):Quiet A (A.Y0 d name).2:=by
 unfold Ar.Y0
 repeat' split
 all_goals first|(exact .same A)|exact q_element _ _ _ _
theorem q_setAttrs {A:Ar}(x:Int)(l:List Xm):Quiet A (A.X0 x l).2:= .plain 0 (fun ρ h1 _=>kp_setAttrs h1 x l)
theorem q_setAttr {A:Ar}(el s:Int)(name val:ByteArray):Quiet A (A.YO el s name val).2:=by
 unfold Ar.YO
 repeat' split
 all_goals first|(exact .same A)|exact q_setAttrs _ _
theorem q_removeAttr {A:Ar}(el s:Int)(name:ByteArray):Quiet A (A.Yy el s name).2:=by
 unfold Ar.Yy
 repeat' split
 all_goals first|(exact .same A)|exact q_setAttrs _ _
theorem q_setData {A:Ar}(x:Int){s:ByteArray}(hs:s.size≤400):Quiet A (A.XG x s).2:= .plain x (fun ρ h1 _=>kp_setData h1 x hs)
theorem q_setText {A:Ar}(hI:A.Inv)(h:Int){s:ByteArray}(hs:s.size≤400):Quiet A (A.YE h s).2:=by
 unfold Ar.YE
 split
 ·exact .same A
 ·rename_i hh;have hh:=Classical.not_not.1 hh;split;·{exact q_setData h hs};·split;·{split;·{exact .plain 0 (fun ρ h1 _=>kp_empty h1 h)};·dsimp only;obtain⟨f1,f2,-,-⟩:=Xcg hI hh;refine⟨0,0,h,A.n+1,.inl rfl,.inl hh,fun ρ h1 _ _ h4=>?_⟩;have k:=kp_empty (z:=A.n+1) h1 h;have k2:=k.trans (kp_make (z:=A.n+1) k.lab ((A.empty h).get h).doc (n:=Xs s) rfl rfl (.inr ⟨by rw[f2],by show(if(5:Int)=5 then s.size else 0)≤400;rw[if_pos rfl];exact hs⟩));refine k2.trans (kp_put k2.lab 0 (fun hz=>?_));unfold Ar.make at hz⊢;split;·{rename_i he;rw[if_pos he]at hz;exact absurd hz (Za _)};·rw[f2];exact h4 A.ns.length (Nat.le_refl _)};·exact .same A
theorem q_step {A:Ar}{x:OpD}(hx:ZC x):Quiet A (A.step x).2:=by
 obtain⟨s1,s2,s3,-⟩:=hx
 have hm:∀(d:Int)(n:Nd),n.Xd=0→n.host=0→tx n=0→Quiet A (A.make d n).2:=fun d n h1 h2 h3=> .plain 0 (fun ρ h _=>kp_make h d h1 h2 (.inl h3))
 refine XbS (P:=fun r=>Quiet A r.2) ?_ ?_ ?_ ?_ ?_ ?_ ?_ ?_ ?_ ?_ ?_ ?_ ?_ ?_<;>intro _
 ·exact .plain 0 (fun ρ h _=>kp_document h _)
 ·exact hm _ _ rfl rfl rfl
 ·exact q_element _ _ _ _
 ·exact .plain (A.n+1) (fun ρ h _=>kp_make h _ rfl rfl (.inr ⟨rfl,by show(if(5:Int)=5 then x.s.size else 0)≤400;rw[if_pos rfl];exact s2⟩))
 ·exact hm _ _ rfl rfl rfl
 ·exact hm _ _ rfl rfl rfl
 ·exact .plain 0 (fun ρ h _=>kp_inertCall h _)
 ·exact q_put _ _ _
 ·exact q_cutCall _
 ·exact q_setData _ s2
 ·exact q_setAttrs _ _
 ·exact .plain 0 (fun ρ h _=>kp_setQuirks h _ _)
 ·exact .plain 0 (fun ρ h _=>kp_setDoc h _ _)
 ·exact .same A
theorem q_step5 {A:Ar}(hI:A.Inv){x:OpD}(hx:ZC x)(h31:x.Xa≠31)(h32:x.Xa≠32)(h34:x.Xa≠34)(h35:x.Xa≠35):Quiet A (A.Xo x).2:=by
 refine XcX (P:=fun r=>Quiet A r.2) ?_ ?_ ?_ ?_ ?_ ?_ ?_ ?_ ?_ ?_ ?_ ?_ ?_ ?_ ?_ ?_<;>intro hk
 ·exact q_insertCall hI _ _ _
 ·exact q_insertCall hI _ _ _
 ·exact q_replaceCall hI _ _ _
 ·exact q_removeCall _ _
 ·exact q_cutCall _
 ·exact q_replaceAllCall hI _ _
 ·exact q_adoptCall _ _
 ·exact q_createElement _ _
 ·exact q_setAttr _ _ _ _
 ·exact q_removeAttr _ _ _
 ·exact absurd hk h31
 ·exact absurd hk h32
 ·exact q_setText hI _ hx.2.1
 ·exact absurd hk h34
 ·exact absurd hk h35
 ·exact q_step hx
end
section
theorem Ty.OK.relab {ρ ρ':Int→Int}{t:Ty}(h:t.OK ρ)(he:∀x∈t.S,∀y∈t.S,ρ' x=ρ' y→ρ x=ρ y):t.OK ρ':=by
 refine⟨h.nd,?_,h.out,h.sum⟩
 have:(labs ρ t.S).length≤(labs ρ' t.S).length:=pigeonF (f:=fun z=>match t.S.find? (fun y=>decide (ρ' y=z))with|some y=>ρ y|none=>0) (labs_nodup _) (fun z hz=>by obtain⟨x,hx,e⟩:=List.mem_map.1 (labs_mem.1 hz);refine⟨ρ' x,labs_mem.2 (List.mem_map.2 ⟨x,hx,rfl⟩),?_⟩;cases hf:t.S.find? (fun y=>decide (ρ' y=ρ' x))with|none=>{have:=List.find?_eq_none.1 hf x hx;simp at this}|some y=>have h1:=List.find?_some hf;have h2:=List.mem_of_find?_eq_some hf;dsimp only;rw[←e];exact he y h2 x hx (by simpa using h1))
 have:=h.pend
 omega
/-- The bound of all types of a world, in thousandths of thousandths. -/
def U : Nat → Nat
  | 0 => 0
  | n + 1 => max (1273 * U n) (1000 * U n + 400 * 1000 ^ (n + 1))
def vT (n : Nat) (t : Ty) : Nat := 400 * 1273 ^ (t.q + t.e) * 1000 ^ (n - (t.q + t.e))
def Bd (n k : Nat) (T : List Ty) : Prop := (∀ t ∈ T, t.q + t.e ≤ n) ∧ (T.map (vT n)).sum ≤ k * U n
theorem Bd.nil (n k:Nat):Bd n k []:=⟨fun t h=>(by cases h),Nat.zero_le _⟩
theorem sum_mul {T:List Ty}{f g:Ty→Nat}{c:Nat}(h:∀t∈T,f t=c*g t):(T.map f).sum=c*(T.map g).sum:=by
 induction T with|nil=>{rfl}|cons t T ih=>rw[List.map_cons,List.map_cons,List.sum_cons,List.sum_cons,h t (by simp),ih (fun x hx=>h x (by simp[hx])),Nat.mul_add]
theorem vT_up {n:Nat}{t:Ty}(h:t.q+t.e≤n):vT (n+1) t=1000*vT n t:=by
 unfold vT
 rw[show n+1-(t.q+t.e)=n-(t.q+t.e)+1 by(omega),Nat.pow_succ]
 simp only[Nat.mul_comm,Nat.mul_left_comm,Nat.mul_assoc]
theorem vT_grow {n:Nat}{t t':Ty}(h:t.q+t.e≤n)(e:t'.q+t'.e=t.q+t.e+1):vT (n+1) t'=1273*vT n t:=by
 unfold vT
 rw[e,show n+1-(t.q+t.e+1)=n-(t.q+t.e)by(omega),Nat.pow_succ]
 simp only[Nat.mul_comm,Nat.mul_left_comm]
theorem Bd.up {n k:Nat}{T:List Ty}(h:Bd n k T):Bd (n+1) k T:=by
 refine⟨fun t ht=>Nat.le_succ_of_le (h.1 t ht),?_⟩
 rw[sum_mul (c:=1000) (g:=vT n) (fun t ht=>vT_up (h.1 t ht))]
 have h1:1000*U n≤U (n+1):=Nat.le_trans (Nat.le_add_right _ _) (Nat.le_max_right _ _)
 calc 1000*(T.map (vT n)).sum≤1000*(k*U n):=Nat.mul_le_mul_left _ h.2
  _=k*(1000*U n):=Nat.mul_left_comm _ _ _
  _≤k*U (n+1):=Nat.mul_le_mul_left _ h1
theorem Bd.mono {n k k':Nat}{T:List Ty}(h:Bd n k T)(hk:k≤k'):Bd n k' T:=⟨h.1,Nat.le_trans h.2 (Nat.mul_le_mul_right _ hk)⟩
theorem Bd.app {n k:Nat}{T T':List Ty}(h:Bd n k T)(h':Bd n k T'):Bd n (2*k) (T++T'):=by
 refine⟨fun t ht=>(List.mem_append.1 ht).elim (h.1 t) (h'.1 t),?_⟩
 rw[List.map_append,List.sum_append,Nat.mul_assoc]
 have:=h.2
 have:=h'.2
 omega
theorem Bd.new {n k:Nat}{T:List Ty}(h:Bd n k T)(hk:1≤k){t:Ty}(ht:t.q+t.e=0):Bd (n+1) k (t::T):=by
 refine⟨fun s hs=>?_,?_⟩
 ·rcases List.mem_cons.1 hs with e|e;·{rw[e,ht];exact Nat.zero_le _};·exact Nat.le_succ_of_le (h.1 s e)
 ·rw[List.map_cons,List.sum_cons,sum_mul (c:=1000) (g:=vT n) (fun s hs=>vT_up (h.1 s hs))];have h1:1000*U n+400*1000^(n+1)≤U (n+1):=Nat.le_max_right _ _;have h2:vT (n+1) t=400*1000^(n+1):=by{unfold vT;rw[ht];simp};rw[h2];calc 400*1000^(n+1)+1000*(T.map (vT n)).sum≤k*(400*1000^(n+1))+1000*(k*U n):=Nat.add_le_add (Nat.le_mul_of_pos_left _ hk) (Nat.mul_le_mul_left _ h.2)
  _=k*(1000*U n+400*1000^(n+1)):=by{rw[Nat.mul_add,Nat.add_comm,Nat.mul_left_comm 1000 k]}
  _≤k*U (n+1):=Nat.mul_le_mul_left _ h1
inductive Grew : List Ty → List Ty → Prop
  | nil : Grew [] []
  | cons {t t' : Ty} {T T' : List Ty} : t'.q + t'.e = t.q + t.e + 1 → Grew T T' → Grew (t :: T) (t' :: T')
theorem Bd.grow {n k:Nat}:∀{T T':List Ty},Grew T T'→(∀t∈T,t.q+t.e≤n)→(∀t∈T',t.q+t.e≤n+1)∧(T'.map (vT (n+1))).sum=1273*(T.map (vT n)).sum
 | [],_,h,_=>by{cases h;exact⟨fun t h=>(by cases h),rfl⟩}
 |t::T,_,h,hb=>by{cases h with|cons e h=>obtain⟨g1,g2⟩:=Bd.grow (n:=n) (k:=k) h (fun s hs=>hb s (by simp[hs]));refine⟨fun s hs=>?_,?_⟩;·{rcases List.mem_cons.1 hs with q|q;·{rw[q,e];have:=hb t (by simp);omega};·exact g1 s q};·rw[List.map_cons,List.map_cons,List.sum_cons,List.sum_cons,g2,vT_grow (hb t (by simp)) e,Nat.mul_add]}
theorem Bd.grown {n k:Nat}{T T':List Ty}(h:Bd n k T)(hf:Grew T T'):Bd (n+1) k T':=by
 obtain⟨g1,g2⟩:=Bd.grow (n:=n) (k:=k) hf h.1
 refine⟨g1,?_⟩
 rw[g2]
 have h1:1273*U n≤U (n+1):=Nat.le_max_left _ _
 calc 1273*(T.map (vT n)).sum≤1273*(k*U n):=Nat.mul_le_mul_left _ h.2
  _=k*(1273*U n):=Nat.mul_left_comm _ _ _
  _≤k*U (n+1):=Nat.mul_le_mul_left _ h1
/-- What the types of a world say of a text. -/
def mT (T : List Ty) (x : Int) : Nat := (T.map (fun t => t.m x)).sum
theorem mT_app (T T':List Ty)(x:Int):mT (T++T') x=mT T x+mT T' x:=by
 unfold mT
 simp
structure Cov (A : Ar) (ρ σ : Int → Int) (ω : Int) (T : List Ty) : Prop where
  ok : ∀ t ∈ T, t.OK ρ
  sup : ∀ t ∈ T, ∀ x ∈ t.S, A.has x ∧ σ x = ω
  cov : ∀ x, A.has x → σ x = ω → tx (A.get x) ≤ mT T x
/-- The state behind calls: n that may have let texts grow, c copies, u XfU of worlds. -/
def Wst (A : Ar) (n c u : Nat) : Prop := u ≤ c ∧ ∃ (ρ σ : Int → Int) (Ω : List Int), Lab ρ A ∧ (∀ x y, A.has x → A.has y → ρ x = ρ y → σ x = σ y) ∧ Ω ≠ [] ∧ Ω.length + u ≤ 1 + c ∧ (∀ x, A.has x → σ x ∈ Ω) ∧
  ∀ ω ∈ Ω, ∃ T, Bd n (2 ^ u) T ∧ Cov A ρ σ ω T
theorem hasI {A:Ar}{x:Int}(h:A.has x):∃i:Nat,i<A.ns.length∧x=(i:Int)+1∧A.ns[i]?=some (A.get x):=by
 have h1:=Ar.get_some h
 refine⟨x.toNat-1,(List.getElem?_eq_some_iff.1 h1).1,(at_has h.1).symm,h1⟩
theorem Ihas {A:Ar}{i:Nat}{n:Nd}(h:A.ns[i]?=some n):A.has ((i:Int)+1)∧A.get ((i:Int)+1)=n:=by
 have hl:=(List.getElem?_eq_some_iff.1 h).1
 have hh:A.has ((i:Int)+1):=⟨by omega,by unfold Ar.n;omega⟩
 have:=Ar.get_some hh
 rw[show((i:Int)+1).toNat-1=i by(omega),h]at this
 exact⟨hh,(Option.some.inj this).symm⟩
theorem Kp.has {ρ:Int→Int}{z:Int}{A A':Ar}(h:Kp ρ z A A'){x:Int}(hx:A.has x):A'.has x∧(tx (A'.get x)≤tx (A.get x)∨(x=z∧tx (A'.get x)≤400)):=by
 obtain⟨i,hi,e,hg⟩:=hasI hx
 obtain⟨n',e',q⟩:=h.old i _ hg
 have:=Ihas e'
 rw[←e]at this q
 exact⟨this.1,by rw[this.2];exact q⟩
theorem Kp.fresh {ρ:Int→Int}{z:Int}{A A':Ar}(h:Kp ρ z A A'){x:Int}(hx:A'.has x)(hn:¬A.has x):tx (A'.get x)=0∨(x=z∧tx (A'.get x)≤400):=by
 obtain⟨i,hi,e,hg⟩:=hasI hx
 have:=h.new i _ hg (by apply Classical.byContradiction;intro q;exact hn (by rw[e];exact⟨by omega,by unfold Ar.n;omega⟩))
 rw[←e]at this
 exact this
theorem lab_link {A:Ar}(hI:A.Inv){ρ ρ':Int→Int}(h:Lab ρ A)(he:∀x y,A.has x→A.has y→ρ x=ρ y→ρ' x=ρ' y):Lab ρ' A:=by
 intro i n hi
 obtain⟨h1,h2⟩:=Ihas hi
 have h3:=h i n hi
 refine⟨fun hz=>he _ _ ?_ h1 (h3.1 hz),fun hz=>he _ _ ?_ h1 (h3.2 hz)⟩
 ·rw[←h2]at hz⊢;exact(hI.wf.link _ h1 hz).1
 ·rw[←h2]at hz⊢;exact(hI.host _ h1 hz).2.1
theorem pow_one_le (u:Nat):1≤2^u:=Nat.one_le_two_pow
theorem two_mem {Ω:List Int}{a b:Int}(ha:a∈Ω)(hb:b∈Ω)(hab:a≠b):2≤Ω.length:=by
 have:=pigeon (L:= [a,b]) (M:=Ω) (by simp[hab]) (fun x hx=>by rcases List.mem_cons.1 hx with e|e;·{rw[e];exact ha};·rw[List.mem_singleton.1 e];exact hb)
 simpa using this
theorem map_fst (T:List Ty):Grew T (T.map (fun t=>Ty.mk t.m t.S (t.q+1) t.e)):=by
 induction T with|nil=>{exact .nil}|cons t T ih=>exact .cons (by show t.q+1+t.e=_;omega) ih
theorem mT_map (T:List Ty)(x:Int):mT (T.map (fun t=>Ty.mk t.m t.S (t.q+1) t.e)) x=mT T x:=by
 unfold mT
 rw[List.map_map]
 rfl
end
end Go.Proofs.YtpicinjcmjaogaaGreat
