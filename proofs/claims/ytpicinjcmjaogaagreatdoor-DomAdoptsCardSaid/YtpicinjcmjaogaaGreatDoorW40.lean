import Derived.Deep.QuietTactic
import Derived.BigQuiet
import Derived.Test.YtpicinjcmjaogaaGreatDoorW36
import Derived.Test.YtpicinjcmjaogaaGreatDoorW39
set_option maxRecDepth 100000
set_option maxHeartbeats 4000000
set_option linter.unusedVariables false
namespace Go.Proofs.YtpicinjcmjaogaaGreatDoor
section
/-- A node with short strings, but for the data of a text, and at most m attributes. -/
def slimNd (m : Nat) (n : Nd) : Prop := (n.name.size ≤ 400 ∧ n.pub.size ≤ 400 ∧ n.sys.size ≤ 400 ∧ (n.Xa ≠ 5 → n.data.size ≤ 400)) ∧ (n.Xb.length ≤ m ∧ ∀ a ∈ n.Xb, XcQ a)
def Ar.Slim (A : Ar) (m : Nat) : Prop := ∀ n ∈ A.ns, slimNd m n
theorem lower_size (s:ByteArray):(ZM s).size=s.size:=by
 have h:s.toList.length=s.size:=by rw[Go.ByteArray.toList_eq,Array.length_toList];rfl
 rw[←h]
 unfold ZM
 show Array.size _=_
 simp
theorem make_old {A:Ar}(d:Int)(n:Nd){x:Int}(h:A.has x):(A.make d n).2.get x=A.get x:=by
 unfold Ar.make
 split
 ·rfl
 ·exact Ar.Zb _ h
theorem zsz :ByteArray.empty.size≤400:=by
 decide
theorem slim_zero (m:Nat)(k:Int):slimNd m {XL with Xa:=k}:=⟨⟨zsz,zsz,zsz,fun _=>zsz⟩,Nat.zero_le _,fun a ha=>by cases ha⟩
theorem slim_zeroNd (m:Nat):slimNd m XL:=⟨⟨zsz,zsz,zsz,fun _=>zsz⟩,Nat.zero_le _,fun a ha=>by cases ha⟩
theorem Ar.Slim.get {A:Ar}{m:Nat}(h:A.Slim m)(x:Int):slimNd m (A.get x):=by
 unfold Ar.get
 cases e:A.ns[x.toNat-1]? with|none=>{exact slim_zeroNd m}|some n=>exact h n (List.mem_of_getElem? e)
theorem Ar.Slim.mono {A:Ar}{m k:Nat}(h:A.Slim m)(hk:m≤k):A.Slim k:=fun n hn=>⟨(h n hn).1,Nat.le_trans (h n hn).2.1 hk,(h n hn).2.2⟩
theorem slim_new (m:Nat):Ar.new.Slim m:=fun n hn=>by{simp[Ar.new]at hn}
theorem slim_add {A:Ar}{m:Nat}(h:A.Slim m){n:Nd}(hn:slimNd m n):(A.add n).Slim m:=by
 intro x hx
 rcases List.mem_append.1 hx with hx|hx
 ·exact h x hx
 ·simp at hx;subst hx;exact hn
theorem slim_mod {A:Ar}{m:Nat}(h:A.Slim m)(x:Int){f:Nd→Nd}(hf:∀n,slimNd m n→slimNd m (f n)):(A.mod x f).Slim m:=by
 intro n hn
 rcases XgI hn with hn|⟨y,hy,rfl⟩
 ·exact h n hn
 ·exact hf y (h y hy)
theorem slim_mod_at {A:Ar}{m:Nat}(h:A.Slim m)(x:Int){f:Nd→Nd}(hf:slimNd m (A.get x)→slimNd m (f (A.get x))):(A.mod x f).Slim m:=by
 intro n hn
 obtain⟨i,hi⟩:=List.mem_iff_getElem?.1 (show n∈A.ns.modify (x.toNat-1) f from hn)
 rw[List.getElem?_modify]at hi
 cases hq:A.ns[i]? with|none=>{rw[hq]at hi;simp at hi}|some q=>rw[hq]at hi;have hq':=h q (List.mem_of_getElem? hq);simp only[Option.map_eq_map,Option.map_some,Option.some.injEq]at hi;split at hi;·{rename_i e;have eg:A.get x=q:=by{unfold Ar.get;rw[e,hq];rfl};rw[←hi,←eg];exact hf (by rw[eg];exact hq')};·rw[←hi];exact hq'
theorem slim_cut {A:Ar}{m:Nat}(h:A.Slim m)(x:Int):(A.cut x).Slim m:=by
 unfold Ar.cut
 split
 ·exact h
 ·refine slim_mod (slim_mod h _ ?_) _ ?_<;>exact fun n hn=>hn
theorem slim_put {A:Ar}{m:Nat}(h:A.Slim m)(p x c:Int):(A.put p x c).2.Slim m:=by
 unfold Ar.put
 split
 ·exact h
 ·refine slim_mod (A:=(A.cut x).mod p _) (slim_mod (slim_cut h x) _ ?_) _ ?_<;>exact fun n hn=>hn
theorem slim_document {A:Ar}{m:Nat}(h:A.Slim m)(q:Bool):(A.Xn q).Slim m:=slim_add h (slim_zero m 1)
theorem slim_inertOf {A:Ar}{m:Nat}(h:A.Slim m)(d:Int):(A.Xq d).2.Slim m:=by
 unfold Ar.Xq
 split
 ·exact h
 ·exact slim_document h false
theorem slim_inertCall {A:Ar}{m:Nat}(h:A.Slim m)(d:Int):(A.YA d).2.Slim m:=by
 unfold Ar.YA
 split
 ·exact h
 ·exact slim_inertOf h d
theorem slim_make {A:Ar}{m:Nat}(h:A.Slim m)(d:Int){n:Nd}(hn:slimNd m n):(A.make d n).2.Slim m:=by
 unfold Ar.make
 split
 ·exact h
 ·exact slim_add h hn
theorem slim_element {A:Ar}{m:Nat}(h:A.Slim m)(d s:Int)(name:ByteArray){l:List Xm}(hn:name.size≤400)(hl:l.length≤m∧∀a∈l,XcQ a):(A.element d s name l).2.Slim m:=by
 have h1:(A.add (XJ d s name l)).Slim m:=slim_add h ⟨⟨hn,zsz,zsz,fun _=>zsz⟩,Nat.le_trans (Xcz l) hl.1,fun a ha=>hl.2 a (Xf9 ha)⟩
 by_cases he:A.XA d=0
 ·by_cases hs:XS s∧Ys l;·{by_cases ht:XN (XJ d s name l);·{rw[XaN he hs ht];exact slim_mod (slim_add (slim_inertOf h1 d) (show slimNd m _ from⟨⟨zsz,zsz,zsz,fun _=>zsz⟩,Nat.zero_le _,fun a ha=>by cases ha⟩)) _ (fun n hn=>hn)};·rw[XaM he hs ht];exact h1};·rw[XaL he hs];exact h
 ·have:A.element d s name l=((0,A.XA d),A):=by{simp[Ar.element,he]};rw[this];exact h
theorem slim_setData {A:Ar}{m:Nat}(h:A.Slim m)(x:Int){s:ByteArray}(hs:s.size≤400):(A.XG x s).2.Slim m:=by
 unfold Ar.XG
 repeat' split
 all_goals first|(exact h)|exact slim_mod h _ (fun n hn=>⟨⟨hn.1.1,hn.1.2.1,hn.1.2.2.1,fun _=>hs⟩,hn.2⟩)
theorem slim_setData5 {A:Ar}{m:Nat}(h:A.Slim m)(x:Int)(s:ByteArray)(hk:(A.get x).Xa=5):(A.XG x s).2.Slim m:=by
 unfold Ar.XG
 repeat' split
 all_goals first|(exact h)|exact slim_mod_at h _ (fun hn=>⟨⟨hn.1.1,hn.1.2.1,hn.1.2.2.1,fun z=>absurd hk z⟩,hn.2⟩)
theorem slim_setQuirks {A:Ar}{m:Nat}(h:A.Slim m)(x:Int)(q:Bool):(A.YQ x q).2.Slim m:=by
 unfold Ar.YQ
 repeat' split
 all_goals first|(exact h)|exact slim_mod h _ (fun n hn=>hn)
theorem slim_setDoc {A:Ar}{m:Nat}(h:A.Slim m)(x d:Int):(A.Xt x d).2.Slim m:=by
 unfold Ar.Xt
 repeat' split
 all_goals first|(exact h)|exact slim_mod h _ (fun n hn=>hn)
theorem slim_setAttrs {A:Ar}{m:Nat}(h:A.Slim m)(x:Int){l:List Xm}(hl:l.length≤m∧∀a∈l,XcQ a):(A.X0 x l).2.Slim m:=by
 unfold Ar.X0
 repeat' split
 all_goals first|(exact h)|exact slim_mod h _ (fun n hn=>⟨hn.1,Nat.le_trans (Xcz l) hl.1,fun a ha=>hl.2 a (Xf9 ha)⟩)
theorem slim_adoptF {m:Nat}:∀(n:Nat){A:Ar}(h d:Int),A.Slim m→(adoptF n A h d).Slim m
 |0,A,h,d,ht=>slim_cut ht h
 |n+1,A,h,d,ht=>by{unfold adoptF;split;·{exact slim_cut ht h};·refine Ze (P:=fun B:Ar=>B.Slim m) (slim_cut ht h) (fun B x hx hB=>?_);unfold Yf;split;·{exact slim_setDoc hB x d};·exact slim_adoptF n _ _ (slim_inertOf (slim_setDoc hB x d) d)}
theorem slim_insertAt {A:Ar}{m:Nat}(h:A.Slim m)(p n c:Int):(A.YD p n c).Slim m:=Ze (P:=fun B:Ar=>B.Slim m) h (fun B x hx hB=>slim_put (slim_adoptF _ _ _ hB) _ _ _)
theorem slim_empty {A:Ar}{m:Nat}(h:A.Slim m)(p:Int):(A.empty p).Slim m:=Ze (P:=fun B:Ar=>B.Slim m) h (fun B x hx hB=>slim_cut hB x)
theorem slim_alone {A:Ar}{m:Nat}(h:A.Slim m)(d:Int){n:Nd}(hn:slimNd m n):(A.Xj d n).2.Slim m:=by
 unfold Ar.Xj
 have hz:([]:List Xm).length≤m∧∀a∈([]:List Xm),XcQ a:=⟨Nat.zero_le _,fun a ha=>by cases ha⟩
 split
 ·exact slim_document h _
 split
 ·exact slim_make h d (slim_zero m 2)
 split
 ·exact slim_make h d ⟨⟨hn.1.1,hn.1.2.1,hn.1.2.2.1,fun _=>zsz⟩,hz⟩
 split
 ·exact slim_element h d _ _ hn.1.1 hn.2
 split
 ·exact slim_make h d ⟨⟨zsz,zsz,zsz,fun z=>absurd rfl z⟩,hz⟩
 split
 ·rename_i e5 e6;exact slim_make h d ⟨⟨zsz,zsz,zsz,fun _=>hn.1.2.2.2 e5⟩,hz⟩
 ·exact h
theorem slim_dupF {C:Ar}{m:Nat}(hC:C.Slim m):∀(k:Nat)(deep:Bool){A:Ar}(d h:Int),A.Slim m→(dupF C deep k A d h).2.Slim m
 |0,deep,A,d,h,ht=>ht
 |k+1,deep,A,d,h,ht=>by{have h1:=slim_alone ht d (hC.get h);have step:∀(l:List Int)(d' c:Int)(B:Ar),B.Slim m→(l.foldl (XP (fun B k'=>dupF C true k B d' k') c) B).Slim m:=fun l d' c B hB=>Ze (P:=fun B:Ar=>B.Slim m) hB (fun B x hx hB=>slim_put (slim_dupF hC k true d' x hB) _ _ _);have hmid:∀(P:Prop) [Decidable P](l:List Int)(d' c:Int),(if P then l.foldl (XP (fun B k'=>dupF C true k B d' k') c) ((A.Xj d (C.get h)).2.YA d).2 else(A.Xj d (C.get h)).2).Slim m:=by{intro P _ l d' c;split;·{exact step _ _ _ _ (slim_inertCall h1 d)};·exact h1};unfold dupF;dsimp only;split;·{exact step _ _ _ _ (hmid _ _ _ _)};·exact hmid _ _ _ _}
theorem mod_kind (A:Ar)(x y:Int){f:Nd→Nd}(hf:∀n,(f n).Xa=n.Xa):((A.mod x f).get y).Xa=(A.get y).Xa:=by
 unfold Ar.get
 show(((A.ns.modify (x.toNat-1) f)[y.toNat-1]?).getD XL).Xa=_
 rw[List.getElem?_modify]
 cases A.ns[y.toNat-1]? with|none=>{rfl}|some n=>show(Option.getD (some (if x.toNat-1=y.toNat-1 then f n else n)) XL).Xa=n.Xa;split;·{exact hf n};·rfl
theorem cut_kind5 (A:Ar)(x y:Int):((A.cut x).get y).Xa=(A.get y).Xa:=by
 unfold Ar.cut
 split
 ·rfl
 ·rw[mod_kind _ _ _ (fun n=>by rfl),mod_kind _ _ _ (fun n=>by rfl)]
theorem slim_join {A:Ar}{m:Nat}(h:A.Slim m)(x:Int):(A.join x).Slim m:=by
 have fl:∀s:X8,s.ar.Slim m∧(s.first≠0→(s.ar.get s.first).Xa=5)→s.flush.ar.Slim m:=fun s hs=>by unfold X8.flush;dsimp only;split;·{rename_i q;exact slim_setData5 hs.1 _ _ (hs.2 q)};·exact hs.1
 refine fl _ (Ze (P:=fun s:X8=>s.ar.Slim m∧(s.first≠0→(s.ar.get s.first).Xa=5)) ⟨h,fun q=>absurd rfl q⟩ (fun s k hk hs=>?_))
 unfold X8.step
 split
 ·exact⟨fl s hs,fun q=>absurd rfl q⟩
 ·rename_i q5;split;·{exact⟨hs.1,fun _=>Classical.not_not.1 q5⟩};·exact⟨slim_cut hs.1 k,fun q=>(cut_kind5 _ _ _).trans (hs.2 q)⟩
theorem slim_attrsWith {A:Ar}{m:Nat}(h:A.Slim m)(el s:Int){name val:ByteArray}(hn:name.size≤400)(hv:val.size≤400):(A.JP el s name val).length≤m+1∧∀a∈A.JP el s name val,XcQ a:=by
 have hg:=(h.get el).2
 have hnm:(A.Zh el s name).size≤400:=by unfold Ar.Zh;split;·{rw[lower_size];exact hn};·exact hn
 unfold Ar.JP
 split
 ·refine⟨by have:=hg.1;simp;omega,fun a ha=>?_⟩;rcases List.mem_append.1 ha with ha|ha;·{exact hg.2 a ha};·rw[List.mem_singleton.1 ha];exact⟨hnm,hv⟩
 ·refine⟨by have:=hg.1;rw[Xkn];omega,fun a ha=>?_⟩;rcases XgI ha with ha|⟨y,hy,rfl⟩;·{exact hg.2 a ha};·exact⟨(hg.2 y hy).1,hv⟩
theorem slim_step {A:Ar}{m:Nat}(h:A.Slim m)(x:OpD)(hm:20≤m)(hx:ZC x):(A.step x).2.Slim m:=by
 obtain⟨q1,q2,q3,q4⟩:=hx
 have hat:x.Xb.length≤m∧∀a∈x.Xb,XcQ a:=⟨Nat.le_trans q4.1 hm,q4.2⟩
 have hz:([]:List Xm).length≤m∧∀a∈([]:List Xm),XcQ a:=⟨Nat.zero_le _,fun a ha=>by cases ha⟩
 refine XbS (P:=fun r=>r.2.Slim m) ?_ ?_ ?_ ?_ ?_ ?_ ?_ ?_ ?_ ?_ ?_ ?_ ?_ ?_<;>intro _
 ·exact slim_document h _
 ·exact slim_make h _ ⟨⟨q1,q2,q3,fun _=>zsz⟩,hz⟩
 ·exact slim_element h _ _ _ q1 hat
 ·exact slim_make h _ ⟨⟨zsz,zsz,zsz,fun _=>q2⟩,hz⟩
 ·exact slim_make h _ ⟨⟨zsz,zsz,zsz,fun _=>q2⟩,hz⟩
 ·exact slim_make h _ (slim_zero m 2)
 ·exact slim_inertCall h _
 ·exact slim_put h _ _ _
 ·dsimp only;unfold Ar.XR;split;·{exact slim_cut h _};·exact h
 ·exact slim_setData h _ q2
 ·exact slim_setAttrs h _ hat
 ·exact slim_setQuirks h _ _
 ·exact slim_setDoc h _ _
 ·exact h
theorem slim_step5 {A:Ar}{m:Nat}(h:A.Slim m)(x:OpD)(hm:20≤m)(hx:ZC x):(A.Xo x).2.Slim (m+1):=by
 have h':=h.mono (Nat.le_succ m)
 obtain⟨q1,q2,q3,q4⟩:=id hx
 have hz:∀k:Nat,([]:List Xm).length≤k∧∀a∈([]:List Xm),XcQ a:=fun k=>⟨Nat.zero_le _,fun a ha=>by cases ha⟩
 refine XcX (P:=fun r=>r.2.Slim (m+1)) ?_ ?_ ?_ ?_ ?_ ?_ ?_ ?_ ?_ ?_ ?_ ?_ ?_ ?_ ?_ ?_<;>intro _
 ·dsimp only;unfold Ar.XX;split;·{exact h'};·exact(slim_insertAt h _ _ _).mono (Nat.le_succ m)
 ·dsimp only;unfold Ar.XX;split;·{exact h'};·exact(slim_insertAt h _ _ _).mono (Nat.le_succ m)
 ·dsimp only;unfold Ar.YU;split;·{split;·{exact h'};·exact(slim_insertAt (slim_cut h _) _ _ _).mono (Nat.le_succ m)};·exact h'
 ·dsimp only;unfold Ar.Zo;split;·{split;·{exact h'};·exact(slim_cut h _).mono (Nat.le_succ m)};·exact h'
 ·dsimp only;unfold Ar.XR;split;·{exact(slim_cut h _).mono (Nat.le_succ m)};·exact h'
 ·dsimp only;unfold Ar.Yq;split;·{split;·{exact h'};·split;·{exact h'};·dsimp only;split;·{exact(slim_insertAt (slim_empty h _) _ _ _).mono (Nat.le_succ m)};·exact(slim_empty h _).mono (Nat.le_succ m)};·exact h'
 ·dsimp only;unfold Ar.YV;split;·{split;·{exact h'};·exact(slim_adoptF _ _ _ h).mono (Nat.le_succ m)};·exact h'
 ·unfold Ar.Y0;split;·{exact h'};·split;·{exact h'};·exact(slim_element h _ _ _ (by rw[lower_size];exact q1) (hz m)).mono (Nat.le_succ m)
 ·dsimp only;unfold Ar.YO;split;·{exact h'};·split;·{exact h'};·exact slim_setAttrs h' _ (slim_attrsWith h _ _ q1 q2)
 ·dsimp only;unfold Ar.Yy;split;·{exact h'};·split;·{exact h'};·exact slim_setAttrs h' _ ⟨Nat.le_trans (List.length_eraseIdx_le _ _) (Nat.le_trans (h.get _).2.1 (Nat.le_succ m)),fun a ha=>(h.get _).2.2 a ((List.eraseIdx_subset ha))⟩
 ·unfold Ar.Zx;split;·{exact(slim_dupF h _ _ _ _ h).mono (Nat.le_succ m)};·exact h'
 ·unfold Ar.Zp;split;·{split;·{exact h'};·exact(slim_dupF h _ _ _ _ h).mono (Nat.le_succ m)};·exact h'
 ·dsimp only;unfold Ar.YE;split;·{exact h'};·split;·{exact slim_setData h' _ q2};·split;·{split;·{exact(slim_empty h _).mono (Nat.le_succ m)};·exact(slim_put (slim_make (slim_empty h _) _ ⟨⟨zsz,zsz,zsz,fun z=>absurd rfl z⟩,hz m⟩) _ _ _).mono (Nat.le_succ m)};·exact h'
 ·dsimp only;unfold Ar.normalize;split;·{exact(Ze (P:=fun B:Ar=>B.Slim m) (slim_join h _) (fun B y hy hB=>slim_join hB y)).mono (Nat.le_succ m)};·exact h'
 ·unfold Ar.split;split;·{exact h'};·split;·{exact h'};·split;·{exact h'};·rename_i w1 w2 w3;have e5:((A.make (A.get x.a).doc (Xs ⟨((A.get x.a).data.toList.drop x.b.toNat).toArray⟩)).2.get x.a).Xa=5:=by{rw[make_old _ _ (Classical.not_not.1 w1)];exact Classical.not_not.1 w2};have hB:=slim_setData5 (slim_make h' (A.get x.a).doc (n:=Xs ⟨((A.get x.a).data.toList.drop x.b.toNat).toArray⟩) ⟨⟨zsz,zsz,zsz,fun z=>absurd rfl z⟩,hz _⟩) x.a ⟨((A.get x.a).data.toList.take x.b.toNat).toArray⟩ e5;dsimp only;split;·{exact slim_put hB _ _ _};·exact hB
 ·exact(slim_step h x hm hx).mono (Nat.le_succ m)
end
section
theorem step_st {A:Ar}(hI:A.Inv)(hT:A.XB 900){x:OpD}(hx:ZC x){n c u:Nat}(hW:Wst A n c u):∃n' u',Wst (A.Xo x).2 n' (c+(if Ji x=true then 1 else 0)) u'∧n'+(c+(if Ji x=true then 1 else 0))+u'≤n+c+u+1:=by
 have hB:=(Xfk hI hT x hx.2.2.2.1).1
 by_cases h31:x.Xa=31
 ·have hc:Ji x=true:=decide_eq_true (.inl h31);have e:(A.Xo x).2=(A.Zx x.a x.Xe).2:=by{simp[Ar.Xo,h31]};rw[if_pos hc];rw[e]at hB⊢;exact⟨n,u,clone_st hI _ _ hB hW,by omega⟩
 by_cases h32:x.Xa=32
 ·have hc:Ji x=true:=decide_eq_true (.inr h32);have e:(A.Xo x).2=(A.Zp A x.a x.b).2:=by{simp[Ar.Xo,h32]};rw[if_pos hc];rw[e]at hB⊢;exact⟨n,u,import_st hI _ _ hB hW,by omega⟩
 have hc:¬Ji x=true:=by unfold Ji;simp[h31,h32]
 rw[if_neg hc,Nat.add_zero]
 by_cases h34:x.Xa=34
 ·have e:(A.Xo x).2=(A.normalize x.a).2:=by{simp[Ar.Xo,h34]};rw[e];obtain⟨dn,hN⟩:=normT_call hI x.a;exact⟨n+1,u,norm_st hI hW hN,by omega⟩
 by_cases h35:x.Xa=35
 ·have e:(A.Xo x).2=(A.split x.a x.b).2:=by{simp[Ar.Xo,h35]};rw[e];exact⟨n+1,u,split_st hI _ _ hW,by omega⟩
 rcases quiet_st hI hW (q_step5 hI hx h31 h32 h34 h35)with q|q
 ·exact⟨n+1,u,q,by omega⟩
 ·exact⟨n,u+1,q,by omega⟩
theorem fold_st :∀(l:List OpD){A:Ar}{t n c u:Nat},A.Inv→A.XB t→20≤t→t+l.length≤900→(∀x∈l,ZC x)→Wst A n c u→∃n' u',Wst (l.foldl (fun A x=>(A.Xo x).2) A) n' (c+cpN l) u'∧n'+(c+cpN l)+u'≤n+c+u+l.length
 | [],A,t,n,c,u,_,_,_,_,_,hW=>⟨n,u,hW,Nat.le_refl _⟩
 |x::l,A,t,n,c,u,hI,hT,ht,hl,hx,hW=>by{have hxs:=hx x (by simp);simp only[List.length_cons]at hl;obtain⟨n1,u1,w1,b1⟩:=step_st hI (hT.mono (by omega)) hxs hW;have f1:=(Xfk hI (hT.mono (by omega)) x hxs.2.2.2.1).1;have f3:=XeG hT x (Nat.le_trans hxs.2.2.2.1 ht);obtain⟨n2,u2,w2,b2⟩:=fold_st l f1 f3 (by omega) (by omega) (fun y hy=>hx y (by simp[hy])) w1;rw[List.foldl_cons,Xfz,List.length_cons];refine⟨n2,u2,?_,by omega⟩;rw[show c+(cpN l+if Ji x=true then 1 else 0)=c+(if Ji x=true then 1 else 0)+cpN l by(omega)];exact w2}
theorem wst_raise {A:Ar}{n c u:Nat}(h:Wst A n c u):∀d,Wst A (n+d) c u
 |0=>h
 |d+1=>wst_up (wst_raise h d)
theorem tree_bound {A:Ar}(hI:A.Inv){n c u:Nat}(hW:Wst A n c u){h:Int}(hh:A.has h){Z:List Int}(hZ:Z.Nodup)(hZh:∀x∈Z,x∈A.Xi h):sumM (fun x=>tx (A.get x)) Z*1000^(n+1)≤1273*(2^u*U n):=by
 obtain⟨huc,ρ,σ,Ω,hL,hsub,hne,hlen,hall,hcov⟩:=hW
 obtain⟨T,hB,hC⟩:=hcov (σ h) (hall h hh)
 have hρ:∀x∈Z,ρ x=ρ h:=fun x hx=>lab_walk hI hL h hh x (hZh x hx)
 have hhas:∀x∈Z,A.has x:=fun x hx=>((Jr hI h hh x).1 (hZh x hx)).1
 have h1:sumM (fun x=>tx (A.get x)) Z≤sumM (mT T) Z:=sumM_le (fun x hx=>hC.cov x (hhas x hx) (hsub _ _ (hhas x hx) hh (hρ x hx)))
 rw[mT_sum]at h1
 have h2:∀t∈T,sumM t.m Z*1000^(n+1)≤1273*vT n t:=fun t ht=>by have e1:=(hC.ok t ht).tree (ρ h) hZ hρ;have e2:=hB.1 t ht;unfold vT;have e3:1000^(n+1)=1000^(t.q+t.e+1)*1000^(n-(t.q+t.e)):=by{rw[←Nat.pow_add];congr 1;omega};rw[e3,←Nat.mul_assoc];calc _≤400*1273^(t.q+t.e+1)*1000^(n-(t.q+t.e)):=Nat.mul_le_mul_right _ e1
  _=1273*(400*1273^(t.q+t.e)*1000^(n-(t.q+t.e))):=by{rw[Nat.pow_succ];simp only[Nat.mul_comm,Nat.mul_left_comm]}
 have h3:∀T:List Ty,(∀t∈T,sumM t.m Z*1000^(n+1)≤1273*vT n t)→(T.map (fun t=>sumM t.m Z)).sum*1000^(n+1)≤1273*(T.map (vT n)).sum:=by intro T;induction T with|nil=>{intro _;simp}|cons t T ih=>intro h;rw[List.map_cons,List.map_cons,List.sum_cons,List.sum_cons,Nat.add_mul,Nat.mul_add];exact Nat.add_le_add (h t (by simp)) (ih (fun s hs=>h s (by simp[hs])))
 calc _≤(T.map (fun t=>sumM t.m Z)).sum*1000^(n+1):=Nat.mul_le_mul_right _ h1
  _≤1273*(T.map (vT n)).sum:=h3 T h2
  _≤1273*(2^u*U n):=Nat.mul_le_mul_left _ hB.2
end
section
theorem U_bound99 :∀u:Nat,u<9→1273*(2^u*U (99-2*u))≤100000000000000*1000^(100-2*u):=by
 decide+kernel
theorem tx_mass {A:Ar}{x:Int}(hx:A.has x):tx (A.get x)≤A.Xk:=by
 rw[Xce]
 have:=Xax (f:=fun x=>tx (A.get x)) (l:= [x]) (H:=A.hs) (by simp) (fun y hy=>by rw[List.mem_singleton.1 hy];exact ZW.2 hx)
 simpa using this
theorem run5_tree99 {l:List OpD}(hl:l.length≤100)(hx:∀x∈l,ZC x)(hc:cpN l≤8){h:Int}(hh:(Zj l).has h){Z:List Int}(hZ:Z.Nodup)(hZh:∀x∈Z,x∈(Zj l).Xi h):sumM (fun x=>tx ((Zj l).get x)) Z≤100000000000000:=by
 have hI:=(Xnn hl hx hc).1
 cases l with|nil=>{exact absurd hh (Xa3 h)}|cons x l=>have h1:=Xna (hx x (by simp));have f1:=(Xfk Xen (XcY 900) x (hx x (by simp)).2.2.2.1).1;have f3:=XeG (XcY 20) x (hx x (by simp)).2.2.2.1;have h0:Wst (Ar.new.Xo x).2 0 0 0:=⟨Nat.le_refl _,fun _=>0,fun _=>0,[0],lab_const _,fun _ _ _ _ _=>rfl,by simp,by simp,fun x hx=>by simp,fun ω _=>⟨[],Bd.nil _ _,⟨fun t h=>(by cases h),fun t h=>(by cases h),fun y hy _=>Nat.le_trans (tx_mass hy) (Nat.le_of_eq h1)⟩⟩⟩;simp only[List.length_cons]at hl;obtain⟨n,u,hW,hb⟩:=fold_st l f1 f3 (by omega) (by omega) (fun y hy=>hx y (by simp[hy])) h0;rw[Xfz]at hc;have huc:=hW.1;have hW2:=wst_raise hW (99-2*u-n);have hcl:cpN l≤8:=by{split at hc<;>omega};rw[show n+(99-2*u-n)=99-2*u by(omega)]at hW2;have h2:=tree_bound hI (A:=Zj (x::l)) hW2 hh hZ hZh;have h3:=U_bound99 u (by omega);rw[show 99-2*u+1=100-2*u by(omega)]at h2;exact Nat.le_of_mul_le_mul_right (Nat.le_trans h2 h3) (Nat.pow_pos (by decide))
end
section
def OpD.proper (x : OpD) : Prop := ¬ (8 ≤ x.Xa ∧ x.Xa ≤ 13)
theorem p5_new :P5 Ar.new:=by
 have no:∀x,¬Ar.new.has x:=fun x h=>by have h1:=h.1;have h2:=h.2;unfold Ar.n Ar.new at h2;simp at h2;omega
 exact⟨⟨fun p hp=>absurd hp (no p),fun p hp=>absurd hp (no p)⟩,fun p hp=>absurd hp (no p)⟩
theorem p5_step {A:Ar}(hI:A.Inv)(hP:P5 A){x:OpD}(hx:x.proper)(hl:x.Xb.length≤1000):P5 (A.Xo x).2:=by
 unfold OpD.proper at hx
 refine XcX (P:=fun r=>P5 r.2) (fun _=>p5_insert hI hP) (fun _=>p5_insert hI hP) (fun _=>p5_replace hI hP) (fun _=>p5_remove hI hP _ _) (fun _=>p5_cutCall hI hP _) (fun _=>p5_replaceAll hI hP _ _) (fun _=>p5_adoptCall hI hP _ _) (fun _=>p5_createElement hI hP _ _) (fun _=>p5_setAttr hI hP _ _ _ _) (fun _=>p5_removeAttr hI hP _ _ _) (fun _=>p5_clone hI hP _ _) (fun _=>p5_import hI hP _ _) (fun _=>p5_setText hI hP _ _) (fun _=>p5_normalize hI hP _) (fun _=>p5_split hI hP _ _) (fun _=>?_)
 exact XbS (P:=fun r=>P5 r.2) (fun _=>p5_document hI hP _) (fun _=>p5_make hI hP rfl rfl) (fun _=>p5_element hI hP hl) (fun _=>p5_make hI hP rfl rfl) (fun _=>p5_make hI hP rfl rfl) (fun _=>p5_make hI hP rfl rfl) (fun _=>p5_inertCall hI hP _) (fun e=>absurd ⟨by omega,by omega⟩ hx) (fun e=>absurd ⟨by omega,by omega⟩ hx) (fun e=>absurd ⟨by omega,by omega⟩ hx) (fun e=>absurd ⟨by omega,by omega⟩ hx) (fun e=>absurd ⟨by omega,by omega⟩ hx) (fun e=>absurd ⟨by omega,by omega⟩ hx) (fun _=>hP)
theorem p5_run {l:List OpD}{m:Int}(hs:Jj l m)(hm:m≤100)(hp:∀x∈l,x.proper):∀k,k≤l.length→P5 (Zj (l.take k))
 |0,_=>by{rw[List.take_zero];exact p5_new}
 |k+1,hk=>by{obtain⟨x,hx⟩:∃x,l[k]?=some x:=⟨_,List.getElem?_eq_getElem (by omega)⟩;rw[Xnp hx];have hm2:=List.mem_of_getElem? hx;exact p5_step (XfA hs hm (show k≤l.length by omega)).1 (p5_run hs hm hp k (by omega)) (hp x hm2) (by have:=((Xir hs hm).2.1 x hm2).2.2.2.1;omega)}
end
section
theorem str_len' (s:ByteArray):s.toList.length=s.size:=by
 rw[Go.ByteArray.toList_eq,Array.length_toList]
 rfl
theorem quote_le (s:ByteArray):(quoteS s).length≤2*s.size+2:=by
 have h1:=quoteL_len s.toList
 have h2:=str_len' s
 unfold quoteS
 omega
theorem digits_le {n:Nat}(h:n<100):(Lib.decDigits n).length≤2:=by
 have:∀n:Fin 100,(Lib.decDigits n.1).length≤2:=by decide+kernel
 exact this ⟨n,h⟩
theorem attr_le {x:Xm}(h:XcQ x)(hs:0≤x.1∧x.1<100):(attrL x).length≤1700:=by
 have h1:=quote_le x.2.1
 have h2:=quote_le x.2.2
 have h3:=digits_le (n:=x.1.toNat) (by omega)
 have h4:=h.1
 have h5:=h.2
 unfold attrL
 simp only[List.length_append,List.length_cons,List.length_nil]
 omega
theorem attrs_le :∀l:List Xm,(∀a∈l,XcQ a)→(∀a∈l,0≤a.1∧a.1<100)→(attrsL l).length≤l.length*1700
 | [],_,_=>by{simp[attrsL]}
 |a::l,h,hs=>by{have h1:=attr_le (h a (by simp)) (hs a (by simp));have h2:=attrs_le l (fun x hx=>h x (by simp[hx])) (fun x hx=>hs x (by simp[hx]));unfold attrsL at*;simp only[List.flatMap_cons,List.length_append,List.length_cons,Nat.add_mul];omega}
theorem line_le {m:Nat}{n:Nd}(h:slimNd m n)(hs:0≤n.space∧n.space<100)(ha:∀a∈n.Xb,0≤a.1∧a.1<100):(lineL n).length≤2*tx n+(m*1700+4000):=by
 obtain⟨⟨q1,q2,q3,q4⟩,q5,q6⟩:=h
 have r1:=quote_le n.name
 have r2:=quote_le n.data
 have r3:=quote_le n.pub
 have r4:=quote_le n.sys
 have r5:=attrs_le n.Xb q6 ha
 have r6:=digits_le (n:=n.space.toNat) (by omega)
 have r7:n.Xb.length*1700≤m*1700:=Nat.mul_le_mul_right _ q5
 unfold lineL elemL tx
 by_cases k5:n.Xa=5
 ·rw[k5];simp only[Int.reduceEq,if_false,if_true,List.length_append,List.length_cons,List.length_nil];omega
 ·have r8:=q4 k5;rw[if_neg k5,if_neg k5];(repeat' split);all_goals(simp only[List.length_append,List.length_cons,List.length_nil];omega)
theorem flat_bound2 {f:Int→List UInt8}{g:Int→List Int}{t:Int→Nat}{m:Nat}:∀(l:List Int),(∀k∈l,(f k).length≤2*sumM t (g k)+(g k).length*m)→(l.flatMap f).length≤2*sumM t (l.flatMap g)+(l.flatMap g).length*m
 | [],_=>by{simp}
 |k::l,h=>by{have h1:=h k (by simp);have h2:=flat_bound2 l (fun x hx=>h x (by simp[hx]));simp only[List.flatMap_cons,List.length_append,Nat.add_mul,sumM_app];omega}
theorem dump_le {A:Ar}(hI:A.Inv){M:Nat}(hM:∀x,A.has x→(lineL (A.get x)).length≤2*tx (A.get x)+M):∀h,A.has h→∀d,(A.dump h d).length≤2*sumM (fun x=>tx (A.get x)) (A.Xi h)+(A.Xi h).length*(2*(d+(A.ns.length-A.depth h))+M+1):=by
 refine Jc hI (fun h hh hc hk d=>?_)
 have hd:=XbT hI hh
 rw[dump_eq hI hh,Ym hI hh]
 have hl:(lineD (A.get h) d).length≤2*tx (A.get h)+(2*(d+(A.ns.length-A.depth h))+M+1):=by have:=hM h hh;unfold lineD;simp only[List.length_append,List.length_replicate,List.length_cons,List.length_nil];omega
 have h1:(if(A.get h).Xg≠0 then A.dump (A.get h).Xg (d+1)else []).length≤2*sumM (fun x=>tx (A.get x)) (if(A.get h).Xg≠0 then A.Xi (A.get h).Xg else [])+(if(A.get h).Xg≠0 then A.Xi (A.get h).Xg else []).length*(2*(d+(A.ns.length-A.depth h))+M+1):=by by_cases q:(A.get h).Xg≠0;·{obtain⟨z1,z2,_⟩:=ZL hI hh q;have:=hc q (d+1);have e:=Jq hI z1 hh z2;have e2:=XbT hI z1;rw[if_pos q,if_pos q];rw[show 2*(d+1+(A.ns.length-A.depth (A.get h).Xg))+M+1=2*(d+(A.ns.length-A.depth h))+M+1 by(omega)]at this;exact this};·rw[if_neg q,if_neg q];simp
 have h2:((A.get h).Xc.flatMap (fun k=>A.dump k (d+1))).length≤2*sumM (fun x=>tx (A.get x)) ((A.get h).Xc.flatMap A.Xi)+((A.get h).Xc.flatMap A.Xi).length*(2*(d+(A.ns.length-A.depth h))+M+1):=by refine flat_bound2 _ (fun k hkk=>?_);obtain⟨z1,z2,_⟩:=XF hI hh hkk;have:=hk k hkk (d+1);have e:=Jq hI z1 hh z2;have e2:=XbT hI z1;rw[show 2*(d+1+(A.ns.length-A.depth k))+M+1=2*(d+(A.ns.length-A.depth h))+M+1 by(omega)]at this;exact this
 simp only[List.length_append,List.length_cons,Nat.add_mul,Nat.one_mul,sumM_cons,sumM_app]at*
 omega
theorem tree_dump {A B:Ar}(hI:A.Inv)(hJ:B.Inv)(hT:A.Tree B):∀x,A.has x→∀d,B.dump x d=A.dump x d:=by
 refine Jc hI (fun x hx hc hk d=>?_)
 rw[dump_eq hJ (hT.has hx),dump_eq hI hx,hT.Xc hx,hT.Xg hx]
 have e1:lineD (B.get x) d=lineD (A.get x) d:=by obtain⟨d',e⟩:=hT.get x hx;rw[e];rfl
 rw[e1]
 congr 1
 congr 1
 ·split;·{rename_i q;exact hc q _};·rfl
 ·exact flat_congr _ (fun k hkk=>hk k hkk _)
theorem tree_like {A B:Ar}(hI:A.Inv){h:Int}(hh:A.has h)(hT:(A.cut h).Tree B):∀x,A.has x→A.depth h≤A.depth x→ZJ B A x x:=by
 refine Jc hI (fun x hx hc hk hle=>?_)
 have hne:x≠(A.get h).Xd:=by intro e;have hz:(A.get h).Xd≠0:=by{rw[←e];have:=hx.1;omega};have hu:A.up h=x:=by{rw[e];unfold Ar.up;rw[if_pos hz]};have:=Jq hI hh hx hu;omega
 have hxC:=(Ar.X5 A h x).2 hx
 have hg:=Ar.Zc hI hh hx
 rw[if_neg hne]at hg
 obtain⟨d',e⟩:=hT.get x hxC
 rw[hg]at e
 have e3:(B.get x).Xc=(A.get x).Xc:=by rw[e]
 have e2:(B.get x).Xg=(A.get x).Xg:=by rw[e]
 refine .mk (hT.has hxC) hx ?_ (by rw[e3]) (by rw[e2]) (fun q=>?_) (fun i a b ha hb=>?_)
 ·rw[e];exact⟨rfl,rfl,rfl,rfl,rfl,rfl,rfl,rfl⟩
 ·rw[e2]at q⊢;obtain⟨z1,z2,_⟩:=ZL hI hx q;exact hc q (by rw[Jq hI z1 hx z2];omega)
 ·rw[e3]at ha;rw[ha]at hb;obtain rfl:a=b:=by{simpa using hb};have hkk:=List.mem_of_getElem? ha;obtain⟨z1,z2,_⟩:=XF hI hx hkk;exact hk a hkk (by rw[Jq hI z1 hx z2];omega)
theorem cut_below_own {A:Ar}(hI:A.Inv){h:Int}(hh:A.has h):(A.cut h).below h=A.below h:=by
 refine below_keep' hI (hI.cut hh) h hh (fun z hz=>?_)
 have z1:=walk_has hI hh hz
 refine⟨(Ar.X5 _ _ _).2 z1,?_⟩
 have hne:z≠(A.get h).Xd:=by intro e;have hz0:(A.get h).Xd≠0:=by{rw[←e];have:=z1.1;omega};have q:=(hI.wf.link h hh hz0).2.1;rw[←e]at q;have h1:=walk_le hI h hh z hz;have h2:(A.Xi h).length<(A.Xi z).length:=by{rw[Ym hI z1];obtain⟨s,t,e⟩:=List.append_of_mem q;rw[e];simp;omega};omega
 have hg:=Ar.Zc hI hh z1
 rw[if_neg hne]at hg
 rw[hg]
/-- The strings of all nodes are as short as Dump's Xi asks. -/
def Sz (A : Ar) : Prop := A.Slim 120 ∧ ∀ x, A.has x → (A.get x).data.size ≤ 100000000000000
theorem Sz.at {A:Ar}(h:Sz A)(x:Int)(hx:A.has x):((A.get x).name.size≤400∧(A.get x).data.size≤100000000000000∧(A.get x).pub.size≤400∧(A.get x).sys.size≤400)∧((A.get x).Xb.length≤120∧∀a∈(A.get x).Xb,XcQ a):=by
 obtain⟨⟨q1,q2,q3,q4⟩,q5,q6⟩:=h.1.get x
 exact⟨⟨q1,h.2 x hx,q2,q3⟩,q5,q6⟩
/-- What the law asks behind Adopt. -/
structure AdL (A B : Ar) (n d : Int) : Prop where
  le1 : B.ns.length ≤ A.ns.length + 1
  sz : Sz A → Sz B
  inv : B.Inv
  len : A.ns.length ≤ B.ns.length
  top : B.parentOf n = 0
  text : B.dump n 0 = A.dump n 0
  Xcc : ZJ B A n n
  docs : ∀ x, B.has x → B.root x = n → (B.get x).doc = d
theorem adopt_law {A:Ar}(hI:A.Inv)(hP:P5 A){n d:Int}(h0:(A.YV n d).1=0):AdL A (A.YV n d).2 n d∧A.has n:=by
 unfold Ar.YV at h0⊢
 split
 case isFalse q=>rw[if_neg q]at h0;exact absurd (show(3:Int)=0 from h0) (by decide)
 rename_i q
 rw[if_pos q]at h0
 split
 case isTrue z=>rw[if_pos z]at h0;exact absurd (show(9:Int)=0 from h0) (by decide)
 rename_i z
 have z1:(A.get d).Xa=1:=Classical.not_not.1 (fun e=>z (.inl e))
 have z2:(A.get n).Xa≠1:=fun e=>z (.inr (.inl e))
 have z3:(A.get n).host=0:=Classical.not_not.1 (fun e=>z (.inr (.inr e)))
 have R:=kc_adopt hI hP.kc q.1 z2 z3 q.2 z1
 have hC:(A.cut n).Inv:=hI.cut q.1
 have hnC:=(Ar.X5 A n n).2 q.1
 refine⟨⟨?_,fun hS=>⟨slim_adoptF _ n d hS.1,fun x hx=>?_⟩,R.inv,?_,?_,?_,tree_like hI q.1 R.tree n q.1 (Nat.le_refl _),fun x hx hr=>?_⟩,q.1⟩
 ·have h1:=Ar.Yv (A.YM n d) d;rw[(Xbk hI q.1 q.2 z1).2.2]at h1;exact Nat.le_trans h1 (Ar.Jk A d)
 ·by_cases hA:A.has x;·{obtain⟨d',e⟩:=R.tree.get x ((Ar.X5 A n x).2 hA);rw[Ar.Zc hI q.1 hA]at e;have e2:((A.YM n d).get x).data=(A.get x).data:=by{rw[e]};show((A.YM n d).get x).data.size≤_;rw[e2];exact hS.2 x hA};·have h1:=(R.new x hx hA).2.2;exact Nat.le_trans (((slim_adoptF _ n d hS.1).get x).1.2.2.2 (by show((A.YM n d).get x).Xa≠5;rw[h1];decide)) (by decide)
 ·have:=R.tree.le;rw[Ar.YY]at this;exact this
 ·show(A.YM n d).parentOf n=0;unfold Ar.parentOf;rw[if_pos (R.tree.has hnC),R.tree.Xd hnC,Ar.Zc hI q.1 q.1];split<;>simp
 ·show(A.YM n d).dump n 0=_;rw[tree_dump hC R.inv R.tree n hnC 0,cut_dump_own hI q.1]
 ·have hb:(A.YM n d).below n=A.below n:=by{rw[R.tree.below hC R.inv n hnC,cut_below_own hI q.1]};have:=tree_mem' R.inv _ x (R.inv.wf.wayPlain hx) hx;rw[hr,hb]at this;exact R.below x this
theorem run5_slim :∀(l:List OpD)(A:Ar)(m:Nat),20≤m→A.Slim m→(∀x∈l,ZC x)→(l.foldl (fun A x=>(A.Xo x).2) A).Slim (m+l.length)
 | [],A,m,_,h,_=>h
 |x::l,A,m,hm,h,hl=>by{have:=run5_slim l _ (m+1) (by omega) (slim_step5 h x hm (hl x (by simp))) (fun y hy=>hl y (by simp[hy]));rw[List.length_cons,show m+(l.length+1)=m+1+l.length by(omega)];exact this}
theorem run5_dump {l:List OpD}(hl:l.length≤100)(hx:∀x∈l,ZC x)(hc:cpN l≤8)(hI:(Zj l).Inv)(hn:(Zj l).ns.length≤100000)(h:Int):((Zj l).dump h 0).length≤210000000000000:=by
 by_cases hh:(Zj l).has h
 ·have hS:(Zj l).Slim 120:=(run5_slim l Ar.new 20 (Nat.le_refl _) (slim_new 20) hx).mono (by omega);have hM:∀x,(Zj l).has x→(lineL ((Zj l).get x)).length≤2*tx ((Zj l).get x)+(120*1700+4000):=fun x hx=>line_le (hS.get x) (spaces_of hI x hx).1 (spaces_of hI x hx).2;have h1:=dump_le hI hM h hh 0;have h2:=run5_tree99 hl hx hc hh (Z:=(Zj l).Xi h) (Xeq hI h hh) (fun x hx=>hx);have h3:((Zj l).Xi h).length≤100000:=Nat.le_trans (Z3 hI h) hn;have h4:((Zj l).Xi h).length*(2*(0+((Zj l).ns.length-(Zj l).depth h))+(120*1700+4000)+1)≤100000*1000000:=Nat.mul_le_mul h3 (by omega);omega
 ·have:(Zj l).dump h 0= []:=if_neg hh;rw[this];exact Nat.zero_le _
theorem run5_sz {l:List OpD}(hl:l.length≤100)(hx:∀x∈l,ZC x)(hc:cpN l≤8)(hI:(Zj l).Inv):Sz (Zj l):=by
 have hS:(Zj l).Slim 120:=(run5_slim l Ar.new 20 (Nat.le_refl _) (slim_new 20) hx).mono (by omega)
 refine⟨hS,fun h hh=>?_⟩
 by_cases k5:((Zj l).get h).Xa=5
 ·have h2:=run5_tree99 hl hx hc hh (Z:= [h]) (by simp) (fun x hx=>by rw[List.mem_singleton.1 hx];exact XfH hI hh);rw[sumM_cons,sumM_nil]at h2;unfold tx at h2;rw[if_pos k5]at h2;exact h2
 ·exact Nat.le_trans ((hS.get h).1.2.2.2 k5) (by decide)
end
section
end
section
open Go.RowKit Classical
theorem Copy_own {w0 w:World}{B b:Nat}{A:Ar}{l:List Xf}(o:Own w0 B l w)(hm:Xf.arena b A∈l)(hS:A.YC):Calls Tryz.prog 9 #[.pointer (some ⟨b,0,none⟩)] w fun e w'=>∃bo,e= .returned (.pointer (some ⟨bo,0,none⟩))∧Own w0 B (.arena bo A::l) w':=by
 obtain⟨ρ,hA⟩:=o.arena hm
 refine(Copy_any A ρ b w hA hS).mono ?_
 rintro e w'⟨hB,bo,σ,rfl,hC,hσ⟩
 exact⟨bo,rfl,o.fresh hB ⟨fun k=>σ k≠0,⟨σ,hC,fun _=>Iff.rfl⟩,fun k hk=>hσ k hk⟩⟩
theorem Equal_own {w0 w:World}{D b c:Nat}{A B:Ar}{l:List Xf}{r:Bool}(o:Own w0 D l w)(h1:Xf.arena b A∈l)(h2:Xf.arena c B∈l)(hI:A.Inv)(hJ:B.Inv)(hs:A.ns.length≤100000)(hs':B.ns.length≤100000)(hr:decide (A=B)=r):Calls Tryz.prog 11 #[.pointer (some ⟨b,0,none⟩),.pointer (some ⟨c,0,none⟩)] w fun e w'=>e= .returned (.bool r)∧Own w0 D l w':=by
 obtain⟨ρ,hA⟩:=o.arena h1
 obtain⟨σ,hB⟩:=o.arena h2
 refine(Equal_any A B ρ σ b c hI hJ hs hs' w hA hB).mono ?_
 rintro e w'⟨rfl,hB⟩
 exact⟨by rw[hr],o.read hB⟩
/-- What the second loop looks at. -/
structure NFacts (A B : Ar) (h : Int) (ts : Nat → ByteArray) : Prop where
  inv : B.Inv
  len : B.ns.length = A.ns.length
  two : B.normalize h = (0, B)
  tx : ∀ y, B.has y → B.YJ y ≤ 9223372036854775807
  big : ∀ k : Nat, k < A.ns.length → (B.Zi (B.below ((k : Int) + 1))).length ≤ 140737488355328
  text : ∀ (k : Nat) (y : Nd), B.ns[k]? = some y → y.Xa ≠ 5 → (B.Xbl ((k : Int) + 1)).1 = ts k
  same : ∀ (k : Nat) (y : Nd), B.ns[k]? = some y → A.root h ≠ A.root ((k : Int) + 1) → A.ns[k]? = some y
  pos : ∀ (k : Nat) (y : Nd), B.ns[k]? = some y → y.Xa = 5 → (k : Int) + 1 ≠ h → h ∈ B.YR false ((k : Int) + 1) → ∃ (p : Int) (i : Nat) (Xc : List Int), B.parentOf ((k : Int) + 1) = p ∧ B.YN p = Xc ∧ B.index ((k : Int) + 1) = i ∧ i < Xc.length ∧ y.data.toList.isEmpty = false ∧ ∀ j, i = j + 1 → ∃ z nz, Xc[j]? = some z ∧ (if B.has z then B.get z else XL) = nz ∧ (if B.has z then (0 : Int) else 3) = 0 ∧ (nz.Xa == 5) = false
end
end Go.Proofs.YtpicinjcmjaogaaGreatDoor
