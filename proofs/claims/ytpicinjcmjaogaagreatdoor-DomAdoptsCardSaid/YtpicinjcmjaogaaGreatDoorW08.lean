import Derived.Test.YtpicinjcmjaogaaGreatDoorW07
set_option maxRecDepth 100000
set_option maxHeartbeats 4000000
set_option linter.unusedVariables false
namespace Go.Proofs.YtpicinjcmjaogaaGreatDoor
section
def ZE (c : UInt8) : Bool := decide (65 ≤ c.toNat) && decide (c.toNat ≤ 90)
def Yw (c : UInt8) : UInt8 := if ZE c then c + 32 else c
def ZM (s : ByteArray) : ByteArray := ⟨(s.toList.map Yw).toArray⟩
def JC (c : UInt8) : Bool := c == 9 || c == 10 || c == 12 || c == 13 || c == 32
def Je (c : UInt8) : Bool := ZE c || (decide (97 ≤ c.toNat) && decide (c.toNat ≤ 122))
def Xaq (c : UInt8) : Bool := decide (48 ≤ c.toNat) && decide (c.toNat ≤ 57)
def Jt (c : UInt8) : Bool := Je c || Xaq c
/-- No space, not 0, and none of some others. -/
def YI (others : List UInt8) (c : UInt8) : Bool := !JC c && c != 0 && !others.contains c
def Zg (c : UInt8) : Bool := Jt c || c == 45 || c == 46 || c == 58 || c == 95 || decide (128 ≤ c.toNat)
def J2 (c : UInt8) : Bool := c == 58 || c == 95 || decide (128 ≤ c.toNat)
def Y5 : List UInt8 → Bool
  | [] => false
  | c :: l => if Je c then (c :: l).all (YI [47, 62]) else J2 c && l.all Zg
def Jl (l : List UInt8) : Bool := !l.isEmpty && l.all (YI [47, 61, 62])
def Ar.Y0 (A : Ar) (d : Int) (name : ByteArray) : (Int × Int) × Ar :=
  if A.XA d ≠ 0 then ((0, A.XA d), A) else if Y5 name.toList = false then ((0, 8), A) else A.element d 1 (ZM name) []
/-- The error of a call for an attribute. -/
def Ar.Yo (A : Ar) (el s : Int) : Int := if ¬ A.has el then 3 else if (A.get el).Xa ≠ 4 then 9 else if ¬ XS s then 2 else 0
def Ar.Zh (A : Ar) (el s : Int) (name : ByteArray) : ByteArray := if (A.get el).space = 1 ∧ s = 0 then ZM name else name
def YW (s : Int) (name : ByteArray) (x : Xm) : Bool := decide (x.1 = s ∧ x.2.1 = name)
def Ar.Y6 (A : Ar) (el s : Int) (name : ByteArray) : Int := Yt (YW s (A.Zh el s name)) (A.get el).Xb
def Ar.JP (A : Ar) (el s : Int) (name val : ByteArray) : List Xm :=
  if A.Y6 el s name < 0 then (A.get el).Xb ++ [(s, A.Zh el s name, val)]
  else (A.get el).Xb.modify (A.Y6 el s name).toNat (fun x => (x.1, x.2.1, val))
def Ar.YO (A : Ar) (el s : Int) (name val : ByteArray) : Int × Ar :=
  if A.Yo el s ≠ 0 then (A.Yo el s, A) else if Jl name.toList = false then (8, A) else A.X0 el (A.JP el s name val)
def Ar.Yy (A : Ar) (el s : Int) (name : ByteArray) : (Bool × Int) × Ar :=
  if A.Yo el s ≠ 0 then ((false, A.Yo el s), A)
  else if A.Y6 el s name < 0 then ((false, 0), A)
  else ((true, (A.X0 el ((A.get el).Xb.eraseIdx (A.Y6 el s name).toNat)).1), (A.X0 el ((A.get el).Xb.eraseIdx (A.Y6 el s name).toNat)).2)
/-- A copy of one node, for a Xn. -/
def Ar.Xj (A : Ar) (d : Int) (n : Nd) : Int × Ar :=
  if n.Xa = 1 then (A.n + 1, A.Xn n.XI)
  else if n.Xa = 2 then ((A.make d Zm).1.1, (A.make d Zm).2)
  else if n.Xa = 3 then ((A.make d (YT n.name n.pub n.sys)).1.1, (A.make d (YT n.name n.pub n.sys)).2)
  else if n.Xa = 4 then ((A.element d n.space n.name n.Xb).1.1, (A.element d n.space n.name n.Xb).2)
  else if n.Xa = 5 then ((A.make d (Xs n.data)).1.1, (A.make d (Xs n.data)).2)
  else if n.Xa = 6 then ((A.make d (YZ n.data)).1.1, (A.make d (YZ n.data)).2)
  else (0, A)
/-- Copies of some nodes are put below a node. -/
def XP (rec : Ar → Int → Int × Ar) (c : Int) (B : Ar) (k : Int) : Ar := ((rec B k).2.put c (rec B k).1 0).2
/-- A copy of a node h of C, in A, for the Xn d, with fuel. -/
def dupF (C : Ar) (deep : Bool) : Nat → Ar → Int → Int → Int × Ar
  | 0, A, _, _ => (0, A)
  | m + 1, A, d, h =>
    let r := A.Xj d (C.get h)
    let d' := if (C.get h).Xa = 1 then r.1 else d
    let A2 := if (C.get h).Xa = 4 ∧ deep = true ∧ (C.get h).Xg ≠ 0 then
        (C.get (C.get h).Xg).Xc.foldl (XP (fun B k => dupF C true m B (r.2.YA d).1.1 k) (r.2.get r.1).Xg) (r.2.YA d).2
      else r.2
    (r.1, if deep = true then (C.get h).Xc.foldl (XP (fun B k => dupF C true m B d' k) r.1) A2 else A2)
def Ar.Zx (A : Ar) (h : Int) (deep : Bool) : (Int × Int) × Ar :=
  if A.has h then (((dupF A deep A.ns.length A (A.get h).doc h).1, 0), (dupF A deep A.ns.length A (A.get h).doc h).2) else ((0, 3), A)
def Ar.Zp (A C : Ar) (d h : Int) : (Int × Int) × Ar :=
  if A.has d ∧ C.has h then (if (A.get d).Xa ≠ 1 ∨ (C.get h).Xa = 1 then ((0, 9), A) else (((dupF C true C.ns.length A d h).1, 0), (dupF C true C.ns.length A d h).2)) else ((0, 3), A)
/-- The bytes of the texts of some nodes. -/
def Ar.Zi (A : Ar) (l : List Int) : List UInt8 := l.flatMap (fun x => if (A.get x).Xa = 5 then (A.get x).data.toList else [])
def Ar.Xbl (A : Ar) (h : Int) : ByteArray × Int :=
  if ¬ A.has h then (ByteArray.empty, 3)
  else if (A.get h).Xa = 5 ∨ (A.get h).Xa = 6 then ((A.get h).data, 0)
  else if (A.get h).Xa = 1 ∨ (A.get h).Xa = 3 then (ByteArray.empty, 0)
  else (⟨(A.Zi (A.below h)).toArray⟩, 0)
def Ar.YE (A : Ar) (h : Int) (s : ByteArray) : Int × Ar :=
  if ¬ A.has h then (3, A)
  else if (A.get h).Xa = 5 ∨ (A.get h).Xa = 6 then A.XG h s
  else if (A.get h).Xa = 4 ∨ (A.get h).Xa = 2 then
    if s = ByteArray.empty then (0, A.empty h)
    else ((((A.empty h).make ((A.empty h).get h).doc (Xs s)).2.put h ((A.empty h).make ((A.empty h).get h).doc (Xs s)).1.1 0).1,
      (((A.empty h).make ((A.empty h).get h).doc (Xs s)).2.put h ((A.empty h).make ((A.empty h).get h).doc (Xs s)).1.1 0).2)
  else (0, A)
/-- The texts that follow one another are joined: the arena, the first text (or 0), what it will say. -/
structure X8 where
  ar : Ar
  first : Int
  data : ByteArray
def X8.flush (s : X8) : X8 := ⟨if s.first ≠ 0 then (s.ar.XG s.first s.data).2 else s.ar, 0, ByteArray.empty⟩
def X8.step (s : X8) (k : Int) : X8 :=
  if (s.ar.get k).Xa ≠ 5 then s.flush
  else if s.first = 0 ∧ (s.ar.get k).data ≠ ByteArray.empty then ⟨s.ar, k, (s.ar.get k).data⟩
  else ⟨s.ar.cut k, s.first, s.data ++ (s.ar.get k).data⟩
def Ar.join (A : Ar) (h : Int) : Ar := ((A.get h).Xc.foldl X8.step ⟨A, 0, ByteArray.empty⟩).flush.ar
def Ar.normalize (A : Ar) (h : Int) : Int × Ar := if A.has h then (0, ((A.join h).below h).foldl Ar.join (A.join h)) else (3, A)
def Ar.split (A : Ar) (h at' : Int) : (Int × Int) × Ar :=
  if ¬ A.has h then ((0, 3), A)
  else if (A.get h).Xa ≠ 5 then ((0, 9), A)
  else if at' < 0 ∨ ((A.get h).data.size : Int) < at' then ((0, 2), A)
  else
    let r := A.make (A.get h).doc (Xs ⟨((A.get h).data.toList.drop at'.toNat).toArray⟩)
    let B := (r.2.XG h ⟨((A.get h).data.toList.take at'.toNat).toArray⟩).2
    ((r.1.1, 0), if (A.get h).Xd ≠ 0 then (B.put (A.get h).Xd r.1.1 (B.next h)).2 else B)
end
section
def Xb1 (b : Bool) : Int := if b then 1 else 0
/-- What an operation of layer 5 does. -/
def Ar.Xo (A : Ar) (x : OpD) : (Int × Int) × Ar :=
  if x.Xa = 21 then ((0, (A.XX x.a x.b x.c).1), (A.XX x.a x.b x.c).2)
  else if x.Xa = 22 then ((0, (A.XX x.a x.b 0).1), (A.XX x.a x.b 0).2)
  else if x.Xa = 23 then ((0, (A.YU x.a x.b x.c).1), (A.YU x.a x.b x.c).2)
  else if x.Xa = 24 then ((0, (A.Zo x.a x.b).1), (A.Zo x.a x.b).2)
  else if x.Xa = 25 then ((0, (A.XR x.a).1), (A.XR x.a).2)
  else if x.Xa = 26 then ((0, (A.Yq x.a x.b).1), (A.Yq x.a x.b).2)
  else if x.Xa = 27 then ((0, (A.YV x.a x.b).1), (A.YV x.a x.b).2)
  else if x.Xa = 28 then A.Y0 x.a x.name
  else if x.Xa = 29 then ((0, (A.YO x.a x.space x.name x.s).1), (A.YO x.a x.space x.name x.s).2)
  else if x.Xa = 30 then ((Xb1 (A.Yy x.a x.space x.name).1.1, (A.Yy x.a x.space x.name).1.2), (A.Yy x.a x.space x.name).2)
  else if x.Xa = 31 then A.Zx x.a x.Xe
  else if x.Xa = 32 then A.Zp A x.a x.b
  else if x.Xa = 33 then ((0, (A.YE x.a x.s).1), (A.YE x.a x.s).2)
  else if x.Xa = 34 then ((0, (A.normalize x.a).1), (A.normalize x.a).2)
  else if x.Xa = 35 then A.split x.a x.b
  else A.step x
theorem XcX {A:Ar}{x:OpD}{P:(Int×Int)×Ar→Prop}(h21:x.Xa=21→P ((0,(A.XX x.a x.b x.c).1),(A.XX x.a x.b x.c).2))(h22:x.Xa=22→P ((0,(A.XX x.a x.b 0).1),(A.XX x.a x.b 0).2))(h23:x.Xa=23→P ((0,(A.YU x.a x.b x.c).1),(A.YU x.a x.b x.c).2))(h24:x.Xa=24→P ((0,(A.Zo x.a x.b).1),(A.Zo x.a x.b).2))(h25:x.Xa=25→P ((0,(A.XR x.a).1),(A.XR x.a).2))(h26:x.Xa=26→P ((0,(A.Yq x.a x.b).1),(A.Yq x.a x.b).2))(h27:x.Xa=27→P ((0,(A.YV x.a x.b).1),(A.YV x.a x.b).2))(h28:x.Xa=28→P (A.Y0 x.a x.name))(h29:x.Xa=29→P ((0,(A.YO x.a x.space x.name x.s).1),(A.YO x.a x.space x.name x.s).2))(h30:x.Xa=30→P ((Xb1 (A.Yy x.a x.space x.name).1.1,(A.Yy x.a x.space x.name).1.2),(A.Yy x.a x.space x.name).2))(h31:x.Xa=31→P (A.Zx x.a x.Xe))(h32:x.Xa=32→P (A.Zp A x.a x.b))(h33:x.Xa=33→P ((0,(A.YE x.a x.s).1),(A.YE x.a x.s).2))(h34:x.Xa=34→P ((0,(A.normalize x.a).1),(A.normalize x.a).2))(h35:x.Xa=35→P (A.split x.a x.b))(h0:x.Xa<21∨35<x.Xa→P (A.step x)):P (A.Xo x):=by
 unfold Ar.Xo
 by_cases e21:x.Xa=21
 ·rw[if_pos e21];exact h21 e21
 rw[if_neg e21]
 by_cases e22:x.Xa=22
 ·rw[if_pos e22];exact h22 e22
 rw[if_neg e22]
 by_cases e23:x.Xa=23
 ·rw[if_pos e23];exact h23 e23
 rw[if_neg e23]
 by_cases e24:x.Xa=24
 ·rw[if_pos e24];exact h24 e24
 rw[if_neg e24]
 by_cases e25:x.Xa=25
 ·rw[if_pos e25];exact h25 e25
 rw[if_neg e25]
 by_cases e26:x.Xa=26
 ·rw[if_pos e26];exact h26 e26
 rw[if_neg e26]
 by_cases e27:x.Xa=27
 ·rw[if_pos e27];exact h27 e27
 rw[if_neg e27]
 by_cases e28:x.Xa=28
 ·rw[if_pos e28];exact h28 e28
 rw[if_neg e28]
 by_cases e29:x.Xa=29
 ·rw[if_pos e29];exact h29 e29
 rw[if_neg e29]
 by_cases e30:x.Xa=30
 ·rw[if_pos e30];exact h30 e30
 rw[if_neg e30]
 by_cases e31:x.Xa=31
 ·rw[if_pos e31];exact h31 e31
 rw[if_neg e31]
 by_cases e32:x.Xa=32
 ·rw[if_pos e32];exact h32 e32
 rw[if_neg e32]
 by_cases e33:x.Xa=33
 ·rw[if_pos e33];exact h33 e33
 rw[if_neg e33]
 by_cases e34:x.Xa=34
 ·rw[if_pos e34];exact h34 e34
 rw[if_neg e34]
 by_cases e35:x.Xa=35
 ·rw[if_pos e35];exact h35 e35
 rw[if_neg e35]
 exact h0 (by omega)
def Zj (l : List OpD) : Ar := l.foldl (fun A x => (A.Xo x).2) Ar.new
end
section
/-- No node has more than m attributes. -/
def Ar.XB (A : Ar) (m : Nat) : Prop := ∀ n ∈ A.ns, n.Xb.length ≤ m
theorem Ar.XB.mono {A:Ar}{m k:Nat}(h:A.XB m)(hk:m≤k):A.XB k:=fun n hn=>Nat.le_trans (h n hn) hk
theorem XcY (m:Nat):Ar.new.XB m:=fun n hn=>by{simp[Ar.new]at hn}
theorem XcZ {A:Ar}{m:Nat}(h:A.XB m){n:Nd}(hn:n.Xb.length≤m):(A.add n).XB m:=by
 intro x hx
 rcases List.mem_append.1 hx with hx|hx
 ·exact h x hx
 ·simp at hx;subst hx;exact hn
theorem XgI {α:Type}{f:α→α}{x:α}:∀{l:List α}{i:Nat},x∈l.modify i f→x∈l∨∃y∈l,x=f y
 | [],i,h=>by{simp at h}
 |a::l,0,h=>by{simp at h;rcases h with rfl|h;·{exact .inr ⟨a,by simp,rfl⟩};·exact .inl (by simp[h])}
 |a::l,i+1,h=>by{simp at h;rcases h with rfl|h;·{exact .inl (by simp)};·rcases XgI h with q|⟨y,q1,q2⟩;·{exact .inl (by simp[q])};·exact .inr ⟨y,by simp[q1],q2⟩}
theorem J3 {A:Ar}{m:Nat}(h:A.XB m)(x:Int){f:Nd→Nd}(hf:∀n,n.Xb.length≤m→(f n).Xb.length≤m):(A.mod x f).XB m:=by
 intro n hn
 rcases XgI hn with hn|⟨y,hy,rfl⟩
 ·exact h n hn
 ·exact hf y (h y hy)
theorem JR {A:Ar}{m:Nat}(h:A.XB m)(x:Int):(A.cut x).XB m:=by
 unfold Ar.cut
 split
 ·exact h
 ·refine J3 (J3 h _ ?_) _ ?_<;>exact fun n hn=>hn
theorem Xb2 {A:Ar}{m:Nat}(h:A.XB m)(p x c:Int):(A.put p x c).2.XB m:=by
 unfold Ar.put
 split
 ·exact h
 ·refine J3 (A:=(A.cut x).mod p _) (J3 (JR h x) _ ?_) _ ?_<;>exact fun n hn=>hn
theorem Xez {A:Ar}{m:Nat}(h:A.XB m)(q:Bool):(A.Xn q).XB m:=XcZ h (Nat.zero_le _)
theorem XeA {A:Ar}{m:Nat}(h:A.XB m)(d:Int):(A.Xq d).2.XB m:=by
 unfold Ar.Xq
 split
 ·exact h
 ·exact Xez h false
theorem XgJ {A:Ar}{m:Nat}(h:A.XB m)(d:Int):(A.YA d).2.XB m:=by
 unfold Ar.YA
 split
 ·exact h
 ·exact XeA h d
theorem JE {A:Ar}{m:Nat}(h:A.XB m)(d:Int){n:Nd}(hn:n.Xb= []):(A.make d n).2.XB m:=by
 unfold Ar.make
 split
 ·exact h
 ·exact XcZ h (by show n.Xb.length≤m;rw[hn];exact Nat.zero_le _)
theorem XeB {A:Ar}{m:Nat}(h:A.XB m)(d s:Int)(name:ByteArray){l:List Xm}(hl:l.length≤m):(A.element d s name l).2.XB m:=by
 have h1:(A.add (XJ d s name l)).XB m:=XcZ h (Nat.le_trans (Xcz l) hl)
 by_cases he:A.XA d=0
 ·by_cases hs:XS s∧Ys l;·{by_cases ht:XN (XJ d s name l);·{rw[XaN he hs ht];exact J3 (XcZ (XeA h1 d) (Nat.zero_le _)) _ (fun n hn=>hn)};·rw[XaM he hs ht];exact h1};·rw[XaL he hs];exact h
 ·have:A.element d s name l=((0,A.XA d),A):=by{simp[Ar.element,he]};rw[this];exact h
theorem Xb3 {A:Ar}{m:Nat}(h:A.XB m)(x:Int)(s:ByteArray):(A.XG x s).2.XB m:=by
 unfold Ar.XG
 repeat' split
 all_goals first|(exact h)|exact J3 h _ (fun n hn=>hn)
theorem Xkl {A:Ar}{m:Nat}(h:A.XB m)(x:Int)(q:Bool):(A.YQ x q).2.XB m:=by
 unfold Ar.YQ
 repeat' split
 all_goals first|(exact h)|exact J3 h _ (fun n hn=>hn)
theorem XeC {A:Ar}{m:Nat}(h:A.XB m)(x d:Int):(A.Xt x d).2.XB m:=by
 unfold Ar.Xt
 repeat' split
 all_goals first|(exact h)|exact J3 h _ (fun n hn=>hn)
theorem XeD {A:Ar}{m:Nat}(h:A.XB m)(x:Int){l:List Xm}(hl:l.length≤m):(A.X0 x l).2.XB m:=by
 unfold Ar.X0
 repeat' split
 all_goals first|(exact h)|exact J3 h _ (fun n hn=>Nat.le_trans (Xcz l) hl)
theorem XeE {m:Nat}:∀(n:Nat){A:Ar}(h d:Int),A.XB m→(adoptF n A h d).XB m
 |0,A,h,d,ht=>JR ht h
 |n+1,A,h,d,ht=>by{unfold adoptF;split;·{exact JR ht h};·refine Ze (P:=fun B:Ar=>B.XB m) (JR ht h) (fun B x hx hB=>?_);unfold Yf;split;·{exact XeC hB x d};·exact XeE n _ _ (XeA (XeC hB x d) d)}
theorem Xc0 {A:Ar}{m:Nat}(h:A.XB m)(p n c:Int):(A.YD p n c).XB m:=Ze (P:=fun B:Ar=>B.XB m) h (fun B x hx hB=>Xb2 (XeE _ _ _ hB) _ _ _)
theorem Xc1 {A:Ar}{m:Nat}(h:A.XB m)(p:Int):(A.empty p).XB m:=Ze (P:=fun B:Ar=>B.XB m) h (fun B x hx hB=>JR hB x)
theorem Xkm {A:Ar}{m:Nat}(h:A.XB m)(d:Int){n:Nd}(hn:n.Xb.length≤m):(A.Xj d n).2.XB m:=by
 unfold Ar.Xj
 repeat' split
 ·exact Xez h _
 ·exact JE h d rfl
 ·exact JE h d rfl
 ·exact XeB h d _ _ hn
 ·exact JE h d rfl
 ·exact JE h d rfl
 ·exact h
theorem Xc2 {C:Ar}{m:Nat}(h:C.XB m)(x:Int):(C.get x).Xb.length≤m:=by
 unfold Ar.get
 cases e:C.ns[x.toNat-1]? with|none=>{exact Nat.zero_le _}|some n=>exact h n (List.mem_of_getElem? e)
theorem XeF {C:Ar}{m:Nat}(hC:C.XB m):∀(k:Nat)(deep:Bool){A:Ar}(d h:Int),A.XB m→(dupF C deep k A d h).2.XB m
 |0,deep,A,d,h,ht=>ht
 |k+1,deep,A,d,h,ht=>by{have h1:=Xkm ht d (Xc2 hC h);have step:∀(l:List Int)(d' c:Int)(B:Ar),B.XB m→(l.foldl (XP (fun B k'=>dupF C true k B d' k') c) B).XB m:=fun l d' c B hB=>Ze (P:=fun B:Ar=>B.XB m) hB (fun B x hx hB=>Xb2 (XeF hC k true d' x hB) _ _ _);have hmid:∀(P:Prop) [Decidable P](l:List Int)(d' c:Int),(if P then l.foldl (XP (fun B k'=>dupF C true k B d' k') c) ((A.Xj d (C.get h)).2.YA d).2 else(A.Xj d (C.get h)).2).XB m:=by{intro P _ l d' c;split;·{exact step _ _ _ _ (XgJ h1 d)};·exact h1};unfold dupF;dsimp only;split;·{exact step _ _ _ _ (hmid _ _ _ _)};·exact hmid _ _ _ _}
theorem XgK {A:Ar}{m:Nat}(h:A.XB m)(x:Int):(A.join x).XB m:=by
 have fl:∀s:X8,s.ar.XB m→s.flush.ar.XB m:=fun s hs=>by unfold X8.flush;dsimp only;split;·{exact Xb3 hs _ _};·exact hs
 refine fl _ (Ze (P:=fun s:X8=>s.ar.XB m) h (fun s k hk hs=>?_))
 unfold X8.step
 split
 ·exact fl s hs
 ·split;·{exact hs};·exact JR hs k
theorem Xkn {α:Type}(l:List α)(i:Nat)(f:α→α):(l.modify i f).length=l.length:=by
 simp
theorem XgL {A:Ar}{m:Nat}(h:A.XB m)(el s:Int)(name val:ByteArray):(A.JP el s name val).length≤m+1:=by
 have:=Xc2 h el
 unfold Ar.JP
 split
 ·simp;omega
 ·rw[Xkn];omega
theorem Xko {A:Ar}{m:Nat}(h:A.XB m)(x:OpD)(hx:x.Xb.length≤m):(A.step x).2.XB m:=by
 refine XbS (P:=fun r=>r.2.XB m) ?_ ?_ ?_ ?_ ?_ ?_ ?_ ?_ ?_ ?_ ?_ ?_ ?_ ?_<;>intro _
 ·exact Xez h _
 ·exact JE h _ rfl
 ·exact XeB h _ _ _ hx
 ·exact JE h _ rfl
 ·exact JE h _ rfl
 ·exact JE h _ rfl
 ·exact XgJ h _
 ·exact Xb2 h _ _ _
 ·dsimp only;unfold Ar.XR;split;·{exact JR h _};·exact h
 ·exact Xb3 h _ _
 ·exact XeD h _ hx
 ·exact Xkl h _ _
 ·exact XeC h _ _
 ·exact h
theorem XeG {A:Ar}{m:Nat}(h:A.XB m)(x:OpD)(hx:x.Xb.length≤m):(A.Xo x).2.XB (m+1):=by
 have h':=h.mono (Nat.le_succ m)
 refine XcX (P:=fun r=>r.2.XB (m+1)) ?_ ?_ ?_ ?_ ?_ ?_ ?_ ?_ ?_ ?_ ?_ ?_ ?_ ?_ ?_ ?_<;>intro _
 ·dsimp only;unfold Ar.XX;split;·{exact h'};·exact(Xc0 h _ _ _).mono (Nat.le_succ m)
 ·dsimp only;unfold Ar.XX;split;·{exact h'};·exact(Xc0 h _ _ _).mono (Nat.le_succ m)
 ·dsimp only;unfold Ar.YU;split;·{split;·{exact h'};·exact(Xc0 (JR h _) _ _ _).mono (Nat.le_succ m)};·exact h'
 ·dsimp only;unfold Ar.Zo;split;·{split;·{exact h'};·exact(JR h _).mono (Nat.le_succ m)};·exact h'
 ·dsimp only;unfold Ar.XR;split;·{exact(JR h _).mono (Nat.le_succ m)};·exact h'
 ·dsimp only;unfold Ar.Yq;split;·{split;·{exact h'};·split;·{exact h'};·dsimp only;split;·{exact(Xc0 (Xc1 h _) _ _ _).mono (Nat.le_succ m)};·exact(Xc1 h _).mono (Nat.le_succ m)};·exact h'
 ·dsimp only;unfold Ar.YV;split;·{split;·{exact h'};·exact(XeE _ _ _ h).mono (Nat.le_succ m)};·exact h'
 ·unfold Ar.Y0;split;·{exact h'};·split;·{exact h'};·exact(XeB h _ _ _ (Nat.zero_le _)).mono (Nat.le_succ m)
 ·dsimp only;unfold Ar.YO;split;·{exact h'};·split;·{exact h'};·exact XeD h' _ (XgL h _ _ _ _)
 ·dsimp only;unfold Ar.Yy;split;·{exact h'};·split;·{exact h'};·exact XeD h' _ (Nat.le_trans (List.length_eraseIdx_le _ _) (Nat.le_trans (Xc2 h _) (Nat.le_succ m)))
 ·unfold Ar.Zx;split;·{exact(XeF h _ _ _ _ h).mono (Nat.le_succ m)};·exact h'
 ·unfold Ar.Zp;split;·{split;·{exact h'};·exact(XeF h _ _ _ _ h).mono (Nat.le_succ m)};·exact h'
 ·dsimp only;unfold Ar.YE;split;·{exact h'};·split;·{exact Xb3 h' _ _};·split;·{split;·{exact(Xc1 h _).mono (Nat.le_succ m)};·exact(Xb2 (JE (Xc1 h _) _ rfl) _ _ _).mono (Nat.le_succ m)};·exact h'
 ·dsimp only;unfold Ar.normalize;split;·{exact(Ze (P:=fun B:Ar=>B.XB m) (XgK h _) (fun B y hy hB=>XgK hB y)).mono (Nat.le_succ m)};·exact h'
 ·unfold Ar.split;split;·{exact h'};·split;·{exact h'};·split;·{exact h'};·dsimp only;split;·{exact Xb2 (Xb3 (JE h' _ rfl) _ _) _ _ _};·exact Xb3 (JE h' _ rfl) _ _
 ·exact(Xko h x hx).mono (Nat.le_succ m)
end
section
theorem Xkp (A:Ar)(d s:Int)(name:ByteArray)(l:List Xm):(A.element d s name l).2.ns.length≤A.ns.length+3:=by
 have:=XgA A ⟨3,d,0,0,false,s,name,ByteArray.empty,ByteArray.empty,l⟩
 simpa[Ar.step]using this
theorem Xkq {A:Ar}(hI:A.Inv)(d:Int){n:Nd}(hn:n.Xb.length≤1000):(A.Xj d n).2.Inv:=by
 unfold Ar.Xj
 split
 ·exact Ar.XC.Xn hI _
 split
 ·exact hI.make rfl rfl rfl rfl Xgz (by simp[Zm]) (by simp[Zm])
 split
 ·exact hI.make rfl rfl rfl rfl (Xgx _ _ _) (by simp[YT]) (by simp[YT])
 split
 ·exact hI.element _ _ _ _ hn
 split
 ·exact hI.make rfl rfl rfl rfl (JX _) (by simp[Xs]) (by simp[Xs])
 split
 ·exact hI.make rfl rfl rfl rfl (Xgy _) (by simp[YZ]) (by simp[YZ])
 ·exact hI
/-- What a call leaves that only adds: handles, kinds, Xh documents. -/
structure Ar.YF (A B : Ar) : Prop where
  inv : B.Inv
  has : ∀ x, A.has x → B.has x
  Xa : ∀ x, A.has x → (B.get x).Xa = (A.get x).Xa
  Xh : ∀ x, A.Xu x ≠ 0 → B.Xu x ≠ 0
theorem Ar.YF.refl {A:Ar}(h:A.Inv):A.YF A:=⟨h,fun _ h=>h,fun _ _=>rfl,fun _ h=>h⟩
theorem Ar.YF.trans {A B C:Ar}(h:A.YF B)(k:B.YF C):A.YF C:=⟨k.inv,fun x hx=>k.has x (h.has x hx),fun x hx=>(k.Xa x (h.has x hx)).trans (h.Xa x hx),fun x hx=>k.Xh x (h.Xh x hx)⟩
theorem XeH {A:Ar}(hI:A.Inv)(p x c:Int):A.YF (A.put p x c).2:=⟨Ar.Inv.put hI p x c,fun y hy=>(XcT hI p x c hy).1,fun y hy=>(XcT hI p x c hy).2.1,fun y hy=>by unfold Ar.Xu at*;rw[(JO A p x c).1];exact hy⟩
theorem XeI {A:Ar}(hA:A.Inv){n:Nd}(hI:(A.add n).Inv):A.YF (A.add n):=⟨hI,fun y hy=>(Ar.XO _ _ _).2 (.inl hy),fun y hy=>by rw[Ar.Zb n hy],fun y hy=>by rw[Ar.JA hA.wf.Xh];exact hy⟩
theorem XeJ {A:Ar}(hA:A.Inv)(n:Nd)(d:Int):(A.add n).cap d=A.cap d+1:=by
 unfold Ar.cap
 rw[Ar.JA hA.wf.Xh,JY]
 omega
theorem Xkr (A:Ar)(x:Int)(f:Nd→Nd):(A.mod x f).Xh=A.Xh:=rfl
theorem Xks {A:Ar}(hA:A.Inv){d s:Int}{name:ByteArray}{l:List Xm}(hl:l.length≤1000)(hd:A.has d)(hk:(A.get d).Xa=1):A.YF (A.element d s name l).2∧(A.element d s name l).2.cap d≤A.cap d+(if s=1∧name.toList=Xa8 then 2 else 1)∧(XN (XJ d s name l)→XS s∧Ys l→(A.element d s name l).2.Xu d≠0):=by
 have he:A.XA d=0:=by unfold Ar.XA;rw[if_neg (fun h=>h hd),if_neg (fun h=>h hk)]
 have hinv:=Ar.Inv.element hA d s name l hl
 by_cases hs:XS s∧Ys l
 ·have hI1:(A.add (XJ d s name l)).XC (if XN (XJ d s name l)then A.n+1 else 0):=by{split;·{rename_i ht;exact Ar.XC.added hA rfl rfl rfl rfl (XbL hs.1 hs.2 hl) (.inl ⟨hd,hk,by simp[XJ]⟩) (.inr ⟨rfl,rfl⟩)};·rename_i ht;exact Ar.XC.added hA rfl rfl rfl rfl (XbL hs.1 hs.2 hl) (.inl ⟨hd,hk,by simp[XJ]⟩) (.inl ⟨rfl,ht⟩)};by_cases ht:XN (XJ d s name l);·{have ht':s=1∧name.toList=Xa8:=⟨ht.2.1,ht.2.2⟩;rw[if_pos ht'];rw[XaN he hs ht]at hinv⊢;dsimp only at hinv⊢;have hd1:(A.add (XJ d s name l)).has d:=(Ar.XO _ _ _).2 (.inl hd);have hwi:(A.add (XJ d s name l)).Xh.length=(A.add (XJ d s name l)).ns.length+1:=hI1.wf.Xh;have hat:=XbV hd1 hwi;have hl2:((A.add (XJ d s name l)).Xq d).2.Xh.length=((A.add (XJ d s name l)).Xq d).2.ns.length+1:=(hI1.Xq hd1).wf.Xh;have hin:∀y,((((A.add (XJ d s name l)).Xq d).2.add (Y7 (A.n+1) ((A.add (XJ d s name l)).Xq d).1)).mod (A.n+1) (fun x=>{x with Xg:=((A.add (XJ d s name l)).Xq d).2.n+1})).Xu y=((A.add (XJ d s name l)).Xq d).2.Xu y:=fun y=>by{show(((A.add (XJ d s name l)).Xq d).2.add (Y7 (A.n+1) ((A.add (XJ d s name l)).Xq d).1)).Xu y=_;exact Ar.JA hl2 _ y};have hnew:(A.add (XJ d s name l)).has (A.n+1):=(Ar.XO _ _ _).2 (.inr rfl);refine⟨⟨hinv,fun y hy=>?_,fun y hy=>?_,fun y hy=>?_⟩,?_,fun _ _=>?_⟩;·{exact(Ar.ZU _ _ _ _).2 ((Ar.XO _ _ _).2 (.inl (Ar.JS ((Ar.XO _ _ _).2 (.inl hy))).2))};·{have h1:(A.add (XJ d s name l)).has y:=(Ar.XO _ _ _).2 (.inl hy);have h2:=Ar.JS (d:=d) h1;have h3:=Ar.JS (d:=d) hnew;rw[Ar.Zr _ ((Ar.XO _ _ _).2 (.inl h3.2)) ((Ar.XO _ _ _).2 (.inl h2.2))];have hne:y≠A.n+1:=fun e=>Ar.Xba A (e▸hy);rw[if_neg hne,Ar.Zb _ h2.2,h2.1,Ar.Zb _ hy]};·{rw[hin];have h1:(A.add (XJ d s name l)).Xu y≠0:=by{rw[Ar.JA hA.wf.Xh];exact hy};unfold Ar.Xq;split;·{exact h1};·rename_i q;have hlen:((A.add (XJ d s name l)).Xn false).Xh.length=A.ns.length+3:=by{simp[Ar.Xn,Ar.add,hA.wf.Xh]};have hd1':=hd.1;have hd2':=hd.2;unfold Ar.n at hd2';have hn1:(A.add (XJ d s name l)).n=(A.ns.length:Int)+1:=by{rw[Ar.Xf7];rfl};have e:=Xcv (l:=((A.add (XJ d s name l)).Xn false).Xh) (i:=d.toNat) (j:=((A.add (XJ d s name l)).n+1).toNat) (k:=y.toNat) (v:=(A.add (XJ d s name l)).n+1) (u:=(A.add (XJ d s name l)).n+1) (by omega) (by omega);show((((A.add (XJ d s name l)).Xn false).Xh.set d.toNat ((A.add (XJ d s name l)).n+1)).set ((A.add (XJ d s name l)).n+1).toNat ((A.add (XJ d s name l)).n+1))[y.toNat]?.getD 0≠0;rw[e];split;·{omega};·split;·{omega};·show((A.add (XJ d s name l)).Xn false).Xu y≠0;rw[Ar.Xn,Ar.JA hwi];exact h1};·{have h1:=XcS hd1 hwi;have h2:=XeJ hA (XJ d s name l) d;unfold Ar.cap at h1 h2⊢;rw[hin d,Xaj,JY];omega};·rw[hin];exact hat.2};·rw[if_neg ht]at hI1;rw[XaM he hs ht];refine⟨XeI hA hI1,?_,fun h=>absurd h ht⟩;have:=XeJ hA (XJ d s name l) d;dsimp only;split<;>omega
 ·rw[XaL he hs];refine⟨Ar.YF.refl hA,?_,fun _ h=>absurd h hs⟩;dsimp only;split<;>omega
end
end Go.Proofs.YtpicinjcmjaogaaGreatDoor
