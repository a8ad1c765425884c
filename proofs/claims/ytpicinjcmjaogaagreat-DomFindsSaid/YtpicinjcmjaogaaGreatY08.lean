import Derived.Lib.Bytealg
import Derived.Shelf.Abstract
import Derived.Test.YtpicinjcmjaogaaGreatY07
set_option maxRecDepth 100000
set_option maxHeartbeats 4000000
set_option linter.unusedVariables false
namespace Go.Proofs.YtpicinjcmjaogaaGreat
variable{w w':World}{v:Value}{A C:Ar}{m:Nat}{n:Nd}{l:List Xm}{s el:Int}{name val:ByteArray}
section
def ZE (c : UInt8) : Bool := decide (65 <= c.toNat) && decide (c.toNat <= 90)
def Yw (c : UInt8) : UInt8 := if ZE c then c + 32 else c
def ZM (s : ByteArray) : ByteArray := ⟨(s.toList.map Yw).toArray⟩
def JC (c : UInt8) : Bool := c == 9 || c == 10 || c == 12 || c == 13 || c == 32
def Je (c : UInt8) : Bool := ZE c || (decide (97 <= c.toNat) && decide (c.toNat <= 122))
def Xaq (c : UInt8) : Bool := decide (48 <= c.toNat) && decide (c.toNat <= 57)
def Jt (c : UInt8) : Bool := Je c || Xaq c
/-- No space, not 0, and none of some others. -/
def YI (others : List UInt8) (c : UInt8) : Bool := !JC c && c != 0 && !others.contains c
def Zg (c : UInt8) : Bool := Jt c || c == 45 || c == 46 || c == 58 || c == 95 || decide (128 <= c.toNat)
def J2 (c : UInt8) : Bool := c == 58 || c == 95 || decide (128 <= c.toNat)
def Y5 : List UInt8 -> Bool
  | [] => false
  | c :: l => if Je c then (c :: l).all (YI [47, 62]) else J2 c && l.all Zg
def Jl (l : List UInt8) : Bool := !l.isEmpty && l.all (YI [47, 61, 62])
def Ar.Y0 (A : Ar) (d : Int) (name : ByteArray) : (Int × Int) × Ar :=
  if A.XA d ≠ 0 then ((0, A.XA d), A) else if Y5 name.toList = false then ((0, 8), A) else A.element d 1 (ZM name) []
/-- The error of a call for an attribute. -/
def Ar.Yo (A : Ar) (el s : Int) : Int := if ¬ A.has el then 3 else if (A.get el).Xa ≠ 4 then 9 else if ¬ XS s then 2 else 0
def Ar.Zh (A : Ar) (el s : Int) (name : ByteArray) : ByteArray := if (A.get el).space = 1 /\ s = 0 then ZM name else name
def YW (s : Int) (name : ByteArray) (x : Xm) : Bool := decide (x.1 = s /\ x.2.1 = name)
def Ar.Y6 (A : Ar) (el s : Int) (name : ByteArray) : Int := Yt (YW s (A.Zh el s name)) (A.get el).Xb
def Ar.JP (A : Ar) (el s : Int) (name val : ByteArray) : List Xm :=
  if A.Y6 el s name < 0 then (A.get el).Xb ++ [(s, A.Zh el s name, val)]
  else (A.get el).Xb.modify (A.Y6 el s name).toNat (λx => (x.1, x.2.1, val))
def Ar.YO (A : Ar) (el s : Int) (name val : ByteArray) : Int × Ar :=
  if A.Yo el s ≠ 0 then (A.Yo el s, A) else if Jl name.toList = false then (8, A) else A.X0 el (A.JP el s name val)
def Ar.Yy (A : Ar) (el s : Int) (name : ByteArray) : (Bool × Int) × Ar :=
  if A.Yo el s ≠ 0 then ((false, A.Yo el s), A)
  else if A.Y6 el s name < 0 then ((false, 0), A)
  else ((true, (A.X0 el ((A.get el).Xb.eraseIdx (A.Y6 el s name).toNat)).1), (A.X0 el ((A.get el).Xb.eraseIdx (A.Y6 el s name).toNat)).2)
/-- A copy of one node, for a Xn. -/
def Ar.Xj (A : Ar) (d : Int) (n : Nd) : Int × Ar :=
  if n.Xa = 1 then (A.n + 1, A.Xn n.XI)
  else if n.Xa = 2 then ((A.make d Zm).1.1, (A.make d Zm).2)
  else if n.Xa = 3 then ((A.make d (YT n.name n.pub n.sys)).1.1, (A.make d (YT n.name n.pub n.sys)).2)
  else if n.Xa = 4 then ((A.element d n.space n.name n.Xb).1.1, (A.element d n.space n.name n.Xb).2)
  else if n.Xa = 5 then ((A.make d (Xs n.data)).1.1, (A.make d (Xs n.data)).2)
  else if n.Xa = 6 then ((A.make d (YZ n.data)).1.1, (A.make d (YZ n.data)).2)
  else (0, A)
/-- Copies of some nodes are put below a node. -/
def XP (rec : Ar -> Int -> Int × Ar) (c : Int) (B : Ar) (k : Int) : Ar := ((rec B k).2.put c (rec B k).1 0).2
/-- A copy of a node h of C, in A, for the Xn d, with fuel. -/
def dupF (C : Ar) (deep : Bool) : Nat -> Ar -> Int -> Int -> Int × Ar
  | 0, A, _, _ => (0, A)
  | m + 1, A, d, h =>
    let r := A.Xj d (C.get h)
    let d' := if (C.get h).Xa = 1 then r.1 else d
    let A2 := if (C.get h).Xa = 4 /\ deep = true /\ (C.get h).Xg ≠ 0 then
        (C.get (C.get h).Xg).Xc.foldl (XP (λB k => dupF C true m B (r.2.YA d).1.1 k) (r.2.get r.1).Xg) (r.2.YA d).2
      else r.2
    (r.1, if deep = true then (C.get h).Xc.foldl (XP (λB k => dupF C true m B d' k) r.1) A2 else A2)
def Ar.Zx (A : Ar) (h : Int) (deep : Bool) : (Int × Int) × Ar :=
  if A.has h then (((dupF A deep A.ns.length A (A.get h).doc h).1, 0), (dupF A deep A.ns.length A (A.get h).doc h).2) else ((0, 3), A)
def Ar.Zp (A C : Ar) (d h : Int) : (Int × Int) × Ar :=
  if A.has d /\ C.has h then (if (A.get d).Xa ≠ 1 \/ (C.get h).Xa = 1 then ((0, 9), A) else (((dupF C true C.ns.length A d h).1, 0), (dupF C true C.ns.length A d h).2)) else ((0, 3), A)
/-- The bytes of the texts of some nodes. -/
def Ar.Zi (A : Ar) (l : List Int) : List UInt8 := l.flatMap (λx => if (A.get x).Xa = 5 then (A.get x).data.toList else [])
def Ar.Xbl (A : Ar) (h : Int) : ByteArray × Int :=
  if ¬ A.has h then (ByteArray.empty, 3)
  else if (A.get h).Xa = 5 \/ (A.get h).Xa = 6 then ((A.get h).data, 0)
  else if (A.get h).Xa = 1 \/ (A.get h).Xa = 3 then (ByteArray.empty, 0)
  else (⟨(A.Zi (A.below h)).toArray⟩, 0)
def Ar.YE (A : Ar) (h : Int) (s : ByteArray) : Int × Ar :=
  if ¬ A.has h then (3, A)
  else if (A.get h).Xa = 5 \/ (A.get h).Xa = 6 then A.XG h s
  else if (A.get h).Xa = 4 \/ (A.get h).Xa = 2 then
    if s = ByteArray.empty then (0, A.empty h)
    else ((((A.empty h).make ((A.empty h).get h).doc (Xs s)).2.put h ((A.empty h).make ((A.empty h).get h).doc (Xs s)).1.1 0).1,
      (((A.empty h).make ((A.empty h).get h).doc (Xs s)).2.put h ((A.empty h).make ((A.empty h).get h).doc (Xs s)).1.1 0).2)
  else (0, A)
/-- The texts that follow one another are joined: the arena, the first text (or 0), what it will say. -/
structure X8 where
  ar : Ar
  first : Int
  data : ByteArray
def X8.flush (s : X8) : X8 := ⟨if s.first ≠ 0 then (s.ar.XG s.first s.data).2 else s.ar, 0, ByteArray.empty⟩
def X8.step (s : X8) (k : Int) : X8 :=
  if (s.ar.get k).Xa ≠ 5 then s.flush
  else if s.first = 0 /\ (s.ar.get k).data ≠ ByteArray.empty then ⟨s.ar, k, (s.ar.get k).data⟩
  else ⟨s.ar.cut k, s.first, s.data ++ (s.ar.get k).data⟩
def Ar.join (A : Ar) (h : Int) : Ar := ((A.get h).Xc.foldl X8.step ⟨A, 0, ByteArray.empty⟩).flush.ar
def Ar.normalize (A : Ar) (h : Int) : Int × Ar := if A.has h then (0, ((A.join h).below h).foldl Ar.join (A.join h)) else (3, A)
def Ar.split (A : Ar) (h at' : Int) : (Int × Int) × Ar :=
  if ¬ A.has h then ((0, 3), A)
  else if (A.get h).Xa ≠ 5 then ((0, 9), A)
  else if at' < 0 \/ ((A.get h).data.size : Int) < at' then ((0, 2), A)
  else
    let r := A.make (A.get h).doc (Xs ⟨((A.get h).data.toList.drop at'.toNat).toArray⟩)
    let B := (r.2.XG h ⟨((A.get h).data.toList.take at'.toNat).toArray⟩).2
    ((r.1.1, 0), if (A.get h).Xd ≠ 0 then (B.put (A.get h).Xd r.1.1 (B.next h)).2 else B)
end
section
open Go.RowKit Go.Shelf
theorem Xki (s:ByteArray)(c:Int)(w:World):Calls Tryz.prog 242 #[.string s,.int .u8 c] w λe w'=>e= .returned (.int .i64 (Lib.indexByte s.data.toList c.toNat.toUInt8))/\w=w':=by
 go_enter Tryz.func242,Tryz.ntmps242
 go_wp2
 rw[run_callFunc_extern Tryz.func248 (by kernel_rfl) (by kernel_rfl) (by kernel_rfl) (e:=Extern.BytealgIndexByte.indexByte) (by kernel_rfl),Lib.run_indexByteString]
 simp only[Result.andThen]
 rw[Oper.upon_value]
 go_wp2
 go_ret
 exact⟨rfl,rfl⟩
theorem Xkj (s:ByteArray)(c:Int)(w:World):Calls Tryz.prog 212 #[.string s,.int .u8 c] w λe w'=>e= .returned (.int .i64 (Lib.indexByte s.data.toList c.toNat.toUInt8))/\w=w':=by
 have HC:=Xqh (Xki s c w)
 go_enter Tryz.func212,Tryz.ntmps212
 go_wp2_with fail
 refine HC.out.mono ?_
 rintro e w1⟨rfl,rfl⟩
 clear HC
 go_wp2
 go_ret
 exact⟨rfl,rfl⟩
/-- A function value that tells a class of bytes, now and later. -/
def FnR (w : World) (v : Value) (p : UInt8 -> Bool) : Prop :=
  ∃ n caps, v = .func (.func n) #[] caps /\ Enters Tryz.prog n /\ ∀ w', Below w.heap.size w w' -> ∀ c : UInt8, Calls Tryz.prog n (#[.int .i32 (c.toNat : Int)] ++ caps) w' λe w'' => e = .returned (.bool (p c)) /\ Below w'.heap.size w' w''
theorem FnR.below {p:UInt8->Bool}(h:FnR w v p)(hb:Below w.heap.size w w'):FnR w' v p:=by
 obtain⟨n,caps,h1,h0,h2⟩:=h
 exact⟨n,caps,h1,h0,λw'' hw=>h2 w'' (Below.Yb hb hw)⟩
theorem Xey (lo hi:Int)(c:UInt8)(a b:Nat)(w:World)(ha:w.cell? ⟨a,0,none⟩=some (.int .i32 lo))(hb:w.cell? ⟨b,0,none⟩=some (.int .i32 hi)):Calls Tryz.prog 213 #[.int .i32 (c.toNat:Int),.pointer (some ⟨a,0,none⟩),.pointer (some ⟨b,0,none⟩)] w λe w'=>e= .returned (.bool (decide (lo<=(c.toNat:Int))&&decide ((c.toNat:Int)<=hi)))/\w=w':=by
 by_cases h:lo<=(c.toNat:Int)
 ·rw[decide_eq_true h];go_enter Tryz.func213,Tryz.ntmps213;go_wp2;go_ret;exact⟨by simp,rfl⟩
 ·rw[decide_eq_false h];have h':(c.toNat:Int)<lo:=by{omega};go_enter Tryz.func213,Tryz.ntmps213;go_wp2;go_ret;exact⟨by simp,rfl⟩
theorem Ju (lo hi:Int)(w:World):Calls Tryz.prog 163 #[.int .i32 lo,.int .i32 hi] w λe w'=>∃a b,e= .returned (.func (.func 213) #[] #[.pointer (some ⟨a,0,none⟩),.pointer (some ⟨b,0,none⟩)])/\Below w.heap.size w w'/\w'.cell? ⟨a,0,none⟩=some (.int .i32 lo)/\w'.cell? ⟨b,0,none⟩=some (.int .i32 hi):=by
 go_enter Tryz.func163,Tryz.ntmps163
 go_wp2
 go_ret
 refine⟨_,_,rfl,Below.Yb (Xw _ _) (Xw _ _),JJ _ (Yi rfl rfl),Yi (by simp) rfl⟩
theorem JQ {lo hi:Int}{a b:Nat}(ha:w.cell? ⟨a,0,none⟩=some (.int .i32 lo))(hb:w.cell? ⟨b,0,none⟩=some (.int .i32 hi)):FnR w (.func (.func 213) #[] #[.pointer (some ⟨a,0,none⟩),.pointer (some ⟨b,0,none⟩)]) (λc=>decide (lo<=(c.toNat:Int))&&decide ((c.toNat:Int)<=hi)):=⟨_,_,rfl,enters_of Tryz.func213 (by kernel_rfl) rfl,λw' hw c=>(Xey lo hi c a b w' (Below.old hw ha) (Below.old hw hb)).mono (λe w''⟨h1,h2⟩=>⟨h1,by subst h2;exact Below.refl _ _⟩)⟩
/-- A row of function values. -/
def JD (w : World) (v : Value) (ps : List (UInt8 -> Bool)) : Prop :=
  ∃ a c, v = .slice a ps.length c /\ ps.length <= 100 /\ (0 < ps.length -> ∃ b o, a = some ⟨b, o, none⟩ /\ ∀ (i : Nat) p, ps[i]? = some p -> ∃ f, w.cell? ⟨b, o + i, none⟩ = some f /\ FnR w f p)
theorem JD.below {ps:List (UInt8->Bool)}(h:JD w v ps)(hb:Below w.heap.size w w'):JD w' v ps:=by
 obtain⟨a,c,h1,h2,h3⟩:=h
 refine⟨a,c,h1,h2,λh0=>?_⟩
 obtain⟨b,o,h4,h5⟩:=h3 h0
 refine⟨b,o,h4,λi p hp=>?_⟩
 obtain⟨f,h6,h7⟩:=h5 i p hp
 exact⟨f,Below.old hb h6,h7.below hb⟩
theorem XbZ (ps:List (UInt8->Bool))(v:Value)(c:UInt8)(g:Nat)(w:World)(hg:w.cell? ⟨g,0,none⟩=some v)(hv:JD w v ps):Calls Tryz.prog 214 #[.int .i32 (c.toNat:Int),.pointer (some ⟨g,0,none⟩)] w λe w'=>e= .returned (.bool (ps.any (λp=>p c)))/\Below w.heap.size w w':=by
 have HV:=Xqh hv
 obtain⟨a,cc,rfl,hl,-⟩:=hv
 go_enter Tryz.func214,Tryz.ntmps214
 go_wp2
 go_loopw [8](λi wr=>∃k:Nat,k<=ps.length/\i= .int .i64 k/\Hid (Below w.heap.size w wr)/\Hid (∀p∈ps.take k,p c=false))(λi _=>ps.length-(intOf i).toNat)
 case atStart=>exact⟨0,Nat.zero_le _,rfl,Xqh (Below.refl _ _),Xqh (by simp)⟩
 case round=>obtain⟨k,hk,rfl,hB,hT⟩:=hrel;clear hg;by_cases hlt:k<ps.length;{obtain⟨p,hp⟩:∃p,ps[k]?=some p:=⟨_,List.getElem?_eq_getElem hlt⟩;obtain⟨a',cc',he,-,h3⟩:=HV.out.below hB.out;obtain⟨b,o,rfl,h5⟩:=h3 (by omega);obtain⟨f,h6,n,caps,rfl,hE,h7⟩:=h5 k p hp;unfold Enters at hE;have hea:a=some ⟨b,o,none⟩:=by{injection he};subst hea;have HC:=Xqh (h7 wr (Below.refl _ _) c);have HP:=Xqh hp;clear he h3 h5 h7 hp;generalize hpc:p c=pc at*;have HPC:=Xqh hpc;clear hpc;cases pc with|true=>{go_wp2_with fail;refine HC.out.mono ?_;rintro e w1⟨rfl,hB1⟩;have HB:=Xqh (Below.Yb hB.out hB1);clear HC hB1;go_wp2;go_ret;exact⟨by rw[List.any_eq_true.2 ⟨p,List.mem_of_getElem? HP.out,HPC.out⟩];try rfl,HB.out⟩}|false=>go_wp2_with fail;refine HC.out.mono ?_;rintro e w1⟨rfl,hB1⟩;have HB:=Xqh (Below.Yb hB.out hB1);have HT2:Hid (∀q∈ps.take (k+1),q c=false):=Xqh (λq hq=>by rw[List.take_add_one,HP.out]at hq;rcases List.mem_append.1 hq with hq|hq;{exact hT.out q hq};·simp at hq;subst hq;exact HPC.out);clear HC hB1;go_wp2;go_roundw;(case rel=>exact⟨k+1,hlt,by go_num,HB,HT2⟩);case measure=>simp[intOf];omega};·have hkl:ps.take k=ps:=List.take_of_length_le (by omega);rw[hkl]at hT;have HF:Hid (ps.any (λp=>p c)=false):=Xqh (by rw[List.any_eq_false];intro p hp;rw[hT.out p hp];decide);clear hT hkl;go_wp2;go_ret;exact⟨by rw[HF.out];try rfl,hB.out⟩
theorem Xb0 (ps:List (UInt8->Bool))(v:Value)(w:World)(hv:JD w v ps):Calls Tryz.prog 164 #[v] w λe w'=>∃g,e= .returned (.func (.func 214) #[] #[.pointer (some ⟨g,0,none⟩)])/\Below w.heap.size w w'/\w'.cell? ⟨g,0,none⟩=some v/\JD w' v ps:=by
 have HV:=Xqh (hv.below (Xw w (.cells #[v] 202)))
 obtain⟨a,cc,rfl,hl,-⟩:=hv
 go_enter Tryz.func164,Tryz.ntmps164
 go_wp2
 go_ret
 exact⟨_,rfl,Xw _ _,Yi rfl rfl,HV.out⟩
theorem Xkk {ps:List (UInt8->Bool)}{g:Nat}(hg:w.cell? ⟨g,0,none⟩=some v)(hv:JD w v ps):FnR w (.func (.func 214) #[] #[.pointer (some ⟨g,0,none⟩)]) (λc=>ps.any (λp=>p c)):=⟨_,_,rfl,enters_of Tryz.func214 (by kernel_rfl) rfl,λw' hw c=>XbZ ps v c g w' (Below.old hw hg) (hv.below hw)⟩
end
section
def Xb1 (b : Bool) : Int := if b then 1 else 0
/-- What an operation of layer 5 does. -/
def Ar.Xo (A : Ar) (x : OpD) : (Int × Int) × Ar :=
  if x.Xa = 21 then ((0, (A.XX x.a x.b x.c).1), (A.XX x.a x.b x.c).2)
  else if x.Xa = 22 then ((0, (A.XX x.a x.b 0).1), (A.XX x.a x.b 0).2)
  else if x.Xa = 23 then ((0, (A.YU x.a x.b x.c).1), (A.YU x.a x.b x.c).2)
  else if x.Xa = 24 then ((0, (A.Zo x.a x.b).1), (A.Zo x.a x.b).2)
  else if x.Xa = 25 then ((0, (A.XR x.a).1), (A.XR x.a).2)
  else if x.Xa = 26 then ((0, (A.Yq x.a x.b).1), (A.Yq x.a x.b).2)
  else if x.Xa = 27 then ((0, (A.YV x.a x.b).1), (A.YV x.a x.b).2)
  else if x.Xa = 28 then A.Y0 x.a x.name
  else if x.Xa = 29 then ((0, (A.YO x.a x.space x.name x.s).1), (A.YO x.a x.space x.name x.s).2)
  else if x.Xa = 30 then ((Xb1 (A.Yy x.a x.space x.name).1.1, (A.Yy x.a x.space x.name).1.2), (A.Yy x.a x.space x.name).2)
  else if x.Xa = 31 then A.Zx x.a x.Xe
  else if x.Xa = 32 then A.Zp A x.a x.b
  else if x.Xa = 33 then ((0, (A.YE x.a x.s).1), (A.YE x.a x.s).2)
  else if x.Xa = 34 then ((0, (A.normalize x.a).1), (A.normalize x.a).2)
  else if x.Xa = 35 then A.split x.a x.b
  else A.step x
theorem XcX {x:OpD}{P:(Int×Int)×Ar->Prop}(h21:x.Xa=21->P ((0,(A.XX x.a x.b x.c).1),(A.XX x.a x.b x.c).2))(h22:x.Xa=22->P ((0,(A.XX x.a x.b 0).1),(A.XX x.a x.b 0).2))(h23:x.Xa=23->P ((0,(A.YU x.a x.b x.c).1),(A.YU x.a x.b x.c).2))(h24:x.Xa=24->P ((0,(A.Zo x.a x.b).1),(A.Zo x.a x.b).2))(h25:x.Xa=25->P ((0,(A.XR x.a).1),(A.XR x.a).2))(h26:x.Xa=26->P ((0,(A.Yq x.a x.b).1),(A.Yq x.a x.b).2))(h27:x.Xa=27->P ((0,(A.YV x.a x.b).1),(A.YV x.a x.b).2))(h28:x.Xa=28->P (A.Y0 x.a x.name))(h29:x.Xa=29->P ((0,(A.YO x.a x.space x.name x.s).1),(A.YO x.a x.space x.name x.s).2))(h30:x.Xa=30->P ((Xb1 (A.Yy x.a x.space x.name).1.1,(A.Yy x.a x.space x.name).1.2),(A.Yy x.a x.space x.name).2))(h31:x.Xa=31->P (A.Zx x.a x.Xe))(h32:x.Xa=32->P (A.Zp A x.a x.b))(h33:x.Xa=33->P ((0,(A.YE x.a x.s).1),(A.YE x.a x.s).2))(h34:x.Xa=34->P ((0,(A.normalize x.a).1),(A.normalize x.a).2))(h35:x.Xa=35->P (A.split x.a x.b))(h0:x.Xa<21\/35<x.Xa->P (A.step x)):P (A.Xo x):=by
 unfold Ar.Xo
 by_cases e21:x.Xa=21
 ·rw[if_pos e21];exact h21 e21
 rw[if_neg e21]
 by_cases e22:x.Xa=22
 ·rw[if_pos e22];exact h22 e22
 rw[if_neg e22]
 by_cases e23:x.Xa=23
 ·rw[if_pos e23];exact h23 e23
 rw[if_neg e23]
 by_cases e24:x.Xa=24
 ·rw[if_pos e24];exact h24 e24
 rw[if_neg e24]
 by_cases e25:x.Xa=25
 ·rw[if_pos e25];exact h25 e25
 rw[if_neg e25]
 by_cases e26:x.Xa=26
 ·rw[if_pos e26];exact h26 e26
 rw[if_neg e26]
 by_cases e27:x.Xa=27
 ·rw[if_pos e27];exact h27 e27
 rw[if_neg e27]
 by_cases e28:x.Xa=28
 ·rw[if_pos e28];exact h28 e28
 rw[if_neg e28]
 by_cases e29:x.Xa=29
 ·rw[if_pos e29];exact h29 e29
 rw[if_neg e29]
 by_cases e30:x.Xa=30
 ·rw[if_pos e30];exact h30 e30
 rw[if_neg e30]
 by_cases e31:x.Xa=31
 ·rw[if_pos e31];exact h31 e31
 rw[if_neg e31]
 by_cases e32:x.Xa=32
 ·rw[if_pos e32];exact h32 e32
 rw[if_neg e32]
 by_cases e33:x.Xa=33
 ·rw[if_pos e33];exact h33 e33
 rw[if_neg e33]
 by_cases e34:x.Xa=34
 ·rw[if_pos e34];exact h34 e34
 rw[if_neg e34]
 by_cases e35:x.Xa=35
 ·rw[if_pos e35];exact h35 e35
 rw[if_neg e35]
 exact h0 (by omega)
def Zj (l : List OpD) : Ar := l.foldl (λA x => (A.Xo x).2) Ar.new
end
section
/-- No node has more than m attributes. -/
def Ar.XB (A : Ar) (m : Nat) : Prop := ∀ n ∈ A.ns, n.Xb.length <= m
theorem Ar.XB.mono {k:Nat}(h:A.XB m)(hk:m<=k):A.XB k:=λn hn=>Nat.le_trans (h n hn) hk
theorem XcY (m:Nat):Ar.new.XB m:=λn hn=>by{simp[Ar.new]at hn}
theorem XcZ (h:A.XB m)(hn:n.Xb.length<=m):(A.add n).XB m:=by
 intro x hx
 rcases List.mem_append.1 hx with hx|hx
 ·exact h x hx
 ·simp at hx;subst hx;exact hn
theorem XgI {α:Type}{f:α->α}{x:α}:∀{l:List α}{i:Nat},x∈l.modify i f->x∈l\/∃y∈l,x=f y
 | [],i,h=>by{simp at h}
 |a::l,0,h=>by{simp at h;rcases h with rfl|h;{exact .inr ⟨a,by simp,rfl⟩};·exact .inl (by simp[h])}
 |a::l,i+1,h=>by{simp at h;rcases h with rfl|h;{exact .inl (by simp)};·rcases XgI h with q|⟨y,q1,q2⟩;{exact .inl (by simp[q])};·exact .inr ⟨y,by simp[q1],q2⟩}
theorem J3 (h:A.XB m)(x:Int){f:Nd->Nd}(hf:∀n,n.Xb.length<=m->(f n).Xb.length<=m):(A.mod x f).XB m:=by
 intro n hn
 rcases XgI hn with hn|⟨y,hy,rfl⟩
 ·exact h n hn
 ·exact hf y (h y hy)
theorem JR (h:A.XB m)(x:Int):(A.cut x).XB m:=by
 unfold Ar.cut
 split
 ·exact h
 ·refine J3 (J3 h _ ?_) _ ?_<;>exact λn hn=>hn
theorem Xb2 (h:A.XB m)(p x c:Int):(A.put p x c).2.XB m:=by
 unfold Ar.put
 split
 ·exact h
 ·refine J3 (A:=(A.cut x).mod p _) (J3 (JR h x) _ ?_) _ ?_<;>exact λn hn=>hn
theorem Xez (h:A.XB m)(q:Bool):(A.Xn q).XB m:=XcZ h (Nat.zero_le _)
theorem XeA (h:A.XB m)(d:Int):(A.Xq d).2.XB m:=by
 unfold Ar.Xq
 split
 ·exact h
 ·exact Xez h false
theorem XgJ (h:A.XB m)(d:Int):(A.YA d).2.XB m:=by
 unfold Ar.YA
 split
 ·exact h
 ·exact XeA h d
theorem JE (h:A.XB m)(d:Int)(hn:n.Xb= []):(A.make d n).2.XB m:=by
 unfold Ar.make
 split
 ·exact h
 ·exact XcZ h (by show n.Xb.length<=m;rw[hn];exact Nat.zero_le _)
theorem XeB (h:A.XB m)(d s:Int)(name:ByteArray)(hl:l.length<=m):(A.element d s name l).2.XB m:=by
 have h1:(A.add (XJ d s name l)).XB m:=XcZ h (Nat.le_trans (Xcz l) hl)
 by_cases he:A.XA d=0
 ·by_cases hs:XS s/\Ys l;{by_cases ht:XN (XJ d s name l);{rw[XaN he hs ht];exact J3 (XcZ (XeA h1 d) (Nat.zero_le _)) _ (λn hn=>hn)};·rw[XaM he hs ht];exact h1};·rw[XaL he hs];exact h
 ·have:A.element d s name l=((0,A.XA d),A):=by{simp[Ar.element,he]};rw[this];exact h
theorem Xb3 (h:A.XB m)(x:Int)(s:ByteArray):(A.XG x s).2.XB m:=by
 unfold Ar.XG
 repeat' split
 all_goals first|(exact h)|exact J3 h _ (λn hn=>hn)
theorem Xkl (h:A.XB m)(x:Int)(q:Bool):(A.YQ x q).2.XB m:=by
 unfold Ar.YQ
 repeat' split
 all_goals first|(exact h)|exact J3 h _ (λn hn=>hn)
theorem XeC (h:A.XB m)(x d:Int):(A.Xt x d).2.XB m:=by
 unfold Ar.Xt
 repeat' split
 all_goals first|(exact h)|exact J3 h _ (λn hn=>hn)
theorem XeD (h:A.XB m)(x:Int)(hl:l.length<=m):(A.X0 x l).2.XB m:=by
 unfold Ar.X0
 repeat' split
 all_goals first|(exact h)|exact J3 h _ (λn hn=>Nat.le_trans (Xcz l) hl)
theorem XeE {m:Nat}:∀(n:Nat){A:Ar}(h d:Int),A.XB m->(adoptF n A h d).XB m
 |0,A,h,d,ht=>JR ht h
 |n+1,A,h,d,ht=>by{unfold adoptF;split;{exact JR ht h};·refine Ze (P:=λB:Ar=>B.XB m) (JR ht h) (λB x hx hB=>?_);unfold Yf;split;{exact XeC hB x d};·exact XeE n _ _ (XeA (XeC hB x d) d)}
theorem Xc0 (h:A.XB m)(p n c:Int):(A.YD p n c).XB m:=Ze (P:=λB:Ar=>B.XB m) h (λB x hx hB=>Xb2 (XeE _ _ _ hB) _ _ _)
theorem Xc1 (h:A.XB m)(p:Int):(A.empty p).XB m:=Ze (P:=λB:Ar=>B.XB m) h (λB x hx hB=>JR hB x)
theorem Xkm (h:A.XB m)(d:Int)(hn:n.Xb.length<=m):(A.Xj d n).2.XB m:=by
 unfold Ar.Xj
 repeat' split
 ·exact Xez h _
 ·exact JE h d rfl
 ·exact JE h d rfl
 ·exact XeB h d _ _ hn
 ·exact JE h d rfl
 ·exact JE h d rfl
 ·exact h
theorem Xc2 (h:C.XB m)(x:Int):(C.get x).Xb.length<=m:=by
 unfold Ar.get
 cases e:C.ns[x.toNat-1]? with|none=>{exact Nat.zero_le _}|some n=>exact h n (List.mem_of_getElem? e)
theorem XeF {C:Ar}{m:Nat}(hC:C.XB m):∀(k:Nat)(deep:Bool){A:Ar}(d h:Int),A.XB m->(dupF C deep k A d h).2.XB m
 |0,deep,A,d,h,ht=>ht
 |k+1,deep,A,d,h,ht=>by{have h1:=Xkm ht d (Xc2 hC h);have step:∀(l:List Int)(d' c:Int)(B:Ar),B.XB m->(l.foldl (XP (λB k'=>dupF C true k B d' k') c) B).XB m:=λl d' c B hB=>Ze (P:=λB:Ar=>B.XB m) hB (λB x hx hB=>Xb2 (XeF hC k true d' x hB) _ _ _);have hmid:∀(P:Prop) [Decidable P](l:List Int)(d' c:Int),(if P then l.foldl (XP (λB k'=>dupF C true k B d' k') c) ((A.Xj d (C.get h)).2.YA d).2 else(A.Xj d (C.get h)).2).XB m:=by{intro P _ l d' c;split;{exact step _ _ _ _ (XgJ h1 d)};·exact h1};unfold dupF;dsimp only;split;{exact step _ _ _ _ (hmid _ _ _ _)};·exact hmid _ _ _ _}
theorem XgK (h:A.XB m)(x:Int):(A.join x).XB m:=by
 have fl:∀s:X8,s.ar.XB m->s.flush.ar.XB m:=λs hs=>by unfold X8.flush;dsimp only;split;{exact Xb3 hs _ _};·exact hs
 refine fl _ (Ze (P:=λs:X8=>s.ar.XB m) h (λs k hk hs=>?_))
 unfold X8.step
 split
 ·exact fl s hs
 ·split;{exact hs};·exact JR hs k
theorem Xkn {α:Type}(l:List α)(i:Nat)(f:α->α):(l.modify i f).length=l.length:=by
 simp
theorem XgL (h:A.XB m)(el s:Int)(name val:ByteArray):(A.JP el s name val).length<=m+1:=by
 have:=Xc2 h el
 unfold Ar.JP
 split
 ·simp;omega
 ·rw[Xkn];omega
theorem Xko (h:A.XB m)(x:OpD)(hx:x.Xb.length<=m):(A.step x).2.XB m:=by
 refine XbS (P:=λr=>r.2.XB m) ?_ ?_ ?_ ?_ ?_ ?_ ?_ ?_ ?_ ?_ ?_ ?_ ?_ ?_<;>intro _
 ·exact Xez h _
 ·exact JE h _ rfl
 ·exact XeB h _ _ _ hx
 ·exact JE h _ rfl
 ·exact JE h _ rfl
 ·exact JE h _ rfl
 ·exact XgJ h _
 ·exact Xb2 h _ _ _
 ·dsimp only;unfold Ar.XR;split;{exact JR h _};·exact h
 ·exact Xb3 h _ _
 ·exact XeD h _ hx
 ·exact Xkl h _ _
 ·exact XeC h _ _
 ·exact h
theorem XeG (h:A.XB m)(x:OpD)(hx:x.Xb.length<=m):(A.Xo x).2.XB (m+1):=by
 have h':=h.mono (Nat.le_succ m)
 refine XcX (P:=λr=>r.2.XB (m+1)) ?_ ?_ ?_ ?_ ?_ ?_ ?_ ?_ ?_ ?_ ?_ ?_ ?_ ?_ ?_ ?_<;>intro _
 ·dsimp only;unfold Ar.XX;split;{exact h'};·exact(Xc0 h _ _ _).mono (Nat.le_succ m)
 ·dsimp only;unfold Ar.XX;split;{exact h'};·exact(Xc0 h _ _ _).mono (Nat.le_succ m)
 ·dsimp only;unfold Ar.YU;split;{split;{exact h'};·exact(Xc0 (JR h _) _ _ _).mono (Nat.le_succ m)};·exact h'
 ·dsimp only;unfold Ar.Zo;split;{split;{exact h'};·exact(JR h _).mono (Nat.le_succ m)};·exact h'
 ·dsimp only;unfold Ar.XR;split;{exact(JR h _).mono (Nat.le_succ m)};·exact h'
 ·dsimp only;unfold Ar.Yq;split;{split;{exact h'};·split;{exact h'};·dsimp only;split;{exact(Xc0 (Xc1 h _) _ _ _).mono (Nat.le_succ m)};·exact(Xc1 h _).mono (Nat.le_succ m)};·exact h'
 ·dsimp only;unfold Ar.YV;split;{split;{exact h'};·exact(XeE _ _ _ h).mono (Nat.le_succ m)};·exact h'
 ·unfold Ar.Y0;split;{exact h'};·split;{exact h'};·exact(XeB h _ _ _ (Nat.zero_le _)).mono (Nat.le_succ m)
 ·dsimp only;unfold Ar.YO;split;{exact h'};·split;{exact h'};·exact XeD h' _ (XgL h _ _ _ _)
 ·dsimp only;unfold Ar.Yy;split;{exact h'};·split;{exact h'};·exact XeD h' _ (Nat.le_trans (List.length_eraseIdx_le _ _) (Nat.le_trans (Xc2 h _) (Nat.le_succ m)))
 ·unfold Ar.Zx;split;{exact(XeF h _ _ _ _ h).mono (Nat.le_succ m)};·exact h'
 ·unfold Ar.Zp;split;{split;{exact h'};·exact(XeF h _ _ _ _ h).mono (Nat.le_succ m)};·exact h'
 ·dsimp only;unfold Ar.YE;split;{exact h'};·split;{exact Xb3 h' _ _};·split;{split;{exact(Xc1 h _).mono (Nat.le_succ m)};·exact(Xb2 (JE (Xc1 h _) _ rfl) _ _ _).mono (Nat.le_succ m)};·exact h'
 ·dsimp only;unfold Ar.normalize;split;{exact(Ze (P:=λB:Ar=>B.XB m) (XgK h _) (λB y hy hB=>XgK hB y)).mono (Nat.le_succ m)};·exact h'
 ·unfold Ar.split;split;{exact h'};·split;{exact h'};·split;{exact h'};·dsimp only;split;{exact Xb2 (Xb3 (JE h' _ rfl) _ _) _ _ _};·exact Xb3 (JE h' _ rfl) _ _
 ·exact(Xko h x hx).mono (Nat.le_succ m)
end
section
theorem Xkp (A:Ar)(d s:Int)(name:ByteArray)(l:List Xm):(A.element d s name l).2.ns.length<=A.ns.length+3:=by
 have:=XgA A ⟨3,d,0,0,false,s,name,ByteArray.empty,ByteArray.empty,l⟩
 simpa[Ar.step]using this
theorem Xkq (hI:A.Inv)(d:Int)(hn:n.Xb.length<=1000):(A.Xj d n).2.Inv:=by
 unfold Ar.Xj
 split
 ·exact Ar.XC.Xn hI _
 split
 ·exact hI.make rfl rfl rfl rfl Xgz (by simp[Zm]) (by simp[Zm])
 split
 ·exact hI.make rfl rfl rfl rfl (Xgx _ _ _) (by simp[YT]) (by simp[YT])
 split
 ·exact hI.element _ _ _ _ hn
 split
 ·exact hI.make rfl rfl rfl rfl (JX _) (by simp[Xs]) (by simp[Xs])
 split
 ·exact hI.make rfl rfl rfl rfl (Xgy _) (by simp[YZ]) (by simp[YZ])
 ·exact hI
/-- What a call leaves that only adds: handles, kinds, Xh documents. -/
structure Ar.YF (A B : Ar) : Prop where
  inv : B.Inv
  has : ∀ x, A.has x -> B.has x
  Xa : ∀ x, A.has x -> (B.get x).Xa = (A.get x).Xa
  Xh : ∀ x, A.Xu x ≠ 0 -> B.Xu x ≠ 0
theorem Ar.YF.refl (h:A.Inv):A.YF A:=⟨h,λ_ h=>h,λ_ _=>rfl,λ_ h=>h⟩
theorem Ar.YF.trans {B:Ar}(h:A.YF B)(k:B.YF C):A.YF C:=⟨k.inv,λx hx=>k.has x (h.has x hx),λx hx=>(k.Xa x (h.has x hx)).trans (h.Xa x hx),λx hx=>k.Xh x (h.Xh x hx)⟩
theorem XeH (hI:A.Inv)(p x c:Int):A.YF (A.put p x c).2:=⟨Ar.Inv.put hI p x c,λy hy=>(XcT hI p x c hy).1,λy hy=>(XcT hI p x c hy).2.1,λy hy=>by unfold Ar.Xu at*;rw[(JO A p x c).1];exact hy⟩
theorem XeI (hA:A.Inv)(hI:(A.add n).Inv):A.YF (A.add n):=⟨hI,λy hy=>(Ar.XO _ _ _).2 (.inl hy),λy hy=>by rw[Ar.Zb n hy],λy hy=>by rw[Ar.JA hA.wf.Xh];exact hy⟩
theorem XeJ (hA:A.Inv)(n:Nd)(d:Int):(A.add n).cap d=A.cap d+1:=by
 unfold Ar.cap
 rw[Ar.JA hA.wf.Xh,JY]
 omega
theorem Xkr (A:Ar)(x:Int)(f:Nd->Nd):(A.mod x f).Xh=A.Xh:=rfl
theorem Xks (hA:A.Inv){d:Int}(hl:l.length<=1000)(hd:A.has d)(hk:(A.get d).Xa=1):A.YF (A.element d s name l).2/\(A.element d s name l).2.cap d<=A.cap d+(if s=1/\name.toList=Xa8 then 2 else 1)/\(XN (XJ d s name l)->XS s/\Ys l->(A.element d s name l).2.Xu d≠0):=by
 have he:A.XA d=0:=by unfold Ar.XA;rw[if_neg (λh=>h hd),if_neg (λh=>h hk)]
 have hinv:=Ar.Inv.element hA d s name l hl
 by_cases hs:XS s/\Ys l
 ·have hI1:(A.add (XJ d s name l)).XC (if XN (XJ d s name l)then A.n+1 else 0):=by{split;{rename_i ht;exact Ar.XC.added hA rfl rfl rfl rfl (XbL hs.1 hs.2 hl) (.inl ⟨hd,hk,by simp[XJ]⟩) (.inr ⟨rfl,rfl⟩)};·rename_i ht;exact Ar.XC.added hA rfl rfl rfl rfl (XbL hs.1 hs.2 hl) (.inl ⟨hd,hk,by simp[XJ]⟩) (.inl ⟨rfl,ht⟩)};by_cases ht:XN (XJ d s name l);{have ht':s=1/\name.toList=Xa8:=⟨ht.2.1,ht.2.2⟩;rw[if_pos ht'];rw[XaN he hs ht]at hinv⊢;dsimp only at hinv⊢;have hd1:(A.add (XJ d s name l)).has d:=(Ar.XO _ _ _).2 (.inl hd);have hwi:(A.add (XJ d s name l)).Xh.length=(A.add (XJ d s name l)).ns.length+1:=hI1.wf.Xh;have hat:=XbV hd1 hwi;have hl2:((A.add (XJ d s name l)).Xq d).2.Xh.length=((A.add (XJ d s name l)).Xq d).2.ns.length+1:=(hI1.Xq hd1).wf.Xh;have hin:∀y,((((A.add (XJ d s name l)).Xq d).2.add (Y7 (A.n+1) ((A.add (XJ d s name l)).Xq d).1)).mod (A.n+1) (λx=>{x with Xg:=((A.add (XJ d s name l)).Xq d).2.n+1})).Xu y=((A.add (XJ d s name l)).Xq d).2.Xu y:=λy=>by{show(((A.add (XJ d s name l)).Xq d).2.add (Y7 (A.n+1) ((A.add (XJ d s name l)).Xq d).1)).Xu y=_;exact Ar.JA hl2 _ y};have hnew:(A.add (XJ d s name l)).has (A.n+1):=(Ar.XO _ _ _).2 (.inr rfl);refine⟨⟨hinv,λy hy=>?_,λy hy=>?_,λy hy=>?_⟩,?_,λ_ _=>?_⟩;{exact(Ar.ZU _ _ _ _).2 ((Ar.XO _ _ _).2 (.inl (Ar.JS ((Ar.XO _ _ _).2 (.inl hy))).2))};{have h1:(A.add (XJ d s name l)).has y:=(Ar.XO _ _ _).2 (.inl hy);have h2:=Ar.JS (d:=d) h1;have h3:=Ar.JS (d:=d) hnew;rw[Ar.Zr _ ((Ar.XO _ _ _).2 (.inl h3.2)) ((Ar.XO _ _ _).2 (.inl h2.2))];have hne:y≠A.n+1:=λe=>Ar.Xba A (e▸hy);rw[if_neg hne,Ar.Zb _ h2.2,h2.1,Ar.Zb _ hy]};{rw[hin];have h1:(A.add (XJ d s name l)).Xu y≠0:=by{rw[Ar.JA hA.wf.Xh];exact hy};unfold Ar.Xq;split;{exact h1};·rename_i q;have hlen:((A.add (XJ d s name l)).Xn false).Xh.length=A.ns.length+3:=by{simp[Ar.Xn,Ar.add,hA.wf.Xh]};have hd1':=hd.1;have hd2':=hd.2;unfold Ar.n at hd2';have hn1:(A.add (XJ d s name l)).n=(A.ns.length:Int)+1:=by{rw[Ar.Xf7];rfl};have e:=Xcv (l:=((A.add (XJ d s name l)).Xn false).Xh) (i:=d.toNat) (j:=((A.add (XJ d s name l)).n+1).toNat) (k:=y.toNat) (v:=(A.add (XJ d s name l)).n+1) (u:=(A.add (XJ d s name l)).n+1) (by omega) (by omega);show((((A.add (XJ d s name l)).Xn false).Xh.set d.toNat ((A.add (XJ d s name l)).n+1)).set ((A.add (XJ d s name l)).n+1).toNat ((A.add (XJ d s name l)).n+1))[y.toNat]?.getD 0≠0;rw[e];split;{omega};·split;{omega};·show((A.add (XJ d s name l)).Xn false).Xu y≠0;rw[Ar.Xn,Ar.JA hwi];exact h1};{have h1:=XcS hd1 hwi;have h2:=XeJ hA (XJ d s name l) d;unfold Ar.cap at h1 h2⊢;rw[hin d,Xaj,JY];omega};·rw[hin];exact hat.2};·rw[if_neg ht]at hI1;rw[XaM he hs ht];refine⟨XeI hA hI1,?_,λh=>absurd h ht⟩;have:=XeJ hA (XJ d s name l) d;dsimp only;split<;>omega
 ·rw[XaL he hs];refine⟨Ar.YF.refl hA,?_,λ_ h=>absurd h hs⟩;dsimp only;split<;>omega
end
section
theorem XgM (hI:A.Inv)(hh:A.has el):JK (A.get el).Xb:=by
 have h:=Xd0 (l:=(A.get el).Xb) (acc:= []) List.Pairwise.nil
 have e:(A.get el).Xb.foldl Y3 []=(A.get el).Xb:=(hI.loc el hh).at2
 rw[e]at h
 exact h
theorem XeK (h:JK l):XZ l=l:=by
 have:=Xd1 (acc:= []) (l:=l) (by simpa using h)
 simpa[XZ]using this
theorem Xb4 (h:A.Yo el s=0):A.has el/\(A.get el).Xa=4/\XS s:=by
 unfold Ar.Yo at h
 by_cases h1:A.has el
 ·rw[if_neg (λq=>q h1)]at h;by_cases h2:(A.get el).Xa=4;{rw[if_neg (λq=>q h2)]at h;by_cases h3:XS s;{exact⟨h1,h2,h3⟩};·rw[if_pos h3]at h;exact absurd h (by decide)};·rw[if_pos h2]at h;exact absurd h (by decide)
 ·rw[if_pos h1]at h;exact absurd h (by decide)
theorem Xkt {α:Type}{p:α->Bool}{l:List α}(h:Yt p l<0):∀x∈l,p x=false:=by
 intro x hx
 have e:=Xd2 p l
 have:decide (0<=Yt p l)=false:=decide_eq_false (by omega)
 rw[this]at e
 have:=(List.any_eq_false.1 e.symm) x hx
 simpa using this
theorem Xku (h:JK l)(i:Nat)(v:ByteArray):JK (l.modify i (λx=>(x.1,x.2.1,v))):=by
 unfold JK at*
 rw[List.pairwise_iff_getElem]at*
 intro a b ha hb hab
 have e:∀(j:Nat)(hj:j<(l.modify i (λx=>(x.1,x.2.1,v))).length),∃hj':j<l.length,((l.modify i (λx=>(x.1,x.2.1,v)))[j]).1=l[j].1/\((l.modify i (λx=>(x.1,x.2.1,v)))[j]).2.1=l[j].2.1:=λj hj=>by have hj':j<l.length:=by{simpa using hj};refine⟨hj',?_⟩;rw[List.getElem_modify];split<;>exact⟨rfl,rfl⟩
 obtain⟨ha',a1,a2⟩:=e a ha
 obtain⟨hb',b1,b2⟩:=e b hb
 have:=h a b ha' hb' hab
 unfold Zl at this⊢
 rw[a1,a2,b1,b2]
 exact this
theorem Xkv (hI:A.Inv)(he:A.Yo el s=0):Ys (A.JP el s name val)/\XZ (A.JP el s name val)=A.JP el s name val:=by
 obtain⟨h1,h2,h3⟩:=Xb4 he
 have hn:=XgM hI h1
 have hs:=(hI.loc el h1).at1
 unfold Ar.JP
 by_cases q:A.Y6 el s name<0
 ·rw[if_pos q];refine⟨λa ha=>?_,XeK ?_⟩;{rcases List.mem_append.1 ha with ha|ha;{exact hs a ha};·simp at ha;rw[ha];exact h3};·unfold JK;rw[List.pairwise_append];refine⟨hn,by simp,λa ha b hb=>?_⟩;simp at hb;subst hb;have:=Xkt q a ha;unfold YW at this;unfold Zl;simp only[decide_eq_false_iff_not]at this⊢;exact λz=>this ⟨z.1.symm,z.2.symm⟩
 ·rw[if_neg q];refine⟨λa ha=>?_,XeK (Xku hn _ _)⟩;obtain⟨j,hj,e⟩:=List.getElem_of_mem ha;rw[List.getElem_modify]at e;have hj':j<(A.get el).Xb.length:=by{simpa using hj};have hm:=hs _ (List.getElem_mem hj');rw[<-e];split;{exact hm};·exact hm
theorem Xkw (hI:A.Inv)(he:A.Yo el s=0)(hv:Jl name.toList=true):A.YO el s name val=(0,A.mod el (λn=>{n with Xb:=A.JP el s name val})):=by
 obtain⟨h1,h2,h3⟩:=Xb4 he
 obtain⟨a1,a2⟩:=Xkv hI (name:=name) (val:=val) he
 unfold Ar.YO
 rw[if_neg (λq=>q he),if_neg (by rw[hv];decide)]
 unfold Ar.X0
 rw[if_neg (λq=>q h1),if_neg (λq=>q h2),if_neg (λq=>q a1),a2]
theorem Xkx (hI:A.Inv)(he:A.Yo el s=0)(hq:¬A.Y6 el s name<0):A.Yy el s name=((true,0),A.mod el (λn=>{n with Xb:=(A.get el).Xb.take (A.Y6 el s name).toNat++(A.get el).Xb.drop ((A.Y6 el s name).toNat+1)})):=by
 obtain⟨h1,h2,h3⟩:=Xb4 he
 have hn:=XgM hI h1
 have hs:=(hI.loc el h1).at1
 unfold Ar.Yy
 rw[if_neg (λq=>q he),if_neg hq,List.eraseIdx_eq_take_drop_succ]
 have a1:Ys ((A.get el).Xb.take (A.Y6 el s name).toNat++(A.get el).Xb.drop ((A.Y6 el s name).toNat+1)):=λa ha=>by rcases List.mem_append.1 ha with ha|ha;{exact hs a (List.mem_of_mem_take ha)};·exact hs a (List.mem_of_mem_drop ha)
 have a2:XZ ((A.get el).Xb.take (A.Y6 el s name).toNat++(A.get el).Xb.drop ((A.Y6 el s name).toNat+1))=(A.get el).Xb.take (A.Y6 el s name).toNat++(A.get el).Xb.drop ((A.Y6 el s name).toNat+1):=XeK (by rw[<-List.eraseIdx_eq_take_drop_succ];exact hn.sublist (List.eraseIdx_sublist _ _))
 unfold Ar.X0
 rw[if_neg (λq=>q h1),if_neg (λq=>q h2),if_neg (λq=>q a1),a2]
end
end Go.Proofs.YtpicinjcmjaogaaGreat
