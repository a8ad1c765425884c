import Derived.WalkKit
import Derived.WalkSpells
import Derived.WalkLawsBesides
import Derived.Lib.Hide
import Derived.RangeFuncNested
import Derived.RangeFuncBound
import Derived.RangeFuncCalls
import Derived.RangeFuncLeaves
set_option maxRecDepth 100000
set_option maxHeartbeats 4000000
set_option linter.unusedVariables false
namespace Go.Proofs.YtpicinjcmjaogaaGreatDoor
theorem Xqh{p:Prop}(h:p):Go.RowKit.Hid p:=h
section
open Go.RowKit
/-- w' is w but for the blocks in F and for new blocks. -/
structure Upd (F : Nat → Prop) (w w' : World) : Prop where
  os : w'.os = w.os
  tape : w'.tape = w.tape
  output : w'.output = w.output
  size : w.heap.size ≤ w'.heap.size
  block : ∀ k, k < w.heap.size → ¬ F k → w'.heap[k]? = w.heap[k]?
theorem Upd.refl (F:Nat→Prop)(w:World):Upd F w w:=⟨rfl,rfl,rfl,Nat.le_refl _,fun _ _ _=>rfl⟩
theorem Upd.trans {F:Nat→Prop}{a b c:World}(h:Upd F a b)(k:Upd F b c):Upd F a c:=⟨k.os.trans h.os,k.tape.trans h.tape,k.output.trans h.output,Nat.le_trans h.size k.size,fun i hi hf=>(k.block i (Nat.lt_of_lt_of_le hi h.size) hf).trans (h.block i hi hf)⟩
theorem Upd.mono {F G:Nat→Prop}{w w':World}(h:Upd F w w')(hs:∀k,k<w.heap.size→F k→G k):Upd G w w':=⟨h.os,h.tape,h.output,h.size,fun k hk hg=>h.block k hk (fun hf=>hg (hs k hk hf))⟩
theorem Upd.below {F:Nat→Prop}{w w':World}(h:Below w.heap.size w w'):Upd F w w':=⟨h.os,h.tape,h.output,h.size,fun k hk _=>h.block k hk⟩
theorem Upd.toBelow {F:Nat→Prop}{w w':World}(h:Upd F w w')(hF:∀k,k<w.heap.size→¬F k):Below w.heap.size w w':=⟨h.os,h.tape,h.output,h.size,fun k hk=>h.block k hk (hF k hk)⟩
theorem Upd.drew {F:Nat→Prop}{a w:World}(h:Upd F a w):Upd F a w.drew:=⟨h.os,h.tape,h.output,h.size,h.block⟩
theorem Upd.drewN {F:Nat→Prop}{a w:World}(h:Upd F a w)(n:Nat):Upd F a (w.drewN n):=⟨h.os,h.tape,h.output,h.size,h.block⟩
theorem Upd.alloc {F:Nat→Prop}{a w:World}(h:Upd F a w)(o:Obj):Upd F a (w.alloc o):=h.trans ⟨rfl,rfl,rfl,by simp,fun k hk _=>Below.heap_alloc _ _ _ hk⟩
theorem Upd.setCell {F:Nat→Prop}{a w:World}(h:Upd F a w){p:Addr}(hp:a.heap.size≤p.block∨F p.block)(u:Value):Upd F a (w.setCell p u):=⟨h.os,h.tape,h.output,by simpa using h.size,fun k hk hf=>by rw[Below.heap_setCell _ _ _ _ (by intro e;subst e;exact hp.elim (fun hp=>by omega) hf)];exact h.block k hk hf⟩
theorem Upd.grown {F:Nat→Prop}{w w':World}{row:Option Nat}(hg:w.grownBy w' row)(hr:∀k,row=some k→F k):Upd F w w':=⟨hg.os,hg.tape,hg.output,hg.size,fun k hk hf=>hg.block k hk (fun e=>hf (hr k e.symm))⟩
theorem Upd.cell {F:Nat→Prop}{w w':World}(h:Upd F w w'){p:Addr}{v:Value}(hv:w.cell? p=some v)(hp:¬F p.block):w'.cell? p=some v:=(World.cell?_of_block (w:=w) (h.block p.block (World.block_lt_of_cell? w _ hv) hp)).trans hv
theorem Upd.free {F:Nat→Prop}{w w':World}(h:Upd F w w'){p:Addr}{x:Bool}(hlt:p.block<w.heap.size)(hv:w.frozen? p=x)(hp:¬F p.block):w'.frozen? p=x:=(World.frozen?_of_block (w:=w) (h.block p.block hlt hp)).trans hv
theorem Below.drewN {B:Nat}{a w:World}(h:Below B a w)(n:Nat):Below B a (w.drewN n):=⟨h.os,h.tape,h.output,h.size,h.block⟩
theorem Below.old {w w':World}(h:Below w.heap.size w w'){p:Addr}{v:Value}(hv:w.cell? p=some v):w'.cell? p=some v:=(h.cell (World.block_lt_of_cell? w _ hv)).trans hv
theorem Below.Yb {w a w':World}(h:Below w.heap.size w a)(k:Below a.heap.size a w'):Below w.heap.size w w':=h.trans (k.mono h.size)
/-- The slice value v has n elements of 'size' cells each, and they read as xs. -/
def ZZ (w : World) (v : Value) (n size : Nat) (xs : List Value) : Prop :=
  xs.length = n * size ∧ ∃ a c, v = .slice a n c ∧ n ≤ c ∧ c ≤ maxLen ∧ (0 < n → ∃ b o, a = some ⟨b, o, none⟩ ∧ ∀ j x, xs[j]? = some x → w.cell? ⟨b, o + j, none⟩ = some x)
theorem ZZ.upd {F:Nat→Prop}{w w':World}{v:Value}{n size:Nat}{xs:List Value}(h:ZZ w v n size xs)(hb:Upd F w w')(hF:∀a m c,v= .slice (some a) m c→¬F a.block):ZZ w' v n size xs:=by
 obtain⟨h1,a,c,h2,h3,h4,h5⟩:=h
 refine⟨h1,a,c,h2,h3,h4,fun hn=>?_⟩
 obtain⟨b,o,h6,h7⟩:=h5 hn
 subst h6
 exact⟨b,o,rfl,fun j x hx=>hb.cell (h7 j x hx) (hF ⟨b,o,none⟩ _ _ h2)⟩
theorem ZZ.below {w w':World}{v:Value}{n size:Nat}{xs:List Value}(h:ZZ w v n size xs)(hb:Below w.heap.size w w'):ZZ w' v n size xs:=h.upd (F:=fun _=>False) (Upd.below hb) (fun _ _ _ _=>id)
def Xp (n : Int) : Value := .int .i64 n
abbrev Xm := Int × ByteArray × ByteArray
def Xv (a : Xm) : List Value := [.int .i64 a.1, .string a.2.1, .string a.2.2]
/-- A slice of ints. -/
def Xy (w : World) (v : Value) (l : List Int) : Prop := ZZ w v l.length 1 (l.map Xp)
/-- A slice of attributes. -/
def XE (w : World) (v : Value) (l : List Xm) : Prop := ZZ w v l.length 3 (l.flatMap Xv)
theorem Xy.below {w w':World}{v:Value}{l:List Int}(h:Xy w v l)(hb:Below w.heap.size w w'):Xy w' v l:=ZZ.below h hb
theorem XE.below {w w':World}{v:Value}{l:List Xm}(h:XE w v l)(hb:Below w.heap.size w w'):XE w' v l:=ZZ.below h hb
theorem Xy.form {w:World}{v:Value}{l:List Int}(h:Xy w v l):∃a c,v= .slice a l.length c∧l.length≤c∧c≤9223372036854775807∧(0<l.length→∃b o,a=some ⟨b,o,none⟩∧∀j,j<l.length→w.cell? ⟨b,o+j,none⟩=some (.int .i64 (l[j]?.getD 0))):=by
 obtain⟨h1,a,c,h2,h3,h4,h5⟩:=h
 refine⟨a,c,h2,h3,h4,fun hn=>?_⟩
 obtain⟨b,o,h6,h7⟩:=h5 hn
 refine⟨b,o,h6,fun j hj=>h7 j _ ?_⟩
 simp[hj,Xp]
theorem XaF {s:Nat}:∀{rows:List (List Value)},(∀r∈rows,r.length=s)→∀(i j:Nat),j<s→rows.flatten[s*i+j]?=(rows[i]?).bind (fun r=>r[j]?)
 | [],_,i,j,_=>by{simp}
 |r::rows,h,i,j,hj=>by{have hr:r.length=s:=h r (by simp);cases i with|zero=>{simp[List.getElem?_append,hr,hj]}|succ i=>have:=XaF (rows:=rows) (fun r hr=>h r (by simp[hr])) i j hj;rw[List.flatten_cons,List.getElem?_append_right (by rw[hr,Nat.mul_succ];omega),hr,show s*(i+1)+j-s=s*i+j from by{rw[Nat.mul_succ];omega},this];simp}
theorem Xcp {s:Nat}(v:Value):∀{rows:List (List Value)},(∀r∈rows,r.length=s)→∀(i j:Nat),j<s→rows.flatten.set (s*i+j) v=(rows.modify i (fun r=>r.set j v)).flatten
 | [],_,i,j,_=>by{simp}
 |r::rows,h,i,j,hj=>by{have hr:r.length=s:=h r (by simp);cases i with|zero=>{simp[hr,hj]}|succ i=>have:=Xcp v (rows:=rows) (fun r hr=>h r (by simp[hr])) i j hj;rw[List.flatten_cons,List.set_append_right _ _ (by rw[hr,Nat.mul_succ];omega),hr,show s*(i+1)+j-s=s*i+j from by{rw[Nat.mul_succ];omega},this];simp}
theorem XdP (l:List Xm):l.flatMap Xv=(l.map Xv).flatten:=by
 simp[List.flatMap]
theorem XdQ {l:List Xm}{i:Nat}{a:Xm}(h:l[i]?=some a)(j:Nat)(hj:j<3):(l.flatMap Xv)[3*i+j]?=(Xv a)[j]?:=by
 rw[XdP,XaF (by intro r hr;simp at hr;obtain⟨x,y,z,_,rfl⟩:=hr;rfl) i j hj]
 simp[h]
theorem XE.form {w:World}{v:Value}{l:List Xm}(h:XE w v l):∃a c,v= .slice a l.length c∧l.length≤c∧c≤9223372036854775807∧(0<l.length→∃b o,a=some ⟨b,o,none⟩∧∀j x,l[j]?=some x→w.cell? ⟨b,o+j*3,none⟩=some (.int .i64 x.1)∧w.cell? ⟨b,o+j*3+1,none⟩=some (.string x.2.1)∧w.cell? ⟨b,o+j*3+2,none⟩=some (.string x.2.2)):=by
 obtain⟨h1,a,c,h2,h3,h4,h5⟩:=h
 refine⟨a,c,h2,h3,h4,fun hn=>?_⟩
 obtain⟨b,o,h6,h7⟩:=h5 hn
 refine⟨b,o,h6,fun j x hx=>⟨?_,?_,?_⟩⟩
 ·have:=h7 (3*j+0) (.int .i64 x.1) (by rw[XdQ hx 0 (by omega)];rfl);rwa[show o+(3*j+0)=o+j*3 from by{omega}]at this
 ·have:=h7 (3*j+1) (.string x.2.1) (by rw[XdQ hx 1 (by omega)];rfl);rwa[show o+(3*j+1)=o+j*3+1 from by{omega}]at this
 ·have:=h7 (3*j+2) (.string x.2.2) (by rw[XdQ hx 2 (by omega)];rfl);rwa[show o+(3*j+2)=o+j*3+2 from by{omega}]at this
/-- A slice value that owns its row, whose block bears the role r. -/
def XT (w : World) (ρ : Nat → Nat) (r : Nat) (e : TypeId) (size : Nat) (v : Value) (n : Nat) (xs : List Value) : Prop :=
  w.ownsRow 0 e size v n xs ∧ ∀ g, v.ownBlock = some g → ρ g = r
theorem XT.reads {w:World}{ρ:Nat→Nat}{r:Nat}{e:TypeId}{size:Nat}{v:Value}{n:Nat}{xs:List Value}(h:XT w ρ r e size v n xs):ZZ w v n size xs:=by
 obtain⟨⟨h1,h2⟩,h3⟩:=h
 refine⟨h1,?_⟩
 rcases h2 with⟨rfl,rfl⟩|⟨g,cap,cur,rfl,_,hg,hn,hc,hs,ht⟩
 ·exact⟨none,0,rfl,Nat.le_refl _,Nat.zero_le _,fun h=>absurd h (by simp)⟩
 ·refine⟨_,cap,rfl,hn,hc,fun _=>⟨g,0,rfl,fun j x hx=>?_⟩⟩;rw[cell_of_row w g _ cur e (0,0) hg];rw[←ht,List.getElem?_take]at hx;split at hx;·{simpa using hx};·simp at hx
theorem XT.upd {F:Nat→Prop}{w w':World}{ρ:Nat→Nat}{r:Nat}{e:TypeId}{size:Nat}{v:Value}{n:Nat}{xs:List Value}(h:XT w ρ r e size v n xs)(hu:Upd F w w')(hF:∀k,ρ k=r→¬F k):XT w' ρ r e size v n xs:=by
 obtain⟨⟨h1,h2⟩,h3⟩:=h
 refine⟨⟨h1,?_⟩,h3⟩
 rcases h2 with h2|⟨g,cap,cur,rfl,hb,hg,hr⟩
 ·exact Or.inl h2
 ·refine Or.inr ⟨g,cap,cur,rfl,hb,?_,hr⟩;rw[hu.block g (lt_of_block hg) (hF g (h3 g rfl))];exact hg
theorem XT.role {w:World}{ρ ρ':Nat→Nat}{r:Nat}{e:TypeId}{size:Nat}{v:Value}{n:Nat}{xs:List Value}(h:XT w ρ r e size v n xs)(hr:∀k,k<w.heap.size→ρ' k=ρ k):XT w ρ' r e size v n xs:=by
 refine⟨h.1,fun g hg=>?_⟩
 rw[hr g ?_]
 exact h.2 g hg
 rcases h.1.2 with⟨rfl,_⟩|⟨g',cap,cur,rfl,_,hg',_⟩
 ·simp[Value.ownBlock]at hg
 ·simp[Value.ownBlock]at hg;subst hg;exact lt_of_block hg'
/-- One description of a node, its slices apart. -/
structure Nd where
  Xa : Int
  Xd : Int
  Xc : List Int
  doc : Int
  space : Int
  name : ByteArray
  Xb : List Xm
  data : ByteArray
  pub : ByteArray
  sys : ByteArray
  XI : Bool
  Xg : Int
  host : Int
def Nd.cells (n : Nd) (kv av : Value) : List Value :=
  [.int .i64 n.Xa, .int .i64 n.Xd, kv, .int .i64 n.doc, .int .i64 n.space, .string n.name, av, .string n.data, .string n.pub, .string n.sys, .bool n.XI, .int .i64 n.Xg, .int .i64 n.host]
def XL : Nd := ⟨0, 0, [], 0, 0, ByteArray.empty, [], ByteArray.empty, ByteArray.empty, ByteArray.empty, false, 0, 0⟩
instance : Inhabited Nd := ⟨XL⟩
/-- Node number i of an arena: its row of cells, the arrays of its lists. -/
def ZP (w : World) (ρ : Nat → Nat) (eA : TypeId) (i : Nat) (n : Nd) (r : List Value) : Prop :=
  ∃ kv av, r = n.cells kv av ∧ XT w ρ (2 * i + 4) 3 1 kv n.Xc.length (n.Xc.map Xp) ∧ XT w ρ (2 * i + 5) eA 3 av n.Xb.length (n.Xb.flatMap Xv)
/-- The slice value nv of nodes. -/
def YX (w : World) (ρ : Nat → Nat) (e eA : TypeId) (nv : Value) (ns : List Nd) : Prop :=
  ∃ rows : List (List Value), XT w ρ 2 e 13 nv ns.length rows.flatten ∧ rows.length = ns.length ∧ ∀ i n, ns[i]? = some n → ∃ r, rows[i]? = some r ∧ ZP w ρ eA i n r
theorem ZP.len {w:World}{ρ:Nat→Nat}{eA:TypeId}{i:Nat}{n:Nd}{r:List Value}(h:ZP w ρ eA i n r):r.length=13:=by
 obtain⟨kv,av,rfl,_⟩:=h
 rfl
theorem ZP.upd {F:Nat→Prop}{w w':World}{ρ:Nat→Nat}{eA:TypeId}{i:Nat}{n:Nd}{r:List Value}(h:ZP w ρ eA i n r)(hu:Upd F w w')(hF:∀k,ρ k=2*i+4∨ρ k=2*i+5→¬F k):ZP w' ρ eA i n r:=by
 obtain⟨kv,av,h1,h2,h3⟩:=h
 exact⟨kv,av,h1,h2.upd hu (fun k hk=>hF k (.inl hk)),h3.upd hu (fun k hk=>hF k (.inr hk))⟩
theorem ZP.role {w:World}{ρ ρ':Nat→Nat}{eA:TypeId}{i:Nat}{n:Nd}{r:List Value}(h:ZP w ρ eA i n r)(hr:∀k,k<w.heap.size→ρ' k=ρ k):ZP w ρ' eA i n r:=by
 obtain⟨kv,av,h1,h2,h3⟩:=h
 exact⟨kv,av,h1,h2.role hr,h3.role hr⟩
theorem YX.XdR {w:World}{ρ:Nat→Nat}{eA:TypeId}{ns:List Nd}{rows:List (List Value)}(hl:rows.length=ns.length)(h:∀i n,ns[i]?=some n→∃r,rows[i]?=some r∧ZP w ρ eA i n r):∀r∈rows,r.length=13:=by
 intro r hr
 obtain⟨i,hi,rfl⟩:=List.getElem_of_mem hr
 obtain⟨r',h1,h2⟩:=h i (ns[i]'(by omega)) (List.getElem?_eq_getElem _)
 rw[List.getElem?_eq_getElem hi]at h1
 simp at h1
 rw[h1]
 exact h2.len
theorem YX.upd {F:Nat→Prop}{w w':World}{ρ:Nat→Nat}{e eA:TypeId}{nv:Value}{ns:List Nd}(h:YX w ρ e eA nv ns)(hu:Upd F w w')(hF:∀k,ρ k≠0→¬F k):YX w' ρ e eA nv ns:=by
 obtain⟨rows,h1,h2,h3⟩:=h
 refine⟨rows,h1.upd hu (fun k hk=>hF k (by omega)),h2,fun i n hn=>?_⟩
 obtain⟨r,h4,h5⟩:=h3 i n hn
 exact⟨r,h4,h5.upd hu (fun k hk=>hF k (by omega))⟩
theorem YX.role {w:World}{ρ ρ':Nat→Nat}{e eA:TypeId}{nv:Value}{ns:List Nd}(h:YX w ρ e eA nv ns)(hr:∀k,k<w.heap.size→ρ' k=ρ k):YX w ρ' e eA nv ns:=by
 obtain⟨rows,h1,h2,h3⟩:=h
 refine⟨rows,h1.role hr,h2,fun i n hn=>?_⟩
 obtain⟨r,h4,h5⟩:=h3 i n hn
 exact⟨r,h4,h5.role hr⟩
theorem ZQ (w:World)(x:Int)(t:TypeId):Xy (w.alloc (.cells #[.int .i64 x] t)) (.slice (some ⟨w.heap.size,0,none⟩) 1 1) [x]:=by
 refine⟨rfl,_,1,rfl,Nat.le_refl _,by unfold maxLen;omega,fun _=>⟨_,_,rfl,fun j y hy=>?_⟩⟩
 rw[Nat.zero_add]
 match j,hy with|0,hy=>simp[Xp]at hy;subst hy;simp
theorem ZR (w:World)(x y:Int)(t:TypeId):Xy (w.alloc (.cells #[.int .i64 x,.int .i64 y] t)) (.slice (some ⟨w.heap.size,0,none⟩) 2 2) [x,y]:=by
 refine⟨rfl,_,2,rfl,Nat.le_refl _,by unfold maxLen;omega,fun _=>⟨_,_,rfl,fun j z hz=>?_⟩⟩
 rw[Nat.zero_add]
 match j,hz with|0,hz=>(simp[Xp]at hz;subst hz;simp)|1,hz=>simp[Xp]at hz;subst hz;simp
theorem Ja (w:World)(o:Obj)(i:Nat)(h:i<w.heap.size):(w.alloc o).heap[i]?=w.heap[i]?:=Below.heap_alloc _ _ _ h
theorem Xw (w:World)(o:Obj):Below w.heap.size w (w.alloc o):=(Below.refl _ w).alloc (Nat.le_refl _) o
theorem str_inj {a b:ByteArray}(h:a.toList=b.toList):a=b:=by
 rw[Go.ByteArray.toList_eq,Go.ByteArray.toList_eq]at h
 exact ByteArray.ext (Array.toList_inj.1 h)
theorem Xa7 (a b:ByteArray):(a.toList==b.toList)=decide (a=b):=by
 rw[Bool.eq_iff_iff]
 simp
 exact⟨str_inj,fun h=>by rw[h]⟩
theorem Xf0 {w:World}{b:Nat}(x:Int)(t:TypeId)(hb:b=w.heap.size):Xy (w.alloc (.cells #[.int .i64 x] t)) (.slice (some ⟨b,0,none⟩) 1 1) [x]:=by
 subst hb
 exact ZQ w x t
theorem Yi {w:World}{b j:Nat}{c:Array Value}{t:TypeId}{v:Value}(hb:b=w.heap.size)(hv:c[j]?=some v):(w.alloc (.cells c t)).cell? ⟨b,j,none⟩=some v:=by
 subst hb
 rw[World.cell?_alloc_new]
 exact hv
theorem JJ {w:World}{a:Addr}{v:Value}(o:Obj)(h:w.cell? a=some v):(w.alloc o).cell? a=some v:=Below.old (Xw w o) h
theorem Z0 {w w':World}{base:Nat}{e:TypeId}{size:Nat}{v:Value}{n:Nat}{xs:List Value}(h:w.ownsRow base e size v n xs)(hu:Below w.heap.size w w'):w'.ownsRow base e size v n xs:=by
 refine⟨h.1,?_⟩
 rcases h.2 with h2|⟨g,cap,cur,rfl,hb,hg,hr⟩
 ·exact Or.inl h2
 ·exact Or.inr ⟨g,cap,cur,rfl,hb,by rw[hu.block g (lt_of_block hg)];exact hg,hr⟩
theorem YP {w:World}{base base':Nat}{e:TypeId}{size:Nat}{v:Value}{n:Nat}{xs:List Value}(h:w.ownsRow base e size v n xs)(hb:base'≤base):w.ownsRow base' e size v n xs:=by
 refine⟨h.1,?_⟩
 rcases h.2 with h2|⟨g,cap,cur,h3,hg,hr⟩
 ·exact Or.inl h2
 ·exact Or.inr ⟨g,cap,cur,h3,Nat.le_trans hb hg,hr⟩
theorem Yx {w:World}{base:Nat}{e:TypeId}{size:Nat}{v:Value}{n:Nat}{xs:List Value}(h:w.ownsRow base e size v n xs):∀k,v.ownBlock=some k→base≤k∧k<w.heap.size:=by
 intro k hk
 rcases h.2 with⟨rfl,_⟩|⟨g,cap,cur,rfl,hg,hb,_⟩
 ·simp[Value.ownBlock]at hk
 ·simp[Value.ownBlock]at hk;subst hk;exact⟨hg,lt_of_block hb⟩
end
section
/-- Nodes (the one of handle h has the index h - 1), and the Xh Xn of each handle, or 0 (the one of handle h has the index h). -/
structure Ar where
  ns : List Nd
  Xh : List Int
def Ar.n (A : Ar) : Int := (A.ns.length : Int)
def Ar.has (A : Ar) (h : Int) : Prop := 1 ≤ h ∧ h ≤ A.n
instance (A : Ar) (h : Int) : Decidable (A.has h) := inferInstanceAs (Decidable (_ ∧ _))
def Ar.get (A : Ar) (h : Int) : Nd := A.ns[(h.toNat - 1)]?.getD XL
def Ar.mod (A : Ar) (h : Int) (f : Nd → Nd) : Ar := { A with ns := A.ns.modify (h.toNat - 1) f }
def Ar.add (A : Ar) (n : Nd) : Ar := { ns := A.ns ++ [n], Xh := A.Xh ++ [0] }
def Ar.new : Ar := { ns := [], Xh := [0] }
def Ar.Xn (A : Ar) (q : Bool) : Ar := A.add { XL with Xa := 1, XI := q, doc := A.n + 1 }
/-- The error of creating a node for d. -/
def Ar.XA (A : Ar) (d : Int) : Int := if ¬ A.has d then 3 else if (A.get d).Xa ≠ 1 then 9 else 0
def Ar.make (A : Ar) (d : Int) (n : Nd) : (Int × Int) × Ar := if A.XA d ≠ 0 then ((0, A.XA d), A) else ((A.n + 1, 0), A.add { n with doc := d })
def Ar.Xu (A : Ar) (d : Int) : Int := A.Xh[d.toNat]?.getD 0
def Ar.Xq (A : Ar) (d : Int) : Int × Ar :=
  if A.Xu d ≠ 0 then (A.Xu d, A)
  else (A.n + 1, { A.Xn false with Xh := ((A.Xn false).Xh.set d.toNat (A.n + 1)).set (A.n + 1).toNat (A.n + 1) })
def Ar.YA (A : Ar) (d : Int) : (Int × Int) × Ar := if A.XA d ≠ 0 then ((0, A.XA d), A) else (((A.Xq d).1, 0), (A.Xq d).2)
def XS (s : Int) : Prop := 0 ≤ s ∧ s ≤ 7
instance (s : Int) : Decidable (XS s) := inferInstanceAs (Decidable (_ ∧ _))
def Ys (l : List Xm) : Prop := ∀ a ∈ l, XS a.1
instance (l : List Xm) : Decidable (Ys l) := inferInstanceAs (Decidable (∀ a ∈ l, _))
def Zl (a b : Xm) : Bool := decide (a.1 = b.1 ∧ a.2.1 = b.2.1)
def Y3 (out : List Xm) (x : Xm) : List Xm := if out.any (fun y => Zl x y) then out else out ++ [x]
def XZ (l : List Xm) : List Xm := l.foldl Y3 []
def Xa8 : List UInt8 := [116, 101, 109, 112, 108, 97, 116, 101]
def XN (n : Nd) : Prop := n.Xa = 4 ∧ n.space = 1 ∧ n.name.toList = Xa8
instance (n : Nd) : Decidable (XN n) := inferInstanceAs (Decidable (_ ∧ _ ∧ _))
/-- A new element: the node Xj; behind it, for a template, the Xh Xn (if there is none) and the Xg. -/
def Ar.element (A : Ar) (d s : Int) (name : ByteArray) (l : List Xm) : (Int × Int) × Ar :=
  if A.XA d ≠ 0 then ((0, A.XA d), A)
  else if ¬ (XS s ∧ Ys l) then ((0, 2), A)
  else
    let nd : Nd := { XL with Xa := 4, doc := d, space := s, name := name, Xb := XZ l }
    let A1 := A.add nd
    if XN nd then
      let A2 := (A1.Xq d).2
      let A3 := A2.add { XL with Xa := 2, host := A.n + 1, doc := (A1.Xq d).1 }
      ((A.n + 1, 0), A3.mod (A.n + 1) (fun x => { x with Xg := A2.n + 1 }))
    else ((A.n + 1, 0), A1)
/-- The Xd of a node, or its host, or 0. -/
def Ar.up (A : Ar) (h : Int) : Int := if (A.get h).Xd ≠ 0 then (A.get h).Xd else (A.get h).host
/-- l is the way up from h. -/
def Ar.Way (A : Ar) (up : Int → Int) : Int → List Int → Prop
  | h, [] => h = 0
  | h, x :: l => x = h ∧ A.has h ∧ A.Way up (up h) l
def XQ (l : List Int) (k : Int) : List Int := l.filter (fun x => x ≠ k)
/-- The list with a node before another one, or last. -/
def YK (l : List Int) (node before : Int) : List Int :=
  (l.flatMap fun x => if x = before then [node, x] else [x]) ++ (if before = 0 then [node] else [])
def Ar.cut (A : Ar) (h : Int) : Ar :=
  if (A.get h).Xd = 0 then A
  else (A.mod (A.get h).Xd (fun x => { x with Xc := XQ x.Xc h })).mod h (fun x => { x with Xd := 0 })
def Ar.XR (A : Ar) (h : Int) : Int × Ar := if A.has h then (0, A.cut h) else (3, A)
/-- The error of Put; c tells whether the node contains the Xd. -/
def Ar.allowed (A : Ar) (Xd node before : Int) (c : Bool) : Int :=
  if ¬ A.has Xd ∨ ¬ A.has node ∨ (before ≠ 0 ∧ ¬ A.has before) then 3
  else if ¬ ((A.get Xd).Xa = 1 ∨ (A.get Xd).Xa = 2 ∨ (A.get Xd).Xa = 4) then 4
  else if (A.get node).Xa = 1 ∨ (A.get node).Xa = 2 ∨ c = true then 4
  else if before ≠ 0 ∧ (before = node ∨ (A.get before).Xd ≠ Xd) then 5
  else 0
def Ar.place (A : Ar) (Xd node before : Int) : Ar :=
  ((A.cut node).mod Xd (fun x => { x with Xc := YK x.Xc node before })).mod node (fun x => { x with Xd := Xd })
def Ar.XG (A : Ar) (h : Int) (s : ByteArray) : Int × Ar :=
  if ¬ A.has h then (3, A) else if ¬ ((A.get h).Xa = 5 ∨ (A.get h).Xa = 6) then (9, A) else (0, A.mod h (fun x => { x with data := s }))
def Ar.X0 (A : Ar) (h : Int) (l : List Xm) : Int × Ar :=
  if ¬ A.has h then (3, A) else if (A.get h).Xa ≠ 4 then (9, A) else if ¬ Ys l then (2, A) else (0, A.mod h (fun x => { x with Xb := XZ l }))
def Ar.YQ (A : Ar) (h : Int) (q : Bool) : Int × Ar :=
  if ¬ A.has h then (3, A) else if (A.get h).Xa ≠ 1 then (9, A) else (0, A.mod h (fun x => { x with XI := q }))
def Ar.Xt (A : Ar) (h d : Int) : Int × Ar :=
  if ¬ A.has h ∨ ¬ A.has d then (3, A) else if (A.get h).Xa = 1 ∨ (A.get d).Xa ≠ 1 then (9, A) else (0, A.mod h (fun x => { x with doc := d }))
end
section
open Go.RowKit
def Yj (L : List (Int × Int)) : Array MapEntry := (L.mapIdx (fun i p => { key := Xp p.1, val := Xp p.2, born := i })).toArray
/-- The map of the Xh documents. -/
def Jb (w : World) (ρ : Nat → Nat) (mv : Value) (I : List Int) : Prop :=
  ∃ L : List (Int × Int), (∀ k : Int, L.lookup k = if 1 ≤ k ∧ I[k.toNat]?.getD 0 ≠ 0 then some (I[k.toNat]?.getD 0) else none) ∧ (L.map Prod.fst).Nodup ∧
    ((mv = .map none ∧ L = []) ∨ ∃ mb, mv = .map (some mb) ∧ ρ mb = 3 ∧ w.heap[mb]? = some (.map (Yj L) L.length))
/-- The program's arena, at the head of block b. -/
def Xz (w : World) (ρ : Nat → Nat) (b : Nat) (A : Ar) : Prop :=
  (∀ k, ρ k ≠ 0 → k < w.heap.size) ∧ ρ b = 1 ∧ A.Xh.length = A.ns.length + 1 ∧
    ∃ nv mv, w.heap[b]? = some (.cells #[nv, mv] 72 (0, 0)) ∧ YX w ρ 74 120 nv A.ns ∧ Jb w ρ mv A.Xh
/-- What a call on an arena leaves: other blocks as they were; the roles of the old blocks. -/
structure Xr (ρ ρ' : Nat → Nat) (w w' : World) : Prop where
  upd : Upd (fun k => ρ k ≠ 0) w w'
  role : ∀ k, k < w.heap.size → ρ' k = ρ k
theorem Xr.refl (ρ:Nat→Nat)(w:World):Xr ρ ρ w w:=⟨Upd.refl _ _,fun _ _=>rfl⟩
theorem Xr.trans {ρ ρ' ρ'':Nat→Nat}{a b c:World}(h:Xr ρ ρ' a b)(k:Xr ρ' ρ'' b c):Xr ρ ρ'' a c:=⟨⟨k.upd.os.trans h.upd.os,k.upd.tape.trans h.upd.tape,k.upd.output.trans h.upd.output,Nat.le_trans h.upd.size k.upd.size,fun i hi hf=>(k.upd.block i (Nat.lt_of_lt_of_le hi h.upd.size) (by rw[h.role i hi];exact hf)).trans (h.upd.block i hi hf)⟩,fun i hi=>(k.role i (Nat.lt_of_lt_of_le hi h.upd.size)).trans (h.role i hi)⟩
theorem Xr.below {ρ:Nat→Nat}{w w':World}(h:Below w.heap.size w w'):Xr ρ ρ w w':=⟨Upd.below h,fun _ _=>rfl⟩
theorem Jb.upd {F:Nat→Prop}{w w':World}{ρ:Nat→Nat}{mv:Value}{I:List Int}(h:Jb w ρ mv I)(hu:Upd F w w')(hF:∀k,ρ k=3→¬F k):Jb w' ρ mv I:=by
 obtain⟨L,h1,h2,h3⟩:=h
 refine⟨L,h1,h2,?_⟩
 rcases h3 with h3|⟨mb,h4,h5,h6⟩
 ·exact .inl h3
 ·exact .inr ⟨mb,h4,h5,by rw[hu.block mb (lt_of_block h6) (hF mb h5)];exact h6⟩
theorem Jb.role {w:World}{ρ ρ':Nat→Nat}{mv:Value}{I:List Int}(h:Jb w ρ mv I)(hr:∀k,k<w.heap.size→ρ' k=ρ k):Jb w ρ' mv I:=by
 obtain⟨L,h1,h2,h3⟩:=h
 refine⟨L,h1,h2,?_⟩
 rcases h3 with h3|⟨mb,h4,h5,h6⟩
 ·exact .inl h3
 ·exact .inr ⟨mb,h4,by rw[hr mb (lt_of_block h6)];exact h5,h6⟩
theorem Xz.upd {F:Nat→Prop}{w w':World}{ρ:Nat→Nat}{b:Nat}{A:Ar}(h:Xz w ρ b A)(hu:Upd F w w')(hF:∀k,ρ k≠0→¬F k):Xz w' ρ b A:=by
 obtain⟨h1,h2,h3,nv,mv,h4,h5,h6⟩:=h
 exact⟨fun k hk=>Nat.lt_of_lt_of_le (h1 k hk) hu.size,h2,h3,nv,mv,by rw[hu.block b (lt_of_block h4) (hF b (by omega))];exact h4,h5.upd hu hF,h6.upd hu (fun k hk=>hF k (by omega))⟩
theorem Xz.below {w w':World}{ρ:Nat→Nat}{b:Nat}{A:Ar}(h:Xz w ρ b A)(hu:Below w.heap.size w w'):Xz w' ρ b A:=h.upd (F:=fun _=>False) (Upd.below hu) (fun _ _=>id)
/-- The cells of one node at an offset. -/
structure YB (w : World) (nb o : Nat) (n : Nd) (kv av : Value) : Prop where
  c0 : w.cell? ⟨nb, o, none⟩ = some (.int .i64 n.Xa)
  c1 : w.cell? ⟨nb, o + 1, none⟩ = some (.int .i64 n.Xd)
  c2 : w.cell? ⟨nb, o + 2, none⟩ = some kv
  c3 : w.cell? ⟨nb, o + 3, none⟩ = some (.int .i64 n.doc)
  c4 : w.cell? ⟨nb, o + 4, none⟩ = some (.int .i64 n.space)
  c5 : w.cell? ⟨nb, o + 5, none⟩ = some (.string n.name)
  c6 : w.cell? ⟨nb, o + 6, none⟩ = some av
  c7 : w.cell? ⟨nb, o + 7, none⟩ = some (.string n.data)
  c8 : w.cell? ⟨nb, o + 8, none⟩ = some (.string n.pub)
  c9 : w.cell? ⟨nb, o + 9, none⟩ = some (.string n.sys)
  c10 : w.cell? ⟨nb, o + 10, none⟩ = some (.bool n.XI)
  c11 : w.cell? ⟨nb, o + 11, none⟩ = some (.int .i64 n.Xg)
  c12 : w.cell? ⟨nb, o + 12, none⟩ = some (.int .i64 n.host)
theorem YB.upd {F:Nat→Prop}{w w':World}{nb o:Nat}{n:Nd}{kv av:Value}(h:YB w nb o n kv av)(hu:Upd F w w')(hF:¬F nb):YB w' nb o n kv av:=⟨hu.cell h.c0 hF,hu.cell h.c1 hF,hu.cell h.c2 hF,hu.cell h.c3 hF,hu.cell h.c4 hF,hu.cell h.c5 hF,hu.cell h.c6 hF,hu.cell h.c7 hF,hu.cell h.c8 hF,hu.cell h.c9 hF,hu.cell h.c10 hF,hu.cell h.c11 hF,hu.cell h.c12 hF⟩
theorem YB.below {w w':World}{nb o:Nat}{n:Nd}{kv av:Value}(h:YB w nb o n kv av)(hu:Below w.heap.size w w'):YB w' nb o n kv av:=h.upd (F:=fun _=>False) (Upd.below hu) id
theorem YX.head {w:World}{ρ:Nat→Nat}{e eA:TypeId}{nv:Value}{ns:List Nd}(h:YX w ρ e eA nv ns):∃a c,nv= .slice a ns.length c∧ns.length≤c∧c≤9223372036854775807∧(0<ns.length→∃nb,a=some ⟨nb,0,none⟩∧ρ nb=2∧nb<w.heap.size∧(∀j,w.frozen? ⟨nb,j,none⟩=false)∧∀i n,ns[i]?=some n→∃kv av,YB w nb (i*13) n kv av∧XT w ρ (2*i+4) 3 1 kv n.Xc.length (n.Xc.map Xp)∧XT w ρ (2*i+5) eA 3 av n.Xb.length (n.Xb.flatMap Xv)):=by
 obtain⟨rows,h1,h2,h3⟩:=h
 have h13:=YX.XdR h2 h3
 obtain⟨⟨h4,h5⟩,h6⟩:=h1
 rcases h5 with⟨h7,h8⟩|⟨g,cap,cur,h7,_,hg,hn,hc,hs,ht⟩
 ·exact⟨none,0,by rw[h7,h8],by omega,by omega,fun h=>by omega⟩
 ·refine⟨_,cap,h7,hn,hc,fun _=>⟨g,rfl,h6 g (by rw[h7];rfl),lt_of_block hg,fun j=>frozen_of_row w g j cur e hg,fun i n hi=>?_⟩⟩;obtain⟨r,hr,kv,av,hrc,hk,ha⟩:=h3 i n hi;have key:∀j v,j<13→(n.cells kv av)[j]?=some v→w.cell? ⟨g,i*13+j,none⟩=some v:=fun j v hj hv=>by{rw[cell_of_row w g _ cur e (0,0) hg];have hlt:13*i+j<rows.flatten.length:=by{have h0:=XaF h13 i j hj;rw[hr,hrc]at h0;simp only[Option.bind_some,hv]at h0;exact(List.getElem?_eq_some_iff.1 h0).1};have h0:=XaF h13 i j hj;rw[hr,hrc,Option.bind_some,hv,←ht,List.getElem?_take]at h0;split at h0;·{rw[show i*13+j=13*i+j from by{omega}];simpa using h0};·simp at h0};exact⟨kv,av,⟨key 0 _ (by omega) rfl,key 1 _ (by omega) rfl,key 2 _ (by omega) rfl,key 3 _ (by omega) rfl,key 4 _ (by omega) rfl,key 5 _ (by omega) rfl,key 6 _ (by omega) rfl,key 7 _ (by omega) rfl,key 8 _ (by omega) rfl,key 9 _ (by omega) rfl,key 10 _ (by omega) rfl,key 11 _ (by omega) rfl,key 12 _ (by omega) rfl⟩,hk,ha⟩
theorem Ar.get_some {A:Ar}{h:Int}(hh:A.has h):A.ns[(h.toNat-1)]?=some (A.get h):=by
 obtain⟨h1,h2⟩:=hh
 unfold Ar.n at h2
 have:(h.toNat-1)<A.ns.length:=by omega
 simp[Ar.get,this]
theorem Xz.head {w:World}{ρ:Nat→Nat}{b:Nat}{A:Ar}(h:Xz w ρ b A):∃a c mv,w.cell? ⟨b,0,none⟩=some (.slice a A.ns.length c)∧w.cell? ⟨b,1,none⟩=some mv∧(∀j,w.frozen? ⟨b,j,none⟩=false)∧b<w.heap.size∧(A.ns.length:Int)≤9223372036854775807∧(0<A.ns.length→∃nb,a=some ⟨nb,0,none⟩∧ρ nb=2∧nb<w.heap.size∧(∀j,w.frozen? ⟨nb,j,none⟩=false)∧∀x,A.has x→∃kv av,YB w nb ((x.toNat-1)*13) (A.get x) kv av∧XT w ρ (2*(x.toNat-1)+4) 3 1 kv (A.get x).Xc.length ((A.get x).Xc.map Xp)∧XT w ρ (2*(x.toNat-1)+5) 120 3 av (A.get x).Xb.length ((A.get x).Xb.flatMap Xv)):=by
 obtain⟨h1,h2,h3,nv,mv,h4,h5,h6⟩:=h
 obtain⟨a,c,rfl,h7,h8,h9⟩:=h5.head
 refine⟨a,c,mv,?_,?_,fun j=>frozen_of_row w b j _ _ h4,lt_of_block h4,by omega,fun hp=>?_⟩
 ·rw[cell_of_row w b _ _ _ _ h4];rfl
 ·rw[cell_of_row w b _ _ _ _ h4];rfl
 ·obtain⟨nb,ha,hr,hl,hf,hN⟩:=h9 hp;exact⟨nb,ha,hr,hl,hf,fun x hx=>hN _ _ (Ar.get_some hx)⟩
end
section
open Go.RowKit
theorem Z1 (w:World)(a:Addr)(v:Value)(k:Nat)(h:k≠a.block):(w.setCell a v).heap[k]?=w.heap[k]?:=Below.heap_setCell w a v k h
theorem Xf1 {w:World}{b:Nat}{x y z:Value}{t:TypeId}(h:w.heap[b]?=some (.cells #[x,y] t (0,0))):(w.setCell ⟨b,0,none⟩ z).heap[b]?=some (.cells #[z,y] t (0,0)):=by
 simp[World.setCell,Array.getElem?_modify,h]
theorem Xf2 {w:World}{b:Nat}{x y z:Value}{t:TypeId}(h:w.heap[b]?=some (.cells #[x,y] t (0,0))):(w.setCell ⟨b,1,none⟩ z).heap[b]?=some (.cells #[x,z] t (0,0)):=by
 simp[World.setCell,Array.getElem?_modify,h]
theorem ZS {F:Nat→Prop}{w w':World}{base:Nat}{e:TypeId}{size:Nat}{v:Value}{n:Nat}{xs:List Value}(h:w.ownsRow base e size v n xs)(hu:Upd F w w')(hF:∀k,v.ownBlock=some k→¬F k):w'.ownsRow base e size v n xs:=by
 refine⟨h.1,?_⟩
 rcases h.2 with h2|⟨g,cap,cur,rfl,hb,hg,hr⟩
 ·exact Or.inl h2
 ·exact Or.inr ⟨g,cap,cur,rfl,hb,by rw[hu.block g (lt_of_block hg) (hF g rfl)];exact hg,hr⟩
theorem Xz.XdS {w:World}{ρ:Nat→Nat}{b:Nat}{A:Ar}(h:Xz w ρ b A)(g r:Nat)(hg:ρ g=0)(hlt:g<w.heap.size):Xz w (fun k=>if k=g then r else ρ k) b A:=by
 have key:∀k r',r'≠0→ρ k=r'→(if k=g then r else ρ k)=r':=fun k r' hr' hk=>by rw[if_neg (by intro e;subst e;omega)];exact hk
 have hown:∀{r' e size v n xs},r'≠0→XT w ρ r' e size v n xs→XT w (fun k=>if k=g then r else ρ k) r' e size v n xs:=fun hr' ho=>⟨ho.1,fun k hk=>key k _ hr' (ho.2 k hk)⟩
 obtain⟨h1,h2,h3,nv,mv,h4,⟨rows,h5,h6,h7⟩,L,h8,h9,h10⟩:=h
 refine⟨fun k hk=>?_,key b 1 (by omega) h2,h3,nv,mv,h4,⟨rows,hown (by omega) h5,h6,fun i n hn=>?_⟩,L,h8,h9,?_⟩
 ·dsimp only at hk;split at hk;·{rename_i e;rw[e];exact hlt};·exact h1 k hk
 ·obtain⟨r',hr',kv,av,hrc,hk,ha⟩:=h7 i n hn;exact⟨r',hr',kv,av,hrc,hown (by omega) hk,hown (by omega) ha⟩
 ·rcases h10 with h10|⟨mb,h11,h12,h13⟩;·{exact .inl h10};·exact .inr ⟨mb,h11,key mb 3 (by omega) h12,h13⟩
theorem Xz.added {w w1 w':World}{ρ:Nat→Nat}{b:Nat}{A:Ar}{n:Nd}{nv mv av:Value}{rows:List (List Value)}{gg cap:Nat}(h1:∀k,ρ k≠0→k<w.heap.size)(h2:ρ b=1)(h3:A.Xh.length=A.ns.length+1)(h4:w.heap[b]?=some (.cells #[nv,mv] 72 (0,0)))(hrole:∀g,nv.ownBlock=some g→ρ g=2)(hrl:rows.length=A.ns.length)(hrows:∀i n,A.ns[i]?=some n→∃r,rows[i]?=some r∧ZP w ρ 120 i n r)(hmap:Jb w ρ mv A.Xh)(hk:n.Xc= [])(hav:XT w ρ (2*A.ns.length+5) 120 3 av n.Xb.length (n.Xb.flatMap Xv))(hU:Upd (fun k=>nv.ownBlock=some k) w w1)(hown:w1.ownsRow 0 74 13 (.slice (some ⟨gg,0,none⟩) (A.ns.length+1) cap) (A.ns.length+1) (rows.flatten++n.cells (.slice none 0 0) av))(hat:nv.ownBlock=some gg∨w.heap.size≤gg)(hgl:gg<w1.heap.size)(hw':w'.heap=(w1.setCell ⟨b,0,none⟩ (.slice (some ⟨gg,0,none⟩) (A.ns.length+1) cap)).heap)(hos:w'.os=w1.os)(htp:w'.tape=w1.tape)(hout:w'.output=w1.output):∃ρ',Xz w' ρ' b (A.add n)∧Xr ρ ρ' w w':=by
 have hbl:=lt_of_block h4
 have hgb:gg≠b:=by intro e;subst e;rcases hat with hat|hat;·{have:=hrole _ hat;omega};·omega
 have hnb:nv.ownBlock≠some b:=fun e=>by have:=hrole b e;omega
 have hU':Upd (fun k=>k=b∨ρ k=2) w w':=by refine⟨hos.trans hU.os,htp.trans hU.tape,hout.trans hU.output,by rw[hw'];simpa using hU.size,fun k hk hf=>?_⟩;rw[hw',Z1 _ _ _ _ (fun e=>hf (.inl e))];exact hU.block k hk (fun e=>hf (.inr (hrole k e)))
 have hr':∀k,k<w.heap.size→(if k=gg then 2 else ρ k)=ρ k:=fun k hk=>by split;·{rename_i e;subst e;rcases hat with hat|hat;·{exact(hrole _ hat).symm};·omega};·rfl
 have hF:∀k r,(fun k=>if k=gg then 2 else ρ k) k=r→3≤r→¬(k=b∨ρ k=2):=by intro k r hr h3 hf;dsimp only at hr;rcases hf with rfl|q4;·{rw[if_neg (Ne.symm hgb)]at hr;omega};·split at hr<;>omega
 refine⟨fun k=>if k=gg then 2 else ρ k,⟨fun k hk=>?_,?_,by simp[Ar.add,h3],.slice (some ⟨gg,0,none⟩) (A.ns.length+1) cap,mv,?_,⟨rows++ [n.cells (.slice none 0 0) av],⟨?_,?_⟩,by simp[Ar.add,hrl],?_⟩,?_⟩,⟨hU'.mono (fun k _ hf=>?_),hr'⟩⟩
 ·dsimp only at hk;split at hk;·{rename_i e;rw[e,hw'];simpa using hgl};·exact Nat.lt_of_lt_of_le (h1 k hk) hU'.size
 ·exact(hr' b hbl).trans h2
 ·rw[hw'];exact Xf1 ((hU.block b hbl (fun e=>hnb e)).trans h4)
 ·have:w'.ownsRow 0 74 13 (.slice (some ⟨gg,0,none⟩) (A.ns.length+1) cap) (A.ns.length+1) (rows.flatten++n.cells (.slice none 0 0) av):=by{refine⟨hown.1,?_⟩;rcases hown.2 with⟨h,_⟩|⟨g,c',cur,hv,hb,hg,hrest⟩;·{simp at h};·refine .inr ⟨g,c',cur,hv,hb,?_,hrest⟩;simp at hv;rw[hw',Z1 _ _ _ _ (by rw[←hv.1];exact hgb)];exact hg};simpa[Ar.add,List.flatten_append]using this
 ·intro g hg;simp[Value.ownBlock]at hg;simp[hg]
 ·intro i m hm;simp only[Ar.add,List.getElem?_append]at hm;split at hm;·{rename_i hi;obtain⟨r,hr,hM⟩:=hrows i m hm;exact⟨r,by rw[List.getElem?_append_left (by omega)];exact hr,(hM.role hr').upd hU' (fun k hk=>by rcases hk with hk|hk<;>exact hF k _ hk (by omega))⟩};·rename_i hi;have hi':i=A.ns.length:=by{have:=(List.getElem?_eq_some_iff.1 hm).1;simp at this;omega};subst hi';simp at hm;subst hm;refine⟨n.cells (.slice none 0 0) av,by rw[←hrl];simp,.slice none 0 0,av,rfl,by rw[hk];exact⟨World.ownsRow_nil _ _ _ _,fun g hg=>by simp[Value.ownBlock]at hg⟩,(hav.role hr').upd hU' (fun k hk=>hF k _ hk (by omega))⟩
 ·obtain⟨L,m1,m2,m3⟩:=(hmap.role hr').upd hU' (fun k hk=>hF k _ hk (by omega));refine⟨L,fun k=>?_,m2,m3⟩;rw[m1 k];have:(A.add n).Xh[k.toNat]?.getD 0=A.Xh[k.toNat]?.getD 0:=by{simp only[Ar.add,List.getElem?_append];split;·{rfl};·rename_i hge;rw[List.getElem?_eq_none (l:=A.Xh) (by omega)];cases h: [(0:Int)][k.toNat-A.Xh.length]? with|none=>{rfl}|some x=>have:=List.mem_of_getElem? h;simp at this;simp[this]};rw[this]
 ·rcases hf with rfl|hf<;>omega
theorem XbI {w:World}{base:Nat}{e:TypeId}{size:Nat}{g n cap:Nat}{xs:List Value}(h:w.ownsRow base e size (.slice (some ⟨g,0,none⟩) n cap) n xs)(j:Nat)(v:Value):(w.setCell ⟨g,j,none⟩ v).ownsRow base e size (.slice (some ⟨g,0,none⟩) n cap) n (xs.set j v):=by
 refine⟨by simpa using h.1,?_⟩
 rcases h.2 with⟨h2,_⟩|⟨g',cap',cur,hv,hb,hg,hn,hc,hs,ht⟩
 ·simp at h2
 ·simp at hv;obtain⟨rfl,rfl⟩:=hv;refine .inr ⟨g,cap,cur.setIfInBounds j v,rfl,hb,?_,hn,hc,by simpa using hs,?_⟩;·{simp[World.setCell,Array.getElem?_modify,hg]};·rw[Array.toList_setIfInBounds,List.take_set,ht]
theorem Xz.store {w w1:World}{ρ ρ':Nat→Nat}{b:Nat}{A:Ar}{x:Int}{f:Nd→Nd}{j nb c:Nat}{v:Value}(hA:Xz w ρ b A)(hx:A.has x)(hc0:w.cell? ⟨b,0,none⟩=some (.slice (some ⟨nb,0,none⟩) A.ns.length c))(hU:Upd (fun k=>ρ k=2*(x.toNat-1)+4∨ρ k=2*(x.toNat-1)+5) w w1)(hr:∀k,k<w.heap.size→ρ' k=ρ k)(hb:∀k,ρ' k≠0→k<w1.heap.size)(hj:j<13)(hM:∀kv av,XT w ρ (2*(x.toNat-1)+4) 3 1 kv (A.get x).Xc.length ((A.get x).Xc.map Xp)→XT w ρ (2*(x.toNat-1)+5) 120 3 av (A.get x).Xb.length ((A.get x).Xb.flatMap Xv)→w.cell? ⟨nb,(x.toNat-1)*13+2,none⟩=some kv→w.cell? ⟨nb,(x.toNat-1)*13+6,none⟩=some av→ZP w1 ρ' 120 (x.toNat-1) (f (A.get x)) (((A.get x).cells kv av).set j v)):Xz (w1.setCell ⟨nb,(x.toNat-1)*13+j,none⟩ v) ρ' b (A.mod x f):=by
 have hget:=Ar.get_some hx
 have hilt:x.toNat-1<A.ns.length:=(List.getElem?_eq_some_iff.1 hget).1
 obtain⟨h1,h2,h3,nv,mv,h4,⟨rows,⟨h5,h6⟩,h7,h8⟩,hmap⟩:=hA
 rw[cell_of_row w b _ _ _ _ h4]at hc0
 simp at hc0
 subst hc0
 have hnb:ρ nb=2:=h6 nb rfl
 have hbl:=lt_of_block h4
 have hnbl:nb<w.heap.size:=(Yx h5 nb rfl).2
 have hbn:nb≠b:=by intro e;rw[e]at hnb;omega
 have h13:=YX.XdR h7 h8
 have hU2:Upd (fun k=>ρ' k=2*(x.toNat-1)+4∨ρ' k=2*(x.toNat-1)+5∨k=nb) w (w1.setCell ⟨nb,(x.toNat-1)*13+j,none⟩ v):=by refine⟨hU.os,hU.tape,hU.output,by simpa using hU.size,fun k hk hf=>?_⟩;rw[Z1 _ _ _ _ (fun e=>hf (.inr (.inr e)))];exact hU.block k hk (fun e=>hf (by rw[hr k hk];rcases e with e|e;exact .inl e;exact .inr (.inl e)))
 have hsz:w.heap.size≤w1.heap.size:=hU.size
 refine⟨fun k hk=>by simpa using hb k hk,(hr b hbl).trans h2,by simp[Ar.mod,h3],.slice (some ⟨nb,0,none⟩) A.ns.length c,mv,?_,⟨rows.modify (x.toNat-1) (fun r=>r.set j v),⟨?_,?_⟩,by simp[Ar.mod,h7],?_⟩,?_⟩
 ·rw[Z1 _ _ _ _ (Ne.symm hbn),hU.block b hbl (by omega)];exact h4
 ·have:=XbI (ZS h5 hU (fun k hk=>by simp[Value.ownBlock]at hk;subst hk;omega)) ((x.toNat-1)*13+j) v;rw[show(x.toNat-1)*13+j=13*(x.toNat-1)+j from by{omega},Xcp v h13 _ _ hj]at this;rw[show(x.toNat-1)*13+j=13*(x.toNat-1)+j from by{omega}];simpa[Ar.mod]using this
 ·intro g hg;simp[Value.ownBlock]at hg;subst hg;rw[hr _ hnbl];exact hnb
 ·intro i n hn;have hF:∀k,ρ' k=2*i+4∨ρ' k=2*i+5→i≠x.toNat-1→¬(ρ' k=2*(x.toNat-1)+4∨ρ' k=2*(x.toNat-1)+5∨k=nb):=by{intro k hk hi hf;rcases hf with hf|hf|hf;·{omega};·{omega};·rw[hf,hr nb hnbl]at hk;omega};simp only[Ar.mod,List.getElem?_modify]at hn;by_cases hi:x.toNat-1=i;·{subst hi;obtain⟨r,hr1,kv,av,hrc,hk,ha⟩:=h8 _ _ hget;rw[hget]at hn;simp at hn;subst hn;have hc:∀jj vv,jj<13→((A.get x).cells kv av)[jj]?=some vv→w.cell? ⟨nb,(x.toNat-1)*13+jj,none⟩=some vv:=by{intro jj vv hjj hvv;rcases h5.2 with⟨hq,_⟩|⟨g,cap,cur,hv,_,hg,hnn,hcc,hss,htt⟩;·{simp at hq};·simp at hv;obtain⟨rfl,rfl⟩:=hv;rw[cell_of_row w nb _ cur _ (0,0) hg];have h0:=XaF h13 (x.toNat-1) jj hjj;rw[hr1,hrc,Option.bind_some,hvv,←htt,List.getElem?_take]at h0;split at h0;·{rw[show(x.toNat-1)*13+jj=13*(x.toNat-1)+jj from by{omega}];simpa using h0};·simp at h0};refine⟨((A.get x).cells kv av).set j v,by rw[List.getElem?_modify,hr1,hrc];simp,?_⟩;refine(hM kv av hk ha (hc 2 _ (by omega) rfl) (hc 6 _ (by omega) rfl)).upd (F:=fun k=>k=nb) ⟨rfl,rfl,rfl,by simp,fun k hk hf=>Z1 _ _ _ _ hf⟩ ?_;rintro k hk rfl;rw[hr k hnbl]at hk;omega};·obtain⟨r,hr1,hMi⟩:=h8 i n (by simpa[hi]using hn);exact⟨r,by rw[List.getElem?_modify,hr1];simp[hi],(hMi.role hr).upd hU2 (fun k hk=>hF k hk (Ne.symm hi))⟩
 ·refine(hmap.role hr).upd hU2 ?_;rintro k hk(e|e|rfl);·{omega};·{omega};·rw[hr k hnbl]at hk;omega
end
section
open Go.RowKit
section
variable {F : Fence} {n : Nat} {P : Program}
/-- The iterator g, which writes to the blocks Bs and to new blocks; a round that goes on writes to the blocks Cs and to blocks that are new since the loop began. -/
def Xf3 {α : Type} (F : Fence) (n : Nat) (P : Program) (g : Nat) (lb : Array Value) (encs : α → Array Value) (Bs Cs : Nat → Prop) (S Sp : List α → Prop) (w : World) : Prop :=
  ∀ (l : Nat) (J Jx : List α → World → Prop) (W : World), Below w.heap.size w W →
    (∀ s A B, J s A → Upd (fun k => Bs k ∨ W.heap.size ≤ k) A B → J s B) → (∀ s A B, Jx s A → Upd (fun k => Bs k ∨ W.heap.size ≤ k) A B → Jx s B) →
    (∀ pre x W1, J pre W1 → YieldAt F (n - 1) P l (encs x) W1 fun e W' =>
      (e = .returned (.bool true) ∧ J (pre ++ [x]) W' ∧ Upd (fun k => Cs k ∨ (w.heap.size ≤ k ∧ k < W.heap.size)) W1 W') ∨ (e = .returned (.bool false) ∧ Jx (pre ++ [x]) W')) →
    J [] W →
    CallsIn F n P g (#[.func (.yield l) #[] #[]] ++ lb) W fun e W' => (∃ v, e = .returned v) ∧ ((∃ xs, S xs ∧ J xs W') ∨ (∃ pre, Sp pre ∧ Jx pre W'))
/-- How the body of a round may be left: it goes on, or it returns. -/
def Xjh {α : Type} (Cs : Nat → Prop) (I Ix : List α → World → Prop) (xs : List α) (W : World) : Exit → Act → World → Prop
  | .normal, _, W' => Upd Cs W W' ∧ I xs W'
  | .ret, _, W' => Upd Cs W W' ∧ Ix xs W'
  | _, _, _ => False
theorem ZT {F:Nat→Prop}{W:World}{l:Nat}(o:Obj)(hF:F l):Upd F W (W.putObj l o):=⟨rfl,rfl,rfl,by simp,fun k _ hf=>World.putObj_heap_other (fun e=>hf (by rw[e];exact hF))⟩
theorem Xji {α:Type}{g:Operand}{ps:Array Tmp}{assign body:Code}{Q:Exit→Act→World→Prop}{a:Act}{w:World}(hro:F.round=none)(h1:1≤n){gf:Nat}{lb:Array Value}(hg:a.eval g= .func (.func gf) #[] lb)(hFg:F.fn gf)(eg:∀args w,(callFunc gf args).run P w= .ok (.enter gf args) w){encs:α→Array Value}{Bs Cs:Nat→Prop}{S Sp:List α→Prop}(hseq:Xf3 F (n-1) P gf lb encs Bs Cs S Sp w)(hBs:∀k,Bs k→k<w.heap.size)(hCs:∀k,Cs k→k<w.heap.size)(hps:∀x,(encs x).size=ps.size)(I Ix:List α→World→Prop)(hI:∀s A B,I s A→Upd (fun k=>Bs k∨w.heap.size≤k) A B→I s B)(hIx:∀s A B,Ix s A→Upd (fun k=>Bs k∨w.heap.size≤k) A B→Ix s B)(h0:I [] w)(a₁:α→Act)(hassign:∀(l:Nat)(x:α)(W:World)(K:Act→World→Prop),K (a₁ x) W→assign.wpIn (F.inRound l) (n-1-1) P (Exit.then K (fun _ _ _=>False)) {tmps:=(ps.zip (encs x)).foldl (fun t(p,v)=>t.setIfInBounds p v) a.tmps,defers:= []} W)(hbody:∀(l:Nat)(pre:List α)(x:α)(W:World),I pre W→body.wpIn (F.inRound l) (n-1-1) P (Xjh Cs I Ix (pre++ [x]) W) (a₁ x) W)(hdone:∀(D:Nat)(xs:List α)(W:World),S xs→I xs W→w.heap.size≤D→W.heap[D]?=some (.deferred (some []))→Q .normal {a with defers:={target:= .collected D,args:= #[]}::a.defers} W)(hstop:∀(D:Nat)(pre:List α)(W:World),Sp pre→Ix pre W→w.heap.size≤D→W.heap[D]?=some (.deferred (some []))→Q .ret {a with defers:={target:= .collected D,args:= #[]}::a.defers} W):(Code.rangeFunc g ps assign body).wpIn F n P Q a w:=by
 refine wpIn_rangeFunc ?_
 intro fn hfn
 rw[hro]
 obtain⟨rec,hrec⟩:∃rec:LoopState→Option Code→Loop,rec=fun st pe=>{state:=st,pending:=pe,fn,tmps:=a.tmps,params:=ps,assign,body,defers:=w.heap.size}:=⟨_,rfl⟩
 obtain⟨W1,hW1⟩:∃W1,(w.alloc (.deferred (some []))).alloc (.loop (rec .ready none))=W1:=⟨_,rfl⟩
 have hsz1:W1.heap.size=w.heap.size+2:=by rw[←hW1];simp
 have hL1:W1.heap[w.heap.size+1]?=some (.loop (rec .ready none)):=by rw[←hW1];have:=World.alloc_heap_new (w.alloc (.deferred (some []))) (.loop (rec .ready none));rwa[World.size_alloc]at this
 have hK1:W1.heap[w.heap.size]?=some (.deferred (some [])):=by rw[←hW1];exact(Below.heap_alloc _ _ _ (by simp)).trans (World.alloc_heap_new w _)
 have hU1:Upd (fun k=>Bs k∨w.heap.size≤k) w W1:=by rw[←hW1];exact((Upd.refl _ w).alloc _).alloc _
 have hI1:I [] W1:=hI _ _ _ h0 hU1
 have hb1:Below w.heap.size w W1:=by rw[←hW1];exact((Below.refl _ w).alloc (Nat.le_refl _) _).alloc (by simp) _
 refine⟨w.heap.size+1,[{target:= .collected w.heap.size,args:= #[]}],W1,{target:= .fn (.func gf) lb,args:= #[.func (.yield (w.heap.size+1)) #[] #[]]},W1,gf,#[.func (.yield (w.heap.size+1)) #[] #[]]++lb,W1,?_,?_,?_,?_,fun _=>h1,?_⟩
 ·rw[←hW1,hrec];exact run_enterLoop_outer _ _ _ _ _
 ·simp only[resolve,hg];simp[go_sem]
 ·intro f' hf';simp[Target.leads]at hf';subst hf';exact hFg
 ·simp[invoke,go_sem,eg]
 ·have keepAt:∀{A B:World}{k:Nat},w.heap.size≤k→k<W1.heap.size→k<A.heap.size→Upd (fun k=>Bs k∨W1.heap.size≤k) A B→B.heap[k]?=A.heap[k]?:=fun h1 h2 h3 hu=>hu.block _ h3 (fun hf=>hf.elim (fun hf=>by have:=hBs _ hf;omega) (fun hf=>by omega));have updI:∀{A B:World},Upd (fun k=>Bs k∨W1.heap.size≤k) A B→Upd (fun k=>Bs k∨w.heap.size≤k) A B:=fun hu=>hu.mono (fun k _ hk=>hk.imp id (fun hk=>by omega));refine(hseq (w.heap.size+1) (fun pre W=>I pre W∧W.heap[w.heap.size+1]?=some (.loop (rec .ready none))∧W.heap[w.heap.size]?=some (.deferred (some []))) (fun pre W=>Ix pre W∧W.heap[w.heap.size+1]?=some (.loop (rec .done (some .ret)))∧W.heap[w.heap.size]?=some (.deferred (some []))) W1 hb1 (fun s A B hs hu=>⟨hI s A B hs.1 (updI hu),(keepAt (by omega) (by omega) (lt_of_block hs.2.1) hu).trans hs.2.1,(keepAt (by omega) (by omega) (lt_of_block hs.2.2) hu).trans hs.2.2⟩) (fun s A B hs hu=>⟨hIx s A B hs.1 (updI hu),(keepAt (by omega) (by omega) (lt_of_block hs.2.1) hu).trans hs.2.1,(keepAt (by omega) (by omega) (lt_of_block hs.2.2) hu).trans hs.2.2⟩) ?_ ⟨hI1,hL1,hK1⟩).mono ?_;·{rintro pre x W⟨hi,hl,hk⟩;have hlt:w.heap.size+1<W.heap.size:=lt_of_block hl;have hy:=run_yield (P:=P) (args:=encs x) hl (by rw[hrec];exact hps x);rw[hrec]at hy;refine⟨fn,_,assign,body,hy,roundIn_of_wpIn hfn (hassign _ x W _ ⟨_,run_beginRound hl (by rw[hrec]),?_⟩)⟩;have hl2:(W.putObj (w.heap.size+1) (.loop {rec .ready none with state:= .busy})).heap[w.heap.size+1]?=some (.loop {rec .ready none with state:= .busy}):=World.putObj_heap_same hlt;have hk2:(W.putObj (w.heap.size+1) (.loop {rec .ready none with state:= .busy})).heap[w.heap.size]?=some (.deferred (some [])):=(World.putObj_heap_other (by omega)).trans hk;have hp2:Upd (fun k=>Bs k∨w.heap.size≤k) W (W.putObj (w.heap.size+1) (.loop {rec .ready none with state:= .busy})):=ZT _ (.inr (by omega));have hq2:Upd (fun k=>Cs k∨(w.heap.size≤k∧k<W1.heap.size)) W (W.putObj (w.heap.size+1) (.loop {rec .ready none with state:= .busy})):=ZT _ (.inr (by omega));refine wpIn_mono (hbody _ pre x _ (hI _ _ _ hi hp2)) ?_;have fin:∀(jump:Option Code)(W3:World),Upd Cs (W.putObj (w.heap.size+1) (.loop {rec .ready none with state:= .busy})) W3→(Instr.endRound (w.heap.size+1) jump).run P W3= .ok (.bool jump.isNone) (W3.putObj (w.heap.size+1) (.loop (rec (if jump.isNone then .ready else .done) jump)))∧(W3.putObj (w.heap.size+1) (.loop (rec (if jump.isNone then .ready else .done) jump))).heap[w.heap.size+1]?=some (.loop (rec (if jump.isNone then .ready else .done) jump))∧(W3.putObj (w.heap.size+1) (.loop (rec (if jump.isNone then .ready else .done) jump))).heap[w.heap.size]?=some (.deferred (some [])):=fun jump W3 hk3=>by{have hl3:=(hk3.block (w.heap.size+1) (lt_of_block hl2) (fun hf=>by have:=hCs _ hf;omega)).trans hl2;have hk3':=(hk3.block w.heap.size (lt_of_block hk2) (fun hf=>by have:=hCs _ hf;omega)).trans hk2;have:=run_endRound (P:=P) jump hl3;rw[hrec]at this⊢;exact⟨this,World.putObj_heap_same (lt_of_block hl3),(World.putObj_heap_other (by omega)).trans hk3'⟩};rintro e a3 W3 hp;cases e with|normal=>{obtain⟨hu3,hi3⟩:=hp;obtain⟨hr,hl4,hk4⟩:=fin none W3 hu3;refine⟨_,_,hr,.inl ⟨rfl,⟨hI _ _ _ hi3 (ZT _ (.inr (by omega))),hl4,hk4⟩,(hq2.trans (hu3.mono (fun k _ hk=> .inl hk))).trans (ZT _ (.inr (by omega)))⟩⟩}|ret=>{obtain⟨hu3,hi3⟩:=hp;obtain⟨hr,hl4,hk4⟩:=fin (some .ret) W3 hu3;exact⟨_,_,hr,.inr ⟨rfl,hIx _ _ _ hi3 (ZT _ (.inr (by omega))),hl4,hk4⟩⟩}|exit id=>{exact hp.elim}|goto t=>{exact hp.elim}|panic ch=>{exact hp.elim}|outgrown=>exact hp.elim};·rintro e W2⟨⟨v,rfl⟩,(⟨xs,hS,hi,hl,hk⟩|⟨pre,hSp,hi,hl,hk⟩)⟩;·{exact⟨none,_,by have:=run_endLoop (P:=P) hl (by rw[hrec];simp);rw[hrec]at this;exact this,hdone _ xs _ hS (hI _ _ _ hi (ZT _ (.inr (by omega)))) (Nat.le_refl _) ((World.putObj_heap_other (by omega)).trans hk)⟩};·exact⟨some .ret,_,by have:=run_endLoop (P:=P) hl (by rw[hrec];simp);rw[hrec]at this;exact this,wpIn_ret (hstop _ pre _ hSp (hIx _ _ _ hi (ZT _ (.inr (Nat.le_succ _)))) (Nat.le_refl _) ((World.putObj_heap_other (by omega)).trans hk))⟩
end
end
section
/-- The Xd of a node has it among its children, once. -/
def Ar.Xf4 (A : Ar) (h : Int) : Prop := (A.get h).Xd ≠ 0 → A.has (A.get h).Xd ∧ h ∈ (A.get (A.get h).Xd).Xc ∧ (A.get (A.get h).Xd).Xc.Nodup
/-- The step of 'up'. -/
def Ye (A : Ar) (hosts : Bool) (h : Int) : Int := if hosts then A.up h else (A.get h).Xd
structure Ar.WF (A : Ar) : Prop where
  link : ∀ h, A.has h → A.Xf4 h
  Xc : ∀ p, A.has p → ∀ k ∈ (A.get p).Xc, A.has k ∧ (A.get k).Xd = p
  nodup : ∀ p, A.has p → (A.get p).Xc.Nodup
  way : ∀ h, A.has h → ∃ path, A.Way (Ye A true) h path
  Xh : A.Xh.length = A.ns.length + 1
theorem Ar.Xcq {A:Ar}{h:Int}(hh:A.has h):∃hi:h.toNat-1<A.ns.length,A.get h=A.ns[h.toNat-1]:=by
 obtain⟨h1,h2⟩:=hh
 unfold Ar.n at h2
 exact⟨by omega,by simp[Ar.get,show h.toNat-1<A.ns.length from by{omega}]⟩
theorem Ar.Xad (A:Ar)(x:Int)(f:Nd→Nd):(A.mod x f).n=A.n:=by
 simp[Ar.mod,Ar.n]
theorem Ar.ZU (A:Ar)(x:Int)(f:Nd→Nd)(h:Int):(A.mod x f).has h↔A.has h:=by
 unfold Ar.has
 rw[Ar.Xad]
theorem Ar.Zr {A:Ar}{x h:Int}(f:Nd→Nd)(hx:A.has x)(hh:A.has h):(A.mod x f).get h=if h=x then f (A.get x)else A.get h:=by
 obtain⟨hi,e⟩:=Ar.Xcq hh
 obtain⟨hj,e'⟩:=Ar.Xcq hx
 have h1:=hh.1
 have h2:=hx.1
 by_cases hxh:h=x
 ·subst hxh;rw[if_pos rfl];simp[Ar.mod,Ar.get,hi]
 ·rw[if_neg hxh];have:x.toNat-1≠h.toNat-1:=by{omega};simp[Ar.mod,Ar.get,this]
theorem Ar.XaG (A:Ar)(h:Int):(A.cut h).n=A.n:=by
 unfold Ar.cut
 split
 ·rfl
 ·rw[Ar.Xad,Ar.Xad]
theorem Ar.X5 (A:Ar)(h x:Int):(A.cut h).has x↔A.has x:=by
 unfold Ar.has
 rw[Ar.XaG]
theorem Ar.YY (A:Ar)(h:Int):(A.cut h).ns.length=A.ns.length:=by
 have:=Ar.XaG A h
 unfold Ar.n at this
 omega
theorem Ar.Xjj {A:Ar}(hW:A.WF){h p:Int}(hh:A.has h)(hp:A.has p):((A.cut h).get p).Xc=if p=(A.get h).Xd then XQ (A.get p).Xc h else(A.get p).Xc:=by
 unfold Ar.cut
 by_cases hz:(A.get h).Xd=0
 ·rw[if_pos hz,if_neg];have:=hp.1;omega
 ·rw[if_neg hz];have hpp:=(hW.link h hh hz).1;rw[Ar.Zr _ ((Ar.ZU _ _ _ _).2 hh) ((Ar.ZU _ _ _ _).2 hp),Ar.Zr _ hpp hp,Ar.Zr _ hpp hh];by_cases h1:p=h;·{subst h1;rw[if_pos rfl];dsimp only;by_cases h2:p=(A.get p).Xd;·{rw[if_pos h2,if_pos h2];rw[←h2]};·rw[if_neg h2,if_neg h2]};·rw[if_neg h1];by_cases h2:p=(A.get h).Xd;·{rw[if_pos h2,if_pos h2,h2]};·rw[if_neg h2,if_neg h2]
theorem Xcr :∀(n:Nat)(l:List Int),l.Nodup→(∀x∈l,1≤x∧x≤(n:Int))→l.length≤n
 |0,l,_,h=>by{cases l with|nil=>{simp}|cons x l=>have:=h x (by simp);omega}
 |n+1,l,hn,h=>by{have h1:=Xcr n (l.erase ((n:Int)+1)) (hn.erase _) (fun x hx=>by have h2:=h x (List.mem_of_mem_erase hx);have h3:x≠(n:Int)+1:=fun e=>by{subst e;exact(List.Nodup.not_mem_erase hn) hx};push_cast at h2;omega);have h4:l.length≤(l.erase ((n:Int)+1)).length+1:=by{rw[List.length_erase];split<;>omega};omega}
theorem Ar.Yz {A:Ar}(hW:A.WF){p:Int}(hp:A.has p):(A.get p).Xc.length≤A.ns.length:=Xcr _ _ (hW.nodup p hp) (fun x hx=>(hW.Xc p hp x hx).1)
theorem Xf5 (l:List Int)(h:Int):(XQ l h).length≤l.length:=List.length_filter_le _ _
theorem Xcs {l:List Int}{node:Int}(h:(0:Int)∉l):YK l node 0=l++ [node]:=by
 unfold YK
 rw[if_pos rfl]
 congr 1
 induction l with|nil=>{rfl}|cons a l ih=>simp at h;simp only[List.flatMap_cons];rw[if_neg (fun e=>h.1 e.symm),ih h.2];rfl
theorem XdT {l:List Int}{node before:Int}{i:Nat}(hb:before≠0)(hn:l.Nodup)(hi:l[i]?=some before):YK l node before=l.take i++node::l.drop i:=by
 unfold YK
 rw[if_neg hb,List.append_nil]
 have hno:∀l:List Int,before∉l→(l.flatMap fun x=>if x=before then [node,x]else [x])=l:=by intro l hl;induction l with|nil=>{rfl}|cons a l ih=>simp at hl;simp only[List.flatMap_cons];rw[if_neg (fun e=>hl.1 e.symm),ih hl.2];rfl
 induction l generalizing i with|nil=>{simp at hi}|cons a l ih=>rw[List.nodup_cons]at hn;cases i with|zero=>{simp at hi;subst hi;simp only[List.flatMap_cons];rw[hno l hn.1];simp}|succ i=>simp at hi;have ha:a≠before:=fun e=>by{subst e;exact hn.1 (List.mem_of_getElem? hi)};simp only[List.flatMap_cons];rw[if_neg ha,ih hn.2 hi];rfl
theorem Ar.XdU {A:Ar}(hW:A.WF){Xd node before:Int}(hp:A.has Xd)(hn:A.has node)(hb:before≠0→A.has before∧before≠node∧(A.get before).Xd=Xd):((A.cut node).get Xd).Xc.length≤A.ns.length∧(before≠0→before∈((A.cut node).get Xd).Xc)∧(∀i:Nat,before≠0→((A.cut node).get Xd).Xc[i]?=some before→YK ((A.cut node).get Xd).Xc node before=((A.cut node).get Xd).Xc.take i++node::((A.cut node).get Xd).Xc.drop i)∧(before=0→YK ((A.cut node).get Xd).Xc node before=((A.cut node).get Xd).Xc++ [node]):=by
 rw[Ar.Xjj hW hn hp]
 have hlen:=Ar.Yz hW hp
 have hnd:=hW.nodup Xd hp
 have hz:(0:Int)∉(A.get Xd).Xc:=fun h0=>by have:=(hW.Xc Xd hp 0 h0).1.1;omega
 have hbm:before≠0→before∈(A.get Xd).Xc:=fun h=>by obtain⟨h1,_,h3⟩:=hb h;have:=(hW.link before h1 (by rw[h3];have:=hp.1;omega)).2.1;rwa[h3]at this
 by_cases he:Xd=(A.get node).Xd
 ·rw[if_pos he];refine⟨Nat.le_trans (Xf5 _ _) hlen,fun h=>?_,fun i h hi=>XdT h (hnd.filter _) hi,fun h=>?_⟩;·{exact List.mem_filter.2 ⟨hbm h,by simpa using(hb h).2.1⟩};·subst h;exact Xcs (fun h0=>hz ((List.mem_filter.1 h0).1))
 ·rw[if_neg he];exact⟨hlen,hbm,fun i h hi=>XdT h hnd hi,fun h=>by subst h;exact Xcs hz⟩
theorem XaH {A:Ar}{up:Int→Int}:∀{l l':List Int}{h:Int},A.Way up h l→A.Way up h l'→l=l'
 | [],[],_,_,_=>rfl
 | [],x::l',h,h1,h2=>by{have e:h=0:=h1;obtain⟨rfl,hh,_⟩:=h2;have:=hh.1;omega}
 |x::l,[],h,h1,h2=>by{have e:h=0:=h2;obtain⟨rfl,hh,_⟩:=h1;have:=hh.1;omega}
 |x::l,y::l',h,h1,h2=>by{obtain⟨rfl,_,h3⟩:=h1;obtain⟨rfl,_,h4⟩:=h2;rw[XaH h3 h4]}
theorem Xct {A:Ar}{up:Int→Int}:∀{l1 l2:List Int}{h x:Int},A.Way up h (l1++x::l2)→A.Way up x (x::l2)
 | [],l2,h,x,hw=>by{obtain⟨rfl,h1,h2⟩:=hw;exact⟨rfl,h1,h2⟩}
 |y::l1,l2,h,x,hw=>by{obtain⟨_,_,h2⟩:=hw;exact Xct h2}
theorem Xf6 {A:Ar}{up:Int→Int}:∀{l:List Int}{h:Int},A.Way up h l→l.Nodup
 | [],_,_=>List.nodup_nil
 |x::l,h,hw=>by{obtain⟨rfl,h1,h2⟩:=hw;refine List.nodup_cons.2 ⟨fun hm=>?_,Xf6 h2⟩;obtain⟨l1,l2,rfl⟩:=List.append_of_mem hm;have h3:=XaH (Xct h2) (show A.Way up x (x::(l1++x::l2))from⟨rfl,h1,h2⟩);have h4:=congrArg List.length h3;simp at h4;omega}
theorem Xa9 {A:Ar}{up:Int→Int}:∀{l:List Int}{h:Int},A.Way up h l→∀x∈l,A.has x
 | [],_,_,x,hx=>by{simp at hx}
 |y::l,h,hw,x,hx=>by{obtain⟨rfl,h1,h2⟩:=hw;rcases List.mem_cons.1 hx with rfl|hx;·{exact h1};·exact Xa9 h2 x hx}
theorem XdV {A:Ar}{up:Int→Int}{l:List Int}{h:Int}(hw:A.Way up h l):l.length≤A.ns.length:=Xcr _ _ (Xf6 hw) (fun x hx=>Xa9 hw x hx)
/-- The way up, with fuel. -/
def wayF (A : Ar) (up : Int → Int) : Nat → Int → List Int
  | 0, _ => []
  | n + 1, h => if A.has h then h :: wayF A up n (up h) else []
theorem XdW {A:Ar}{up:Int→Int}:∀{n:Nat}{l:List Int}{h:Int},A.Way up h l→l.length≤n→wayF A up n h=l
 |0,[],_,_,_=>rfl
 |0,x::l,_,_,hn=>by{simp at hn}
 |n+1,[],h,hw,_=>by{have e:h=0:=hw;rw[wayF,if_neg (by subst e;exact fun hh=>by have:=hh.1;omega)]}
 |n+1,x::l,h,hw,hn=>by{obtain⟨rfl,h1,h2⟩:=hw;rw[wayF,if_pos h1,XdW h2 (by simpa using hn)]}
def Ar.YR (A : Ar) (hosts : Bool) (h : Int) : List Int := wayF A (Ye A hosts) A.ns.length h
theorem Ar.WF.Zs {A:Ar}(hW:A.WF){h:Int}(hh:A.has h):A.Way (Ye A true) h (A.YR true h):=by
 obtain⟨l,hl⟩:=hW.way h hh
 rw[Ar.YR,XdW hl (XdV hl)]
 exact hl
def Ar.contains (A : Ar) (top h : Int) : Bool := decide (A.has top ∧ A.has h ∧ top ∈ A.YR true h)
def Ar.put (A : Ar) (Xd node before : Int) : Int × Ar :=
  if A.allowed Xd node before (A.contains node Xd) ≠ 0 then (A.allowed Xd node before (A.contains node Xd), A) else (0, A.place Xd node before)
end
section
/-- What holds of a node by itself. -/
structure Nd.Local (n : Nd) : Prop where
  k1 : 1 ≤ n.Xa
  k6 : n.Xa ≤ 6
  sp : XS n.space
  at1 : Ys n.Xb
  at2 : XZ n.Xb = n.Xb
  at3 : n.Xb.length ≤ 1000
  el : n.Xa ≠ 4 → n.space = 0 ∧ n.Xb = []
  nm : n.Xa ≠ 4 → n.Xa ≠ 3 → n.name = ByteArray.empty
  ps : n.Xa ≠ 3 → n.pub = ByteArray.empty ∧ n.sys = ByteArray.empty
  da : n.Xa ≠ 5 → n.Xa ≠ 6 → n.data = ByteArray.empty
  qu : n.Xa ≠ 1 → n.XI = false
/-- The invariant; the Xg of the node ex may be missing. -/
structure Ar.XC (A : Ar) (ex : Int) : Prop where
  wf : A.WF
  loc : ∀ h, A.has h → (A.get h).Local
  host : ∀ h, A.has h → (A.get h).host ≠ 0 → (A.get h).Xa = 2 ∧ A.has (A.get h).host ∧ XN (A.get (A.get h).host) ∧ (A.get (A.get h).host).Xg = h
  cont : ∀ h, A.has h → h ≠ ex → XN (A.get h) → A.has (A.get h).Xg ∧ (A.get (A.get h).Xg).Xa = 2 ∧ (A.get (A.get h).Xg).host = h
  YG : ∀ h, A.has h → h = ex ∨ ¬ XN (A.get h) → (A.get h).Xg = 0
  par : ∀ h, A.has h → (A.get h).Xd ≠ 0 → (A.get h).Xa ≠ 1 ∧ (A.get h).Xa ≠ 2
  ZB : ∀ h, A.has h → (A.get h).Xc ≠ [] → (A.get h).Xa = 1 ∨ (A.get h).Xa = 2 ∨ (A.get h).Xa = 4
  ZV : ∀ h, A.has h → A.has (A.get h).doc ∧ (A.get (A.get h).doc).Xa = 1
  XbJ : ∀ h, A.has h → (A.get h).Xa = 1 → (A.get h).doc = h
  XbK : A.Xh[0]? = some 0
  Xh : ∀ d : Int, A.Xu d ≠ 0 → A.has d ∧ A.has (A.Xu d) ∧ (A.get (A.Xu d)).Xa = 1 ∧ A.Xu (A.Xu d) = A.Xu d
def Ar.Inv (A : Ar) : Prop := A.XC 0
theorem Za (A:Ar):¬A.has 0:=fun h=>by{have:=h.1;omega}
theorem Ar.Xf7 (A:Ar)(n:Nd):(A.add n).n=A.n+1:=by
 simp[Ar.add,Ar.n]
theorem Ar.XO (A:Ar)(n:Nd)(h:Int):(A.add n).has h↔A.has h∨h=A.n+1:=by
 unfold Ar.has
 rw[Ar.Xf7]
 have:0≤A.n:=by unfold Ar.n;omega
 constructor
 ·intro q;omega
 ·intro q;omega
theorem Ar.YS (A:Ar)(n:Nd):(A.add n).get (A.n+1)=n:=by
 have:(A.n+1).toNat-1=A.ns.length:=by unfold Ar.n;omega
 simp[Ar.get,Ar.add,this]
theorem Ar.Zb {A:Ar}(n:Nd){h:Int}(hh:A.has h):(A.add n).get h=A.get h:=by
 obtain⟨hi,_⟩:=Ar.Xcq hh
 simp[Ar.get,Ar.add,List.getElem?_append,hi]
theorem Ar.Xba (A:Ar):¬A.has (A.n+1):=fun h=>by{have:=h.2;omega}
theorem XdX {A A':Ar}{up up':Int→Int}(h:∀x,A.has x→A'.has x∧up' x=up x):∀{l:List Int}{y:Int},A.Way up y l→A'.Way up' y l
 | [],_,hw=>hw
 |x::l,y,hw=>by{obtain⟨rfl,h1,h2⟩:=hw;obtain⟨h3,h4⟩:=h x h1;exact⟨rfl,h3,by rw[h4];exact XdX h h2⟩}
theorem XdY {A A':Ar}{up up':Int→Int}{node p:Int}{lp:List Int}(hhas:∀x,A.has x→A'.has x)(hup:∀x,A.has x→x≠node→up' x=up x)(hp:up' node=p)(hlp:A.Way up p lp)(hno:node∉lp):∀{l:List Int}{y:Int},A.Way up y l→∃l',A'.Way up' y l'
 | [],y,hw=>⟨[],hw⟩
 |x::l,y,hw=>by{obtain⟨rfl,h1,h2⟩:=hw;by_cases hx:x=node;·{refine⟨x::lp,rfl,hhas x h1,?_⟩;rw[hx,hp];have key:∀{lp:List Int}{q:Int},A.Way up q lp→node∉lp→A'.Way up' q lp:=by{intro lp;induction lp with|nil=>{intro q h _;exact h}|cons z lp ih=>intro q h hn;obtain⟨rfl,h3,h4⟩:=h;simp at hn;refine⟨rfl,hhas _ h3,?_⟩;rw[hup _ h3 (fun e=>hn.1 e.symm)];exact ih h4 hn.2};exact key hlp hno};·obtain⟨l',hl'⟩:=XdY hhas hup hp hlp hno h2;exact⟨x::l',rfl,hhas x h1,by rw[hup x h1 hx];exact hl'⟩}
theorem Ar.WF.fields {A A':Ar}(hW:A.WF)(hn:A'.n=A.n)(hi:A'.Xh.length=A.Xh.length)(h:∀x,A.has x→(A'.get x).Xd=(A.get x).Xd∧(A'.get x).Xc=(A.get x).Xc∧(A'.get x).host=(A.get x).host):A'.WF:=by
 have hh:∀x,A'.has x↔A.has x:=fun x=>by unfold Ar.has;rw[hn]
 have hl:A'.ns.length=A.ns.length:=by unfold Ar.n at hn;omega
 refine⟨fun x hx hp=>?_,fun p hp k hk=>?_,fun p hp=>?_,fun x hx=>?_,by rw[hi,hl];exact hW.Xh⟩
 ·have hx':=(hh x).1 hx;rw[(h x hx').1]at hp⊢;obtain⟨q1,q2,q3⟩:=hW.link x hx' hp;exact⟨(hh _).2 q1,by rw[(h _ q1).2.1];exact q2,by rw[(h _ q1).2.1];exact q3⟩
 ·have hp':=(hh p).1 hp;rw[(h p hp').2.1]at hk;obtain⟨q1,q2⟩:=hW.Xc p hp' k hk;exact⟨(hh _).2 q1,by rw[(h _ q1).1];exact q2⟩
 ·have hp':=(hh p).1 hp;rw[(h p hp').2.1];exact hW.nodup p hp'
 ·obtain⟨l,hl⟩:=hW.way x ((hh x).1 hx);exact⟨l,XdX (fun y hy=>⟨(hh y).2 hy,by simp[Ye,Ar.up,(h y hy).1,(h y hy).2.2]⟩) hl⟩
theorem Ar.WF.added {A:Ar}(hW:A.WF){n:Nd}(hk:n.Xc= [])(hp:n.Xd=0)(hh:n.host≠0→A.has n.host):(A.add n).WF:=by
 have hold:∀{x},A.has x→(A.add n).get x=A.get x:=fun hx=>Ar.Zb n hx
 have hhas:∀{x},A.has x→(A.add n).has x:=fun hx=>(Ar.XO A n _).2 (.inl hx)
 have hway:∀{l:List Int}{y:Int},A.Way (Ye A true) y l→(A.add n).Way (Ye (A.add n) true) y l:=fun h=>XdX (fun y hy=>⟨hhas hy,by simp[Ye,Ar.up,hold hy]⟩) h
 refine⟨fun x hx hpx=>?_,fun p hpp k hkk=>?_,fun p hpp=>?_,fun x hx=>?_,by simp[Ar.add,hW.Xh]⟩
 ·rcases(Ar.XO A n x).1 hx with hx|rfl;·{rw[hold hx]at hpx⊢;obtain⟨q1,q2,q3⟩:=hW.link x hx hpx;exact⟨hhas q1,by rw[hold q1];exact q2,by rw[hold q1];exact q3⟩};·rw[Ar.YS]at hpx;exact absurd hp hpx
 ·rcases(Ar.XO A n p).1 hpp with hx|rfl;·{rw[hold hx]at hkk;obtain⟨q1,q2⟩:=hW.Xc p hx k hkk;exact⟨hhas q1,by rw[hold q1];exact q2⟩};·rw[Ar.YS,hk]at hkk;simp at hkk
 ·rcases(Ar.XO A n p).1 hpp with hx|rfl;·{rw[hold hx];exact hW.nodup p hx};·rw[Ar.YS,hk];exact List.nodup_nil
 ·rcases(Ar.XO A n x).1 hx with hx|rfl;·{obtain⟨l,hl⟩:=hW.way x hx;exact⟨l,hway hl⟩};·have hu:Ye (A.add n) true (A.n+1)=n.host:=by{simp[Ye,Ar.up,Ar.YS,hp]};by_cases h0:n.host=0;·{exact⟨[A.n+1],rfl,hx,by rw[hu,h0];rfl⟩};·obtain⟨l,hl⟩:=hW.way n.host (hh h0);exact⟨(A.n+1)::l,rfl,hx,by rw[hu];exact hway hl⟩
end
section
theorem Ar.JA {A:Ar}(hl:A.Xh.length=A.ns.length+1)(n:Nd)(d:Int):(A.add n).Xu d=A.Xu d:=by
 unfold Ar.Xu Ar.add
 simp only[List.getElem?_append]
 split
 ·rfl
 ·rename_i hge;rw[List.getElem?_eq_none (l:=A.Xh) (by omega)];cases h: [(0:Int)][d.toNat-A.Xh.length]? with|none=>{rfl}|some x=>have:=List.mem_of_getElem? h;simp at this;simp[this]
theorem Ar.XC.added {A:Ar}{ex ex':Int}(hI:A.XC ex){n:Nd}(hk:n.Xc= [])(hp:n.Xd=0)(hh:n.host=0)(hc:n.Xg=0)(hl:n.Local)(hd:(A.has n.doc∧(A.get n.doc).Xa=1∧n.Xa≠1)∨(n.doc=A.n+1∧n.Xa=1))(hex:(ex'=ex∧¬XN n)∨(ex=0∧ex'=A.n+1)):(A.add n).XC ex':=by
 have hold:∀{x},A.has x→(A.add n).get x=A.get x:=fun hx=>Ar.Zb n hx
 have hhas:∀{x},A.has x→(A.add n).has x:=fun hx=>(Ar.XO A n _).2 (.inl hx)
 have hnew:(A.add n).has (A.n+1):=(Ar.XO A n _).2 (.inr rfl)
 have hne:∀x,A.has x→x≠ex'→x≠ex:=fun x hx hn e=>by rcases hex with⟨h,_⟩|⟨h,_⟩;·{exact hn (by rw[e,h])};·exact Za A (by rw[←h,←e];exact hx)
 have hcase:∀x,(A.add n).has x→A.has x∨x=A.n+1:=fun x hx=>(Ar.XO A n x).1 hx
 refine⟨hI.wf.added hk hp (fun h=>absurd hh h),fun x hx=>?_,fun x hx h0=>?_,fun x hx hxe ht=>?_,fun x hx hxe=>?_,fun x hx h0=>?_,fun x hx h0=>?_,fun x hx=>?_,fun x hx h1=>?_,?_,fun d h0=>?_⟩
 ·rcases hcase x hx with hx|rfl;·{rw[hold hx];exact hI.loc x hx};·rw[Ar.YS];exact hl
 ·rcases hcase x hx with hx|rfl;·{rw[hold hx]at h0⊢;obtain⟨q1,q2,q3,q4⟩:=hI.host x hx h0;exact⟨q1,hhas q2,by rw[hold q2];exact q3,by rw[hold q2];exact q4⟩};·rw[Ar.YS]at h0;exact absurd hh h0
 ·rcases hcase x hx with hx|rfl;·{rw[hold hx]at ht⊢;obtain⟨q1,q2,q3⟩:=hI.cont x hx (hne x hx hxe) ht;exact⟨hhas q1,by rw[hold q1];exact q2,by rw[hold q1];exact q3⟩};·rw[Ar.YS]at ht;rcases hex with⟨_,h⟩|⟨_,h⟩;·{exact absurd ht h};·exact absurd h.symm hxe
 ·rcases hcase x hx with hx|rfl;·{rw[hold hx]at hxe⊢;refine hI.YG x hx ?_;rcases hxe with e|e;·{rcases hex with⟨h,_⟩|⟨_,h⟩;·{exact .inl (by rw[e,h])};·exact absurd (by rw[e,h]at hx;exact hx) (Ar.Xba A)};·exact .inr e};·rw[Ar.YS];exact hc
 ·rcases hcase x hx with hx|rfl;·{rw[hold hx]at h0⊢;exact hI.par x hx h0};·rw[Ar.YS]at h0;exact absurd hp h0
 ·rcases hcase x hx with hx|rfl;·{rw[hold hx]at h0⊢;exact hI.ZB x hx h0};·rw[Ar.YS]at h0;exact absurd hk h0
 ·rcases hcase x hx with hx|rfl;·{obtain⟨q1,q2⟩:=hI.ZV x hx;rw[hold hx];exact⟨hhas q1,by rw[hold q1];exact q2⟩};·rw[Ar.YS];rcases hd with⟨q1,q2,_⟩|⟨q1,q2⟩;·{exact⟨hhas q1,by rw[hold q1];exact q2⟩};·rw[q1,Ar.YS];exact⟨hnew,q2⟩
 ·rcases hcase x hx with hx|rfl;·{rw[hold hx]at h1⊢;exact hI.XbJ x hx h1};·rw[Ar.YS]at h1⊢;rcases hd with⟨_,_,q⟩|⟨q1,_⟩;·{exact absurd h1 q};·exact q1
 ·have:=hI.XbK;have h0:0<A.Xh.length:=(List.getElem?_eq_some_iff.1 this).1;simp only[Ar.add,List.getElem?_append,h0,if_true];exact this
 ·rw[Ar.JA hI.wf.Xh]at h0⊢;obtain⟨q1,q2,q3,q4⟩:=hI.Xh d h0;exact⟨hhas q1,hhas q2,by rw[hold q2];exact q3,by rw[Ar.JA hI.wf.Xh];exact q4⟩
theorem Ar.XC.fields {A A':Ar}{ex:Int}(hI:A.XC ex)(hn:A'.n=A.n)(hi:A'.Xh=A.Xh)(h:∀x,A.has x→(A'.get x).Xd=(A.get x).Xd∧(A'.get x).Xc=(A.get x).Xc∧(A'.get x).host=(A.get x).host∧(A'.get x).Xg=(A.get x).Xg∧(A'.get x).Xa=(A.get x).Xa∧(A'.get x).space=(A.get x).space∧(A'.get x).name=(A.get x).name∧(A'.get x).Local∧((A'.get x).doc=(A.get x).doc∨(A.has (A'.get x).doc∧(A.get (A'.get x).doc).Xa=1∧(A.get x).Xa≠1))):A'.XC ex:=by
 have hh:∀x,A'.has x↔A.has x:=fun x=>by unfold Ar.has;rw[hn]
 have ht:∀x,A.has x→(XN (A'.get x)↔XN (A.get x)):=fun x hx=>by obtain⟨_,_,_,_,h5,h6,h7,_⟩:=h x hx;unfold XN;rw[h5,h6,h7]
 have hin:∀d,A'.Xu d=A.Xu d:=fun d=>by unfold Ar.Xu;rw[hi]
 refine⟨hI.wf.fields hn (by rw[hi]) (fun x hx=>⟨(h x hx).1,(h x hx).2.1,(h x hx).2.2.1⟩),fun x hx=>?_,fun x hx h0=>?_,fun x hx hxe h0=>?_,fun x hx hxe=>?_,fun x hx h0=>?_,fun x hx h0=>?_,fun x hx=>?_,fun x hx h1=>?_,by rw[hi];exact hI.XbK,fun d h0=>?_⟩
 all_goals try have hx':=(hh x).1 hx
 ·exact(h x hx').2.2.2.2.2.2.2.1
 ·obtain⟨g1,g2,g3,g4,g5,g6,g7,g8,g9⟩:=h x hx';rw[g3]at h0⊢;obtain⟨q1,q2,q3,q4⟩:=hI.host x hx' h0;exact⟨by rw[g5];exact q1,(hh _).2 q2,(ht _ q2).2 q3,by rw[(h _ q2).2.2.2.1];exact q4⟩
 ·obtain⟨g1,g2,g3,g4,g5,g6,g7,g8,g9⟩:=h x hx';rw[g4];obtain⟨q1,q2,q3⟩:=hI.cont x hx' hxe ((ht x hx').1 h0);exact⟨(hh _).2 q1,by rw[(h _ q1).2.2.2.2.1];exact q2,by rw[(h _ q1).2.2.1];exact q3⟩
 ·rw[(h x hx').2.2.2.1];exact hI.YG x hx' (hxe.imp id (fun e q=>e ((ht x hx').2 q)))
 ·obtain⟨g1,g2,g3,g4,g5,g6,g7,g8,g9⟩:=h x hx';rw[g1]at h0;rw[g5];exact hI.par x hx' h0
 ·obtain⟨g1,g2,g3,g4,g5,g6,g7,g8,g9⟩:=h x hx';rw[g2]at h0;rw[g5];exact hI.ZB x hx' h0
 ·obtain⟨g1,g2,g3,g4,g5,g6,g7,g8,g9⟩:=h x hx';rcases g9 with g9|⟨g9,g10,_⟩;·{obtain⟨q1,q2⟩:=hI.ZV x hx';rw[g9];exact⟨(hh _).2 q1,by rw[(h _ q1).2.2.2.2.1];exact q2⟩};·exact⟨(hh _).2 g9,by rw[(h _ g9).2.2.2.2.1];exact g10⟩
 ·obtain⟨g1,g2,g3,g4,g5,g6,g7,g8,g9⟩:=h x hx';rw[g5]at h1;rcases g9 with g9|⟨_,_,g9⟩;·{rw[g9];exact hI.XbJ x hx' h1};·exact absurd h1 g9
 ·rw[hin]at h0⊢;obtain⟨q1,q2,q3,q4⟩:=hI.Xh d h0;exact⟨(hh _).2 q1,(hh _).2 q2,by rw[(h _ q2).2.2.2.2.1];exact q3,by rw[hin];exact q4⟩
theorem Ar.XC.Xcu {A:Ar}{ex:Int}(hI:A.XC ex){x:Int}(hx:A.has x)(f:Nd→Nd)(hf:(f (A.get x)).Xd=(A.get x).Xd∧(f (A.get x)).Xc=(A.get x).Xc∧(f (A.get x)).host=(A.get x).host∧(f (A.get x)).Xg=(A.get x).Xg∧(f (A.get x)).Xa=(A.get x).Xa∧(f (A.get x)).space=(A.get x).space∧(f (A.get x)).name=(A.get x).name)(hl:(f (A.get x)).Local)(hd:(f (A.get x)).doc=(A.get x).doc∨(A.has (f (A.get x)).doc∧(A.get (f (A.get x)).doc).Xa=1∧(A.get x).Xa≠1)):(A.mod x f).XC ex:=by
 refine hI.fields (Ar.Xad _ _ _) rfl (fun y hy=>?_)
 rw[Ar.Zr f hx hy]
 by_cases e:y=x
 ·subst e;rw[if_pos rfl];exact⟨hf.1,hf.2.1,hf.2.2.1,hf.2.2.2.1,hf.2.2.2.2.1,hf.2.2.2.2.2.1,hf.2.2.2.2.2.2,hl,hd⟩
 ·rw[if_neg e];exact⟨rfl,rfl,rfl,rfl,rfl,rfl,rfl,hI.loc y hy,.inl rfl⟩
theorem Xjk (q:Bool)(d:Int):Nd.Local {XL with Xa:=1,XI:=q,doc:=d}:=⟨by simp,by simp,by simp[XS,XL],by simp[Ys,XL],rfl,by simp[XL],fun _=>⟨rfl,rfl⟩,fun _ _=>rfl,fun _=>⟨rfl,rfl⟩,fun _ _=>rfl,fun h=>absurd rfl h⟩
theorem Ar.XC.Xn {A:Ar}{ex:Int}(hI:A.XC ex)(q:Bool):(A.Xn q).XC ex:=by
 refine hI.added rfl rfl rfl rfl (Xjk q _) (.inr ⟨rfl,rfl⟩) (.inl ⟨rfl,?_⟩)
 exact fun h=>absurd h.1 (by simp)
theorem Xcv {l:List Int}{i j k:Nat}{v u:Int}(hi:i<l.length)(hj:j<l.length):((l.set i v).set j u)[k]?.getD 0=if k=j then u else if k=i then v else l[k]?.getD 0:=by
 simp only[List.getElem?_set,List.length_set]
 by_cases h1:j=k
 ·subst h1;simp[hj]
 ·rw[if_neg h1,if_neg (Ne.symm h1)];by_cases h2:i=k;·{subst h2;simp[hi]};·rw[if_neg h2,if_neg (Ne.symm h2)]
theorem Ar.XC.Xq {A:Ar}{ex d:Int}(hI:A.XC ex)(hd:A.has d):(A.Xq d).2.XC ex:=by
 unfold Ar.Xq
 by_cases h0:A.Xu d≠0
 ·rw[if_pos h0];exact hI
 ·rw[if_neg h0];have hD:=hI.Xn false;have hg:∀x,({A.Xn false with Xh:=((A.Xn false).Xh.set d.toNat (A.n+1)).set (A.n+1).toNat (A.n+1)}:Ar).get x=(A.Xn false).get x:=fun x=>rfl;have hlen:(A.Xn false).Xh.length=A.ns.length+2:=by{simp[Ar.Xn,Ar.add,hI.wf.Xh]};have hdl:d.toNat<(A.Xn false).Xh.length:=by{have:=hd.2;unfold Ar.n at this;omega};have hnl:(A.n+1).toNat<(A.Xn false).Xh.length:=by{unfold Ar.n;omega};have hin:∀e:Int,({A.Xn false with Xh:=((A.Xn false).Xh.set d.toNat (A.n+1)).set (A.n+1).toNat (A.n+1)}:Ar).Xu e=if e.toNat=(A.n+1).toNat then A.n+1 else if e.toNat=d.toNat then A.n+1 else(A.Xn false).Xu e:=fun e=>Xcv hdl hnl;have hn0:0≤A.n:=by{unfold Ar.n;omega};have hd1:=hd.1;have hnewhas:(A.Xn false).has (A.n+1):=(Ar.XO _ _ _).2 (.inr rfl);have hdhas:(A.Xn false).has d:=(Ar.XO _ _ _).2 (.inl hd);have hnewk:((A.Xn false).get (A.n+1)).Xa=1:=by{rw[Ar.Xn,Ar.YS]};refine⟨hD.wf.fields rfl (by simp) (fun x _=>⟨rfl,rfl,rfl⟩),hD.loc,hD.host,hD.cont,hD.YG,hD.par,hD.ZB,hD.ZV,hD.XbJ,?_,fun e he=>?_⟩;·{have:=hD.XbK;simp only[List.getElem?_set,List.length_set];rw[if_neg (by omega),if_neg (by omega)];exact this};·rw[hin]at he⊢;by_cases e1:e.toNat=(A.n+1).toNat;·{rw[if_pos e1];have:e=A.n+1:=by{omega};subst this;exact⟨hnewhas,hnewhas,hnewk,by rw[hin,if_pos rfl]⟩};·rw[if_neg e1]at he⊢;by_cases e2:e.toNat=d.toNat;·{rw[if_pos e2];have:e=d:=by{omega};subst this;exact⟨hdhas,hnewhas,hnewk,by rw[hin,if_pos rfl]⟩};·rw[if_neg e2]at he⊢;obtain⟨q1,q2,q3,q4⟩:=hD.Xh e he;refine⟨q1,q2,q3,?_⟩;rw[hin];by_cases e3:((A.Xn false).Xu e).toNat=(A.n+1).toNat;·{rw[if_pos e3];have:=q2.1;omega};·rw[if_neg e3];by_cases e4:((A.Xn false).Xu e).toNat=d.toNat;·{exfalso;have hde:(A.Xn false).Xu e=d:=by{have:=q2.1;omega};rw[hde]at q4;rw[Ar.Xn,Ar.JA hI.wf.Xh]at q4;apply h0;rw[q4];omega};·rw[if_neg e4];exact q4
end
section
/-- A node with other Xcw. -/
abbrev Nd.re (n : Nd) (ks : List Int) (p : Int) : Nd := { n with Xc := ks, Xd := p }
theorem Ar.Zc {A:Ar}{ex:Int}(hI:A.XC ex){h p:Int}(hh:A.has h)(hp:A.has p):(A.cut h).get p=(A.get p).re (if p=(A.get h).Xd then XQ (A.get p).Xc h else(A.get p).Xc) (if p=h then 0 else(A.get p).Xd):=by
 by_cases hz:(A.get h).Xd=0
 ·have hc:A.cut h=A:=by{unfold Ar.cut;rw[if_pos hz]};have e1:(if p=(A.get h).Xd then XQ (A.get p).Xc h else(A.get p).Xc)=(A.get p).Xc:=if_neg (by rw[hz];intro e;rw[e]at hp;exact Za A hp);have e2:(if p=h then 0 else(A.get p).Xd)=(A.get p).Xd:=by{by_cases e:p=h;·{rw[if_pos e,e,hz]};·rw[if_neg e]};rw[hc,e1,e2]
 ·have hpp:=(hI.wf.link h hh hz).1;have hne:(A.get h).Xd≠h:=fun e=>by{obtain⟨l,hl⟩:=hI.wf.way h hh;cases l with|nil=>{exact Za A (by have e0:h=0:=hl;rw[←e0];exact hh)}|cons y l=>have hl0:=hl;have h2:=hl.2.2;have hup:Ye A true h=h:=by{simp only[Ye,Ar.up,if_true];rw[if_pos hz,e]};rw[hup]at h2;have:=XaH h2 hl0;have:=congrArg List.length this;simp at this};unfold Ar.cut;rw[if_neg hz,Ar.Zr _ ((Ar.ZU _ _ _ _).2 hh) ((Ar.ZU _ _ _ _).2 hp),Ar.Zr _ hpp hp,Ar.Zr _ hpp hh];by_cases e1:p=h;·{subst e1;rw[if_pos rfl,if_pos rfl,if_neg (Ne.symm hne),if_neg (Ne.symm hne)]};·rw[if_neg e1,if_neg e1];by_cases e2:p=(A.get h).Xd;·{subst e2;rw[if_pos rfl,if_pos rfl]};·rw[if_neg e2,if_neg e2]
theorem Ar.Z2 (A:Ar)(h:Int):(A.cut h).Xh=A.Xh:=by
 unfold Ar.cut
 split<;>rfl
theorem Ar.XC.Xcw {A A':Ar}{ex:Int}(hI:A.XC ex)(hw:A'.WF)(hn:A'.n=A.n)(hi:A'.Xh=A.Xh)(h:∀x,A.has x→∃ks p,A'.get x=(A.get x).re ks p∧(p≠0→(A.get x).Xa≠1∧(A.get x).Xa≠2)∧(ks≠ []→(A.get x).Xa=1∨(A.get x).Xa=2∨(A.get x).Xa=4)):A'.XC ex:=by
 have hh:∀x,A'.has x↔A.has x:=fun x=>by unfold Ar.has;rw[hn]
 have hin:∀d,A'.Xu d=A.Xu d:=fun d=>by unfold Ar.Xu;rw[hi]
 have hkind:∀x,A.has x→(A'.get x).Xa=(A.get x).Xa:=fun x hx=>by obtain⟨ks,p,e,_⟩:=h x hx;rw[e]
 have hcont:∀x,A.has x→(A'.get x).Xg=(A.get x).Xg:=fun x hx=>by obtain⟨ks,p,e,_⟩:=h x hx;rw[e]
 have hhost:∀x,A.has x→(A'.get x).host=(A.get x).host:=fun x hx=>by obtain⟨ks,p,e,_⟩:=h x hx;rw[e]
 have hdoc:∀x,A.has x→(A'.get x).doc=(A.get x).doc:=fun x hx=>by obtain⟨ks,p,e,_⟩:=h x hx;rw[e]
 have ht:∀x,A.has x→(XN (A'.get x)↔XN (A.get x)):=fun x hx=>by obtain⟨ks,p,e,_⟩:=h x hx;rw[e];rfl
 refine⟨hw,fun x hx=>?_,fun x hx h0=>?_,fun x hx hxe h0=>?_,fun x hx hxe=>?_,fun x hx h0=>?_,fun x hx h0=>?_,fun x hx=>?_,fun x hx h1=>?_,by rw[hi];exact hI.XbK,fun d h0=>?_⟩
 all_goals try have hx':=(hh x).1 hx
 ·obtain⟨ks,p,e,_⟩:=h x hx';have:=hI.loc x hx';rw[e];exact⟨this.k1,this.k6,this.sp,this.at1,this.at2,this.at3,this.el,this.nm,this.ps,this.da,this.qu⟩
 ·rw[hhost x hx']at h0⊢;obtain⟨q1,q2,q3,q4⟩:=hI.host x hx' h0;exact⟨by rw[hkind x hx'];exact q1,(hh _).2 q2,(ht _ q2).2 q3,by rw[hcont _ q2];exact q4⟩
 ·rw[hcont x hx'];obtain⟨q1,q2,q3⟩:=hI.cont x hx' hxe ((ht x hx').1 h0);exact⟨(hh _).2 q1,by rw[hkind _ q1];exact q2,by rw[hhost _ q1];exact q3⟩
 ·rw[hcont x hx'];exact hI.YG x hx' (hxe.imp id (fun e q=>e ((ht x hx').2 q)))
 ·obtain⟨ks,p,e,h1,_⟩:=h x hx';rw[e]at h0⊢;exact h1 h0
 ·obtain⟨ks,p,e,_,h2⟩:=h x hx';rw[e]at h0⊢;exact h2 h0
 ·obtain⟨q1,q2⟩:=hI.ZV x hx';rw[hdoc x hx'];exact⟨(hh _).2 q1,by rw[hkind _ q1];exact q2⟩
 ·rw[hkind x hx']at h1;rw[hdoc x hx'];exact hI.XbJ x hx' h1
 ·rw[hin]at h0⊢;obtain⟨q1,q2,q3,q4⟩:=hI.Xh d h0;exact⟨(hh _).2 q1,(hh _).2 q2,by rw[hkind _ q2];exact q3,by rw[hin];exact q4⟩
theorem Ar.XC.cut {A:Ar}{ex:Int}(hI:A.XC ex){h:Int}(hh:A.has h):(A.cut h).XC ex:=by
 by_cases hz:(A.get h).Xd=0
 ·have hc:A.cut h=A:=by{unfold Ar.cut;rw[if_pos hz]};rw[hc];exact hI
 have hg:∀{p},A.has p→_:=fun{p}hp=>Ar.Zc hI hh hp
 have hhas:∀x,(A.cut h).has x↔A.has x:=Ar.X5 A h
 have hhost:(A.get h).host=0:=by by_cases e:(A.get h).host=0;·{exact e};·exact absurd (hI.host h hh e).1 (hI.par h hh hz).2
 refine hI.Xcw ⟨fun x hx hp=>?_,fun p hp k hk=>?_,fun p hp=>?_,fun x hx=>?_,?_⟩ (Ar.XaG A h) (Ar.Z2 A h) (fun x hx=>?_)
 ·have hx':=(hhas x).1 hx;rw[hg hx']at hp⊢;dsimp only[Nd.re]at hp⊢;by_cases e:x=h;·{rw[if_pos e]at hp;exact absurd rfl hp};·rw[if_neg e]at hp⊢;obtain⟨q1,q2,q3⟩:=hI.wf.link x hx' hp;refine⟨(hhas _).2 q1,?_,?_⟩;·{rw[hg q1];dsimp only[Nd.re];split;·{exact List.mem_filter.2 ⟨q2,by simpa using e⟩};·exact q2};·rw[hg q1];dsimp only[Nd.re];split;·{exact q3.filter _};·exact q3
 ·have hp':=(hhas p).1 hp;rw[hg hp']at hk;dsimp only[Nd.re]at hk;by_cases e:p=(A.get h).Xd;·{rw[if_pos e]at hk;obtain⟨k1,k2⟩:=List.mem_filter.1 hk;obtain⟨q1,q2⟩:=hI.wf.Xc p hp' k k1;exact⟨(hhas _).2 q1,by rw[hg q1];dsimp only[Nd.re];rw[if_neg (by simpa using k2)];exact q2⟩};·rw[if_neg e]at hk;obtain⟨q1,q2⟩:=hI.wf.Xc p hp' k hk;exact⟨(hhas _).2 q1,by rw[hg q1];dsimp only[Nd.re];rw[if_neg (fun e2=>e (by rw[←q2,e2]))];exact q2⟩
 ·have hp':=(hhas p).1 hp;rw[hg hp'];dsimp only[Nd.re];split;·{exact(hI.wf.nodup p hp').filter _};·exact hI.wf.nodup p hp'
 ·obtain⟨l,hl⟩:=hI.wf.way x ((hhas x).1 hx);refine XdY (node:=h) (p:=0) (lp:= []) (fun y hy=>(hhas y).2 hy) (fun y hy hn=>?_) ?_ rfl (by simp) hl;·{simp[Ye,Ar.up,hg hy,hn,Nd.re]};·simp[Ye,Ar.up,hg hh,hhost,Nd.re]
 ·rw[Ar.Z2,Ar.YY];exact hI.wf.Xh
 ·refine⟨_,_,hg hx,fun hp=>?_,fun hk=>?_⟩;·{by_cases e:x=h;·{rw[if_pos e]at hp;exact absurd rfl hp};·rw[if_neg e]at hp;exact hI.par x hx hp};·refine hI.ZB x hx (fun e=>hk ?_);rw[e];split<;>rfl
theorem Xjl {l:List Int}{node before:Int}(hn:l.Nodup)(hb:(before=0∧(0:Int)∉l)∨(before≠0∧before∈l)):(YK l node before).Perm (node::l):=by
 rcases hb with⟨rfl,h0⟩|⟨h0,hm⟩
 ·rw[Xcs h0];exact(List.perm_append_comm).trans (by simp)
 ·obtain⟨i,hi,e⟩:=List.getElem_of_mem hm;rw[XdT h0 hn (i:=i) (by rw[List.getElem?_eq_getElem hi,e])];have:= @List.perm_middle _ node (l.take i) (l.drop i);rwa[List.take_append_drop]at this
theorem Xcx {A:Ar}{up:Int→Int}{l:List Int}{h:Int}(hw:A.Way up h l)(hh:A.has h):h∈l:=by
 cases l with|nil=>{have e:h=0:=hw;rw[e]at hh;exact absurd hh (Za A)}|cons x l=>rw[hw.1];simp
theorem Ar.Xcy {A:Ar}{Xd node before p:Int}(hpar:A.has Xd)(hnode:A.has node)(hp:A.has p)(hne:Xd≠node):(A.place Xd node before).get p=((A.cut node).get p).re (if p=Xd then YK ((A.cut node).get p).Xc node before else((A.cut node).get p).Xc) (if p=node then Xd else((A.cut node).get p).Xd):=by
 unfold Ar.place
 rw[Ar.Zr _ ((Ar.ZU _ _ _ _).2 ((Ar.X5 _ _ _).2 hnode)) ((Ar.ZU _ _ _ _).2 ((Ar.X5 _ _ _).2 hp)),Ar.Zr _ ((Ar.X5 _ _ _).2 hpar) ((Ar.X5 _ _ _).2 hp),Ar.Zr _ ((Ar.X5 _ _ _).2 hpar) ((Ar.X5 _ _ _).2 hnode)]
 by_cases e1:p=node
 ·subst e1;rw[if_pos rfl,if_pos rfl,if_neg (Ne.symm hne),if_neg (Ne.symm hne)]
 ·rw[if_neg e1,if_neg e1];by_cases e2:p=Xd;·{subst e2;rw[if_pos rfl,if_pos rfl]};·rw[if_neg e2,if_neg e2]
theorem Ar.XaI (A:Ar)(Xd node before:Int):(A.place Xd node before).n=A.n:=by
 unfold Ar.place
 rw[Ar.Xad,Ar.Xad,Ar.XaG]
theorem Ar.XdZ (A:Ar)(Xd node before:Int):(A.place Xd node before).Xh=A.Xh:=by
 show(A.cut node).Xh=_
 exact Ar.Z2 A node
theorem Ar.XC.place {A:Ar}{ex:Int}(hI:A.XC ex){Xd node before:Int}(hpar:A.has Xd)(hnode:A.has node)(hb:before≠0→A.has before∧before≠node∧(A.get before).Xd=Xd)(hk:(A.get Xd).Xa=1∨(A.get Xd).Xa=2∨(A.get Xd).Xa=4)(hkn:(A.get node).Xa≠1∧(A.get node).Xa≠2)(hc:A.contains node Xd=false):(A.place Xd node before).XC ex:=by
 have hno:node∉A.YR true Xd:=fun h=>by simp[Ar.contains,hpar,hnode,h]at hc
 have hlp:=hI.wf.Zs hpar
 have hne:Xd≠node:=fun e=>hno (by rw[←e];exact Xcx hlp hpar)
 have hB:=hI.cut hnode
 have hbh:∀x,(A.cut node).has x↔A.has x:=Ar.X5 A node
 have hgB:∀{p},A.has p→_:=fun{p}hp=>Ar.Zc hI hnode hp
 have hg:∀{p},A.has p→_:=fun{p}hp=>Ar.Xcy (before:=before) hpar hnode hp hne
 have hhas:∀x,(A.place Xd node before).has x↔A.has x:=fun x=>by unfold Ar.has;rw[Ar.XaI]
 have hBp:((A.cut node).get node).Xd=0:=by rw[hgB hnode];simp
 have hBpo:∀{x},A.has x→x≠node→((A.cut node).get x).Xd=(A.get x).Xd:=fun hx e=>by rw[hgB hx];simp[e]
 have hnd:=hB.wf.nodup Xd ((hbh _).2 hpar)
 have hnot:∀p,A.has p→node∉((A.cut node).get p).Xc:=fun p hp hm=>by have:=(hB.wf.Xc p ((hbh _).2 hp) node hm).2;rw[hBp]at this;rw[←this]at hp;exact Za A hp
 have hperm:(YK ((A.cut node).get Xd).Xc node before).Perm (node::((A.cut node).get Xd).Xc):=by refine Xjl hnd ?_;by_cases h0:before=0;·{exact .inl ⟨h0,fun hm=>Za A ((hbh _).1 (hB.wf.Xc Xd ((hbh _).2 hpar) 0 hm).1)⟩};·obtain⟨q1,q2,q3⟩:=hb h0;refine .inr ⟨h0,?_⟩;have h4:=(hB.wf.link before ((hbh _).2 q1) (by rw[hBpo q1 q2,q3];intro e;rw[e]at hpar;exact Za A hpar)).2.1;rwa[hBpo q1 q2,q3]at h4
 have hpz:Xd≠0:=fun e=>by rw[e]at hpar;exact Za A hpar
 have hhost:(A.get node).host=0:=by by_cases e:(A.get node).host=0;·{exact e};·exact absurd (hI.host node hnode e).1 hkn.2
 refine hB.Xcw (A':=A.place Xd node before) ⟨fun x hx hp=>?_,fun p hp k hkk=>?_,fun p hp=>?_,fun x hx=>?_,?_⟩ (by rw[Ar.XaI,Ar.XaG]) (by rw[Ar.XdZ,Ar.Z2]) (fun x hx=>?_)
 ·have hx':=(hhas x).1 hx;rw[hg hx']at hp⊢;dsimp only[Nd.re]at hp⊢;by_cases e:x=node;·{rw[if_pos e]at hp⊢;refine⟨(hhas _).2 hpar,?_,?_⟩;·{rw[hg hpar,e];dsimp only[Nd.re];rw[if_pos rfl];exact hperm.mem_iff.2 (by simp)};·rw[hg hpar];dsimp only[Nd.re];rw[if_pos rfl];exact hperm.nodup_iff.2 (List.nodup_cons.2 ⟨hnot Xd hpar,hnd⟩)};·rw[if_neg e]at hp⊢;obtain⟨q1,q2,q3⟩:=hB.wf.link x ((hbh _).2 hx') hp;have q1':=(hbh _).1 q1;refine⟨(hhas _).2 q1',?_,?_⟩;·{rw[hg q1'];dsimp only[Nd.re];split;·{rename_i e2;rw[e2]at q2⊢;exact hperm.mem_iff.2 (List.mem_cons_of_mem _ q2)};·exact q2};·rw[hg q1'];dsimp only[Nd.re];split;·{rename_i e2;rw[e2];exact hperm.nodup_iff.2 (List.nodup_cons.2 ⟨hnot Xd hpar,hnd⟩)};·exact q3
 ·have hp':=(hhas p).1 hp;rw[hg hp']at hkk;dsimp only[Nd.re]at hkk;have hold:k∈((A.cut node).get p).Xc→(A.place Xd node before).has k∧((A.place Xd node before).get k).Xd=p:=fun hm=>by{obtain⟨q1,q2⟩:=hB.wf.Xc p ((hbh _).2 hp') k hm;have q1':=(hbh _).1 q1;refine⟨(hhas _).2 q1',?_⟩;rw[hg q1'];dsimp only[Nd.re];rw[if_neg (fun e=>hnot p hp' (by have hm':=hm;rw[e]at hm';exact hm'))];exact q2};by_cases e:p=Xd;·{rw[if_pos e]at hkk;subst e;rcases List.mem_cons.1 (hperm.mem_iff.1 hkk)with e2|hm;·{rw[e2];refine⟨(hhas _).2 hnode,?_⟩;rw[hg hnode];simp};·exact hold hm};·rw[if_neg e]at hkk;exact hold hkk
 ·have hp':=(hhas p).1 hp;rw[hg hp'];dsimp only[Nd.re];split;·{rename_i e;rw[e];exact hperm.nodup_iff.2 (List.nodup_cons.2 ⟨hnot Xd hpar,hnd⟩)};·exact hB.wf.nodup p ((hbh _).2 hp')
 ·obtain⟨l,hl⟩:=hI.wf.way x ((hhas x).1 hx);refine XdY (node:=node) (p:=Xd) (lp:=A.YR true Xd) (fun y hy=>(hhas y).2 hy) (fun y hy hn=>?_) ?_ hlp hno hl;·{simp only[Ye,Ar.up,hg hy,hgB hy,hn,Nd.re];simp};·simp[Ye,Ar.up,hg hnode,hpz,Nd.re]
 ·have:=Ar.XaI A Xd node before;unfold Ar.n at this;rw[Ar.XdZ,hI.wf.Xh];omega
 ·have hx':=(hbh _).1 hx;refine⟨_,_,hg hx',fun hp=>?_,fun hkk=>?_⟩;·{by_cases e:x=node;·{rw[e,hgB hnode];exact hkn};·rw[if_neg e]at hp;exact hB.par x hx hp};·by_cases e:x=Xd;·{rw[e,hgB hpar];exact hk};·rw[if_neg e]at hkk;exact hB.ZB x hx hkk
end
section
theorem Xjm {out:List Xm}{x y:Xm}(h:y∈Y3 out x):y∈out∨y=x:=by
 unfold Y3 at h
 split at h
 ·exact .inl h
 ·rcases List.mem_append.1 h with h|h;·{exact .inl h};·exact .inr (by simpa using h)
theorem Xf8 :∀{l out:List Xm}{y:Xm},y∈l.foldl Y3 out→y∈out∨y∈l
 | [],out,y,h=> .inl h
 |x::l,out,y,h=>by{rcases Xf8 (l:=l) h with h|h;·{rcases Xjm h with h|h;·{exact .inl h};·exact .inr (by simp[h])};·exact .inr (by simp[h])}
theorem Xf9 {l:List Xm}{y:Xm}(h:y∈XZ l):y∈l:=by
 rcases Xf8 h with h|h
 ·simp at h
 ·exact h
theorem Xga :∀(l acc:List Xm),(l.foldl Y3 acc).length≤acc.length+l.length
 | [],acc=>by{simp}
 |x::l,acc=>by{have:=Xga l (Y3 acc x);have h2:(Y3 acc x).length≤acc.length+1:=by{unfold Y3;split<;>simp};simp only[List.foldl_cons,List.length_cons];omega}
theorem Xcz (l:List Xm):(XZ l).length≤l.length:=by
 have:=Xga l []
 simpa[XZ]using this
/-- No name twice. -/
def JK (l : List Xm) : Prop := l.Pairwise (fun a b => Zl b a = false)
theorem Xd0 :∀{l acc:List Xm},JK acc→JK (l.foldl Y3 acc)
 | [],acc,h=>h
 |x::l,acc,h=>by{refine Xd0 (l:=l) ?_;unfold Y3;split;·{exact h};·rename_i hn;refine List.pairwise_append.2 ⟨h,by simp,fun a ha b hb=>?_⟩;simp at hb hn;subst hb;have:=hn a.1 a.2.1 a.2.2 ha;simpa using this}
theorem Xd1 :∀{l acc:List Xm},JK (acc++l)→l.foldl Y3 acc=acc++l
 | [],acc,_=>by{simp}
 |x::l,acc,h=>by{have h1:Y3 acc x=acc++ [x]:=by{unfold Y3;rw[if_neg];simp only[List.any_eq_true,not_exists,not_and,Bool.not_eq_true];intro a ha;exact(List.pairwise_append.1 h).2.2 a ha x (by simp)};rw[List.foldl_cons,h1,Xd1 (by simpa using h)];simp}
theorem Xgb (l:List Xm):XZ (XZ l)=XZ l:=by
 have h:JK (XZ l):=Xd0 (l:=l) (acc:= []) List.Pairwise.nil
 have:=Xd1 (l:=XZ l) (acc:= []) (by simpa using h)
 simpa[XZ]using this
theorem Ar.JS {A:Ar}{d x:Int}(hx:A.has x):(A.Xq d).2.get x=A.get x∧(A.Xq d).2.has x:=by
 unfold Ar.Xq
 split
 ·exact⟨rfl,hx⟩
 ·exact⟨Ar.Zb _ hx,(Ar.XO _ _ _).2 (.inl hx)⟩
theorem Ar.XC.Xbb {A:Ar}{ex d:Int}(hI:A.XC ex)(hd:A.has d):(A.Xq d).2.has (A.Xq d).1∧((A.Xq d).2.get (A.Xq d).1).Xa=1:=by
 unfold Ar.Xq
 split
 ·rename_i h;obtain⟨_,q2,q3,_⟩:=hI.Xh d h;exact⟨q2,q3⟩
 ·exact⟨(Ar.XO _ _ _).2 (.inr rfl),by show((A.Xn false).get (A.n+1)).Xa=1;rw[Ar.Xn,Ar.YS]⟩
theorem XbL {d s:Int}{name:ByteArray}{l:List Xm}(hs:XS s)(ha:Ys l)(hl:l.length≤1000):Nd.Local {XL with Xa:=4,doc:=d,space:=s,name:=name,Xb:=XZ l}:=⟨by simp,by simp,hs,fun a h=>ha a (Xf9 h),Xgb l,Nat.le_trans (Xcz l) hl,fun h=>absurd rfl h,fun h=>absurd rfl h,fun _=>⟨rfl,rfl⟩,fun _ _=>rfl,fun _=>rfl⟩
theorem Xgc {d h:Int}:Nd.Local {XL with Xa:=2,host:=h,doc:=d}:=⟨by simp,by simp,by simp[XS,XL],by simp[Ys,XL],rfl,by simp[XL],fun _=>⟨rfl,rfl⟩,fun _ _=>rfl,fun _=>⟨rfl,rfl⟩,fun _ _=>rfl,fun _=>rfl⟩
theorem Ar.XC.Xg {A:Ar}{ex i:Int}(hI:A.XC ex)(hh:A.has ex)(ht:XN (A.get ex))(hi:A.has i)(hik:(A.get i).Xa=1):((A.add {XL with Xa:=2,host:=ex,doc:=i}).mod ex (fun x=>{x with Xg:=A.n+1})).Inv:=by
 obtain⟨c,hc⟩:∃c:Nd,c={XL with Xa:=2,host:=ex,doc:=i}:=⟨_,rfl⟩
 rw[←hc]
 have hck:c.Xc= []:=by rw[hc];rfl
 have hcp:c.Xd=0:=by rw[hc];rfl
 have hch:c.host=ex:=by rw[hc]
 have hckind:c.Xa=2:=by rw[hc]
 have hcd:c.doc=i:=by rw[hc]
 have hcc:c.Xg=0:=by rw[hc];rfl
 have hcl:c.Local:=by rw[hc];exact Xgc
 have hnt:¬XN c:=fun h=>by have:=h.1;rw[hckind]at this;omega
 have hold:∀{x},A.has x→(A.add c).get x=A.get x:=fun hx=>Ar.Zb c hx
 have hexh:(A.add c).has ex:=(Ar.XO _ _ _).2 (.inl hh)
 have hex0:ex≠0:=fun e=>by rw[e]at hh;exact Za A hh
 have hne:A.n+1≠ex:=fun e=>by rw[←e]at hh;exact Ar.Xba A hh
 have hW:=hI.wf.added (n:=c) hck hcp (fun _=>by rw[hch];exact hh)
 have hmh:∀x,((A.add c).mod ex (fun x=>{x with Xg:=A.n+1})).has x↔A.has x∨x=A.n+1:=fun x=>by rw[Ar.ZU,Ar.XO]
 have hgold:∀{x},A.has x→x≠ex→((A.add c).mod ex (fun x=>{x with Xg:=A.n+1})).get x=A.get x:=fun{x}hx e=>by rw[Ar.Zr _ hexh ((Ar.XO _ _ _).2 (.inl hx)),if_neg e,hold hx]
 have hgex:((A.add c).mod ex (fun x=>{x with Xg:=A.n+1})).get ex={A.get ex with Xg:=A.n+1}:=by rw[Ar.Zr _ hexh hexh,if_pos rfl,hold hh]
 have hgnew:((A.add c).mod ex (fun x=>{x with Xg:=A.n+1})).get (A.n+1)=c:=by rw[Ar.Zr _ hexh ((Ar.XO _ _ _).2 (.inr rfl)),if_neg hne,Ar.YS]
 have hin:∀d,((A.add c).mod ex (fun x=>{x with Xg:=A.n+1})).Xu d=A.Xu d:=fun d=>Ar.JA hI.wf.Xh c d
 have hkind:∀{x},A.has x→(((A.add c).mod ex (fun x=>{x with Xg:=A.n+1})).get x).Xa=(A.get x).Xa:=fun{x}hx=>by by_cases e:x=ex;·{rw[e,hgex]};·rw[hgold hx e]
 have hT:∀{x},A.has x→(XN (((A.add c).mod ex (fun x=>{x with Xg:=A.n+1})).get x)↔XN (A.get x)):=fun{x}hx=>by by_cases e:x=ex;·{rw[e,hgex];exact Iff.rfl};·rw[hgold hx e]
 have hWm:((A.add c).mod ex (fun x=>{x with Xg:=A.n+1})).WF:=hW.fields (Ar.Xad _ _ _) rfl (fun x hx=>by rw[Ar.Zr _ hexh hx];split;·{rename_i e;rw[e];exact⟨rfl,rfl,rfl⟩};·exact⟨rfl,rfl,rfl⟩)
 have hi0:=hI.XbK
 generalize hB:(A.add c).mod ex (fun x=>{x with Xg:=A.n+1})=B at*
 have hBi:B.Xh[0]?=some 0:=by rw[←hB];have h0:0<A.Xh.length:=(List.getElem?_eq_some_iff.1 hi0).1;simp only[Ar.mod,Ar.add,List.getElem?_append,h0,if_true];exact hi0
 clear hB
 refine⟨hWm,fun x hx=>?_,fun x hx h0=>?_,fun x hx hxe htx=>?_,fun x hx hxe=>?_,fun x hx h0=>?_,fun x hx h0=>?_,fun x hx=>?_,fun x hx h1=>?_,hBi,fun d h0=>?_⟩
 ·rcases(hmh x).1 hx with hx'|rfl;·{by_cases e:x=ex;·{subst e;rw[hgex];have:=hI.loc x hx';exact⟨this.k1,this.k6,this.sp,this.at1,this.at2,this.at3,this.el,this.nm,this.ps,this.da,this.qu⟩};·rw[hgold hx' e];exact hI.loc x hx'};·rw[hgnew];exact hcl
 ·rcases(hmh x).1 hx with hx'|rfl;·{have hhx:(B.get x).host=(A.get x).host:=by{by_cases e:x=ex;·{subst e;rw[hgex]};·rw[hgold hx' e]};rw[hhx]at h0⊢;obtain⟨q1,q2,q3,q4⟩:=hI.host x hx' h0;have hn:(A.get x).host≠ex:=fun e=>by{rw[e,hI.YG ex hh (.inl rfl)]at q4;rw[←q4]at hx';exact Za A hx'};exact⟨by rw[hkind hx'];exact q1,(hmh _).2 (.inl q2),(hT q2).2 q3,by rw[hgold q2 hn];exact q4⟩};·rw[hgnew,hch];exact⟨hckind,(hmh _).2 (.inl hh),(hT hh).2 ht,by rw[hgex]⟩
 ·rcases(hmh x).1 hx with hx'|rfl;·{by_cases e:x=ex;·{subst e;rw[hgex];dsimp only;exact⟨(hmh _).2 (.inr rfl),by rw[hgnew];exact hckind,by rw[hgnew];exact hch⟩};·rw[hgold hx' e];obtain⟨q1,q2,q3⟩:=hI.cont x hx' e ((hT hx').1 htx);have hnc:(A.get x).Xg≠ex:=fun e2=>by{rw[e2]at q2;have:=ht.1;omega};exact⟨(hmh _).2 (.inl q1),by rw[hgold q1 hnc];exact q2,by rw[hgold q1 hnc];exact q3⟩};·rw[hgnew]at htx;exact absurd htx hnt
 ·rcases(hmh x).1 hx with hx'|rfl;·{have hxe':¬XN (A.get x):=by{rcases hxe with e|e;·{rw[e]at hx';exact absurd hx' (Za A)};·exact fun q=>e ((hT hx').2 q)};have e:x≠ex:=fun e=>hxe' (by rw[e];exact ht);rw[hgold hx' e];exact hI.YG x hx' (.inr hxe')};·rw[hgnew];exact hcc
 ·rcases(hmh x).1 hx with hx'|rfl;·{rw[hkind hx'];refine hI.par x hx' (fun e=>h0 ?_);by_cases e2:x=ex;·{subst e2;rw[hgex];exact e};·rw[hgold hx' e2];exact e};·rw[hgnew]at h0;exact absurd hcp h0
 ·rcases(hmh x).1 hx with hx'|rfl;·{rw[hkind hx'];refine hI.ZB x hx' (fun e=>h0 ?_);by_cases e2:x=ex;·{subst e2;rw[hgex];exact e};·rw[hgold hx' e2];exact e};·rw[hgnew]at h0;exact absurd hck h0
 ·rcases(hmh x).1 hx with hx'|rfl;·{have hdx:(B.get x).doc=(A.get x).doc:=by{by_cases e:x=ex;·{subst e;rw[hgex]};·rw[hgold hx' e]};obtain⟨q1,q2⟩:=hI.ZV x hx';rw[hdx];exact⟨(hmh _).2 (.inl q1),by rw[hkind q1];exact q2⟩};·rw[hgnew,hcd];exact⟨(hmh _).2 (.inl hi),by rw[hkind hi];exact hik⟩
 ·rcases(hmh x).1 hx with hx'|rfl;·{have hdx:(B.get x).doc=(A.get x).doc:=by{by_cases e:x=ex;·{subst e;rw[hgex]};·rw[hgold hx' e]};rw[hkind hx']at h1;rw[hdx];exact hI.XbJ x hx' h1};·rw[hgnew]at h1;omega
 ·rw[hin]at h0⊢;obtain⟨q1,q2,q3,q4⟩:=hI.Xh d h0;exact⟨(hmh _).2 (.inl q1),(hmh _).2 (.inl q2),by rw[hkind q2];exact q3,by rw[hin];exact q4⟩
end
section
open Go.RowKit
end
end Go.Proofs.YtpicinjcmjaogaaGreatDoor
