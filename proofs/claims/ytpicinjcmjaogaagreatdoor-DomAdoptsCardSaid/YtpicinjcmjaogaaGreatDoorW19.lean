import Derived.Maps.AppendAt
import Derived.Maps.OwnIn
import Derived.Test.YtpicinjcmjaogaaGreatDoorW05
set_option maxRecDepth 100000
set_option maxHeartbeats 4000000
set_option linter.unusedVariables false
namespace Go.Proofs.YtpicinjcmjaogaaGreatDoor
section
open Go.RowKit
section
variable {F : Fence} {n : Nat} {P : Program}
end
theorem Own.grow {w0 W w1:World}{B base:Nat}{e:TypeId}{size:Nat}{v v':Value}{n n':Nat}{xs xs':List Value}{l:List Xf}(h:Own w0 B (.row e size v n xs::l) W)(hown:w1.ownsRow base e size v' n' xs')(hg:W.grownBy w1 v.ownBlock)(hat:v'.ownBlock=v.ownBlock∨v'.ownBlock=some W.heap.size):Own w0 B (.row e size v' n' xs'::l) w1:=by
 obtain⟨S1,⟨h1,h2⟩,hf⟩:=h.front
 refine hf w1 _ ⟨fun k=>v'.ownBlock=some k,⟨YP hown (Nat.zero_le _),fun _=>Iff.rfl⟩,Upd.grown hg (fun k hk=>(h2 k).2 hk),fun k hk hv=>(h2 k).2 ?_⟩
 rcases hat with hat|hat
 ·rw[←hat];exact hv
 ·rw[hv]at hat;simp at hat;omega
theorem Own.J4 {w0 W:World}{B g:Nat}{t:TypeId}{v u:Value}{l:List Xf}(h:Own w0 B (.box g (.cells #[v] t (0,0))::l) W):Own w0 B (.box g (.cells #[u] t (0,0))::l) (W.setCell ⟨g,0,none⟩ u):=h.Xak ((Upd.refl (fun k=>k=g) W).setCell (p:=⟨g,0,none⟩) (.inr rfl) u) (one_setCell (h.box (o:= .cells #[v] t (0,0)) (by simp)))
theorem Own.Xb5 {w0 w:World}{B:Nat}{a b c d:Xf}{l:List Xf}(h:Own w0 B (a::b::c::d::l) w):Own w0 B (d::a::b::c::l) w:=by
 obtain⟨S,⟨S1,S2,h1,h2,h3,h4⟩,h5⟩:=h.hold
 obtain⟨S3,S4,k1,⟨S5,S6,m1,⟨S7,S8,p1,p2,p3,p4⟩,m3,m4⟩,k3,k4⟩:=h2
 refine⟨⟨S,⟨S7,fun k=>S1 k∨S3 k∨S5 k∨S8 k,p1,⟨S1,fun k=>S3 k∨S5 k∨S8 k,h1,⟨S3,fun k=>S5 k∨S8 k,k1,⟨S5,S8,m1,p2,?_,fun _=>Iff.rfl⟩,?_,fun _=>Iff.rfl⟩,?_,fun _=>Iff.rfl⟩,?_,?_⟩,h5⟩,h.low,h.size⟩
 ·intro k hk hf;exact m3 k hk ((p4 k).2 (.inr hf))
 ·intro k hk hf;rcases hf with hf|hf;·{exact k3 k hk ((m4 k).2 (.inl hf))};·exact k3 k hk ((m4 k).2 (.inr ((p4 k).2 (.inr hf))))
 ·intro k hk hf;rcases hf with hf|hf|hf;·{exact h3 k hk ((k4 k).2 (.inl hf))};·{exact h3 k hk ((k4 k).2 (.inr ((m4 k).2 (.inl hf))))};·exact h3 k hk ((k4 k).2 (.inr ((m4 k).2 (.inr ((p4 k).2 (.inr hf))))))
 ·intro k hk hf;rcases hf with hf|hf|hf|hf;·{exact h3 k hf ((k4 k).2 (.inr ((m4 k).2 (.inr ((p4 k).2 (.inl hk))))))};·{exact k3 k hf ((m4 k).2 (.inr ((p4 k).2 (.inl hk))))};·{exact m3 k hf ((p4 k).2 (.inl hk))};·exact p3 k hk hf
 ·intro k;rw[h4 k,k4 k,m4 k,p4 k];constructor;·{rintro(q|q|q|q|q);·{exact .inr (.inl q)};·{exact .inr (.inr (.inl q))};·{exact .inr (.inr (.inr (.inl q)))};·{exact .inl q};·exact .inr (.inr (.inr (.inr q)))};·rintro(q|q|q|q|q);·{exact .inr (.inr (.inr (.inl q)))};·{exact .inl q};·{exact .inr (.inl q)};·{exact .inr (.inr (.inl q))};·exact .inr (.inr (.inr (.inr q)))
end
section
open Go.RowKit
theorem ZK.perm {w:World}{l l':List Xf}(h:l.Perm l'):∀{S:Nat→Prop},ZK w l S→ZK w l' S:=by
 induction h with|nil=>{exact fun h=>h}|cons a _ ih=>{rintro S⟨S1,S2,h1,h2,h3,h4⟩;exact⟨S1,S2,h1,ih h2,h3,h4⟩}|swap a b l=>{rintro S⟨S1,S2,h1,⟨S3,S4,g1,g2,g3,g4⟩,h3,h4⟩;refine⟨S3,fun k=>S1 k∨S4 k,g1,⟨S1,S4,h1,g2,fun k hk hf=>h3 k hk ((g4 k).2 (.inr hf)),fun k=>Iff.rfl⟩,fun k hk hf=>?_,fun k=>?_⟩;·{rcases hf with hf|hf;·{exact h3 k hf ((g4 k).2 (.inl hk))};·exact g3 k hk hf};·rw[h4 k,g4 k];exact⟨fun q=>q.elim (fun q=> .inr (.inl q)) (fun q=>q.elim .inl (fun q=> .inr (.inr q))),fun q=>q.elim (fun q=> .inr (.inl q)) (fun q=>q.elim .inl (fun q=> .inr (.inr q)))⟩}|trans _ _ ih1 ih2=>exact fun h=>ih2 (ih1 h)
theorem Own.perm {w0 w:World}{B:Nat}{l l':List Xf}(h:Own w0 B l w)(hp:l.Perm l'):Own w0 B l' w:=by
 obtain⟨S,h1,h2⟩:=h.hold
 exact⟨⟨S,h1.perm hp,h2⟩,h.low,h.size⟩
/-- Blocks that nobody else writes, with what is in them. -/
def Xf.keep (G : Nat → Prop) (f : Nat → Option Obj) : Xf where
  P w S := (∀ k, S k ↔ G k) ∧ (∀ k, G k → k < w.heap.size) ∧ ∀ k, G k → w.heap[k]? = f k
  upd := by
    rintro w w' S F ⟨h1, h2, h3⟩ hu hF
    exact ⟨h1, fun k hk => Nat.lt_of_lt_of_le (h2 k hk) hu.size, fun k hk => (hu.block k (h2 k hk) (hF k ((h1 k).2 hk))).trans (h3 k hk)⟩
  lt := by
    rintro w S ⟨h1, h2, _⟩ k hk
    exact h2 k ((h1 k).1 hk)
theorem Own.kept {w0 w:World}{B:Nat}{G:Nat→Prop}{f:Nat→Option Obj}{l:List Xf}(h:Own w0 B l w)(hm:Xf.keep G f∈l):∀k,G k→w.heap[k]?=f k:=let⟨_,⟨_,_,q⟩,_⟩:=h.get hm;q
theorem Own.XkE {w0 w:World}{B:Nat}{l:List Xf}(h:Own w0 B l w)(f:Nat→Option Obj):Own w0 B (.keep (fun _=>False) f::l) w:=h.fresh (Below.refl _ _) ⟨fun _=>False,⟨fun _=>Iff.rfl,fun _ h=>h.elim,fun _ h=>h.elim⟩,fun _ h=>h.elim⟩
theorem Own.XkF {w0 w w':World}{B:Nat}{G:Nat→Prop}{f:Nat→Option Obj}{l:List Xf}(h:Own w0 B (.keep G f::l) w)(hb:Below w.heap.size w w'):Own w0 B (.keep (fun k=>G k∨(w.heap.size≤k∧k<w'.heap.size)) (fun k=>w'.heap[k]?)::l) w':=by
 obtain⟨S1,⟨h1,h2,h3⟩,hf⟩:=h.front
 refine hf w' _ ⟨_,⟨fun k=>Iff.rfl,?_,fun _ _=>rfl⟩,Upd.below hb,?_⟩
 ·rintro k(hk|hk);·{exact Nat.lt_of_lt_of_le (h2 k hk) hb.size};·exact hk.2
 ·rintro k hlt(hk|hk);·{exact(h1 k).2 hk};·omega
theorem Own.XkG {w0 w:World}{B:Nat}{G G':Nat→Prop}{f f':Nat→Option Obj}{l:List Xf}(h:Own w0 B (.keep G f::l) w)(hs:∀k,G' k→G k)(hf:∀k,G' k→f' k=f k):Own w0 B (.keep G' f'::l) w:=by
 obtain⟨S1,⟨h1,h2,h3⟩,hh⟩:=h.front
 exact hh w _ ⟨G',⟨fun _=>Iff.rfl,fun k hk=>h2 k (hs k hk),fun k hk=>(h3 k (hs k hk)).trans (hf k hk).symm⟩,Upd.refl _ _,fun k _ hk=>(h1 k).2 (hs k hk)⟩
theorem Own.XgY {w0 w w':World}{B g:Nat}{o:Obj}{G:Nat→Prop}{f:Nat→Option Obj}{l:List Xf}(h:Own w0 B (.keep G f:: .box g o::l) w)(hu:Upd (fun k=>k=g) w w'):Own w0 B (.keep (fun k=>G k∨k=g) (fun k=>w'.heap[k]?)::l) w':=by
 obtain⟨S,⟨S1,S2,⟨h1,h2,h3⟩,⟨S3,S4,⟨k1,k2⟩,g2,g3,g4⟩,h5,h6⟩,h7⟩:=h.hold
 have hg:g<w.heap.size:=lt_of_block k1
 have h0:Own w0 B (.keep (fun k=>G k∨k=g) (fun k=>w.heap[k]?)::l) w:=by refine⟨⟨S,⟨fun k=>S1 k∨S3 k,S4,⟨fun k=>by show S1 k∨S3 k↔G k∨k=g;rw[h1 k,k2 k],?_,fun _ _=>rfl⟩,g2,?_,?_⟩,h7⟩,h.low,h.size⟩;·{rintro k(hk|rfl);·{exact h2 k hk};·exact hg};·{rintro k(hk|hk)hf;·{exact h5 k hk ((g4 k).2 (.inr hf))};·exact g3 k hk hf};·intro k;rw[h6 k,g4 k];exact⟨fun q=>q.elim (fun q=> .inl (.inl q)) (fun q=>q.elim (fun q=> .inl (.inr q)) .inr),fun q=>q.elim (fun q=>q.elim .inl (fun q=> .inr (.inl q))) (fun q=> .inr (.inr q))⟩
 obtain⟨Sx,⟨m1,m2,m3⟩,hh⟩:=h0.front
 refine hh w' _ ⟨Sx,⟨m1,fun k hk=>Nat.lt_of_lt_of_le (m2 k hk) hu.size,fun _ _=>rfl⟩,hu.mono (fun k _ hk=>(m1 k).2 (.inr hk)),fun k _ hk=>hk⟩
theorem Own.XgZ {w0 w w':World}{B g:Nat}{o':Obj}{G:Nat→Prop}{f f':Nat→Option Obj}{l:List Xf}(h:Own w0 B (.keep (fun k=>G k∨k=g) f::l) w)(hG:¬G g)(hu:Upd (fun k=>k=g) w w')(ho:w'.heap[g]?=some o')(hf:∀k,G k→f' k=f k):Own w0 B (.keep G f':: .box g o'::l) w':=by
 obtain⟨S,⟨S1,S2,⟨h1,h2,h3⟩,g2,h5,h6⟩,h7⟩:=h.hold
 have hb:Below B w w':=⟨hu.os,hu.tape,hu.output,hu.size,fun k hk=>hu.block k (Nat.lt_of_lt_of_le hk h.big) (fun e=>by have:=h7 k ((h6 k).2 (.inl ((h1 k).2 (.inr e))));omega)⟩
 refine⟨⟨S,⟨G,fun k=>k=g∨S2 k,⟨fun _=>Iff.rfl,fun k hk=>Nat.lt_of_lt_of_le (h2 k (.inl hk)) hu.size,fun k hk=>?_⟩,⟨fun k=>k=g,S2,⟨ho,fun _=>Iff.rfl⟩,g2.upd hu (fun k hk e=>h5 k ((h1 k).2 (.inr e)) hk),fun k hk hf=>h5 k ((h1 k).2 (.inr hk)) hf,fun _=>Iff.rfl⟩,?_,?_⟩,h7⟩,h.low.trans hb,h.size⟩
 ·rw[hu.block k (h2 k (.inl hk)) (fun e=>hG (e▸hk)),h3 k (.inl hk)];exact(hf k hk).symm
 ·rintro k hk(rfl|hf);·{exact hG hk};·exact h5 k ((h1 k).2 (.inl hk)) hf
 ·intro k;rw[h6 k,h1 k];exact⟨fun q=>q.elim (fun q=>q.elim .inl (fun q=> .inr (.inl q))) (fun q=> .inr (.inr q)),fun q=>q.elim (fun q=> .inl (.inl q)) (fun q=>q.elim (fun q=> .inl (.inr q)) .inr)⟩
theorem Own.Xg0 {w0 w:World}{B g:Nat}{o:Obj}{G:Nat→Prop}{f:Nat→Option Obj}{l:List Xf}(h:Own w0 B (.keep G f:: .box g o::l) w):¬G g:=by
 obtain⟨S,⟨S1,S2,⟨h1,h2,h3⟩,⟨S3,S4,⟨k1,k2⟩,g2,g3,g4⟩,h5,h6⟩,h7⟩:=h.hold
 exact fun hg=>h5 g ((h1 g).2 hg) ((g4 g).2 (.inl ((k2 g).2 rfl)))
section
variable {F : Fence} {n : Nat} {P : Program}
/-- The iterator g: the rounds keep its memory; what it reads of theirs is told by Rd. -/
def Xg1 {α : Type} (F : Fence) (n : Nat) (P : Program) (g : Nat) (lb : Array Value) (encs : α → Array Value) (S Sp : List α → Prop) (Rd : List Xf → Prop) (w0 : World) (B : Nat) : Prop :=
  ∀ (l : Nat) (Lf : List α → List Xf → Prop) (Jx : List α → World → Prop) (W : World) (L : List Xf),
    (∀ pre L, Lf pre L → Rd L) →
    (∀ pre x W1 L G f, Sp (pre ++ [x]) → Lf pre L → Own w0 B (.keep G f :: L) W1 → YieldAt F (n - 1) P l (encs x) W1 fun e W' =>
      (e = .returned (.bool true) ∧ ∃ L', Lf (pre ++ [x]) L' ∧ Own w0 B (.keep G f :: L') W') ∨ (e = .returned (.bool false) ∧ Jx (pre ++ [x]) W')) →
    Lf [] L → Own w0 B L W →
    CallsIn F n P g (#[.func (.yield l) #[] #[]] ++ lb) W fun e W' => (∃ v, e = .returned v) ∧ ((∃ xs L', S xs ∧ Lf xs L' ∧ Own w0 B L' W') ∨ (∃ pre, Sp pre ∧ Jx pre W'))
/-- How the body of a round may be left: it goes on, or it returns. -/
def XkH (w0 : World) (B : Nat) (G : Nat → Prop) (f : Nat → Option Obj) (I : List Xf → Prop) (Ix : Code → List Xf → Prop) : Exit → Act → World → Prop
  | .normal, _, W' => ∃ L, I L ∧ Own w0 B (.keep G f :: L) W'
  | .ret, _, W' => ∃ L, Ix .ret L ∧ Own w0 B (.keep G f :: L) W'
  | .exit id, _, W' => ∃ L, Ix (.exit id) L ∧ Own w0 B (.keep G f :: L) W'
  | _, _, _ => False
theorem XeP {α:Type}{g:Operand}{ps:Array Tmp}{assign body:Code}{Q:Exit→Act→World→Prop}{a:Act}{w w0:World}{B:Nat}{L:List Xf}(hro:F.round=none)(h1:1≤n){gf:Nat}{lb:Array Value}(hg:a.eval g= .func (.func gf) #[] lb)(hFg:F.fn gf)(eg:∀args w,(callFunc gf args).run P w= .ok (.enter gf args) w){encs:α→Array Value}{S Sp:List α→Prop}{Rd:List Xf→Prop}(hRd:∀a L,Rd L→Rd (a::L))(hseq:Xg1 F (n-1) P gf lb encs S Sp Rd w0 B)(hps:∀x,(encs x).size=ps.size)(o:Own w0 B L w)(Lf:List α→List Xf→Prop)(Lx:Code→List α→List Xf→Prop)(hLR:∀pre L,Lf pre L→Rd L)(h0:Lf [] L)(a₁:α→Act)(hassign:∀(l:Nat)(x:α)(W:World)(K:Act→World→Prop),K (a₁ x) W→assign.wpIn (F.inRound l) (n-1-1) P (Exit.then K (fun _ _ _=>False)) {tmps:=(ps.zip (encs x)).foldl (fun t(p,v)=>t.setIfInBounds p v) a.tmps,defers:= []} W)(hbody:∀(l:Nat)(G:Nat→Prop)(f:Nat→Option Obj)(pre:List α)(x:α)(W:World)(L:List Xf),Sp (pre++ [x])→Lf pre L→Own w0 B (.keep G f::L) W→body.wpIn (F.inRound l) (n-1-1) P (XkH w0 B G f (Lf (pre++ [x])) (fun c=>Lx c (pre++ [x]))) (a₁ x) W)(hdone:∀(xs:List α)(W:World)(L:List Xf),S xs→Lf xs L→Own w0 B (.box w.heap.size (.deferred (some []))::L) W→Q .normal {a with defers:={target:= .collected w.heap.size,args:= #[]}::a.defers} W)(hstop:∀(c:Code)(pre:List α)(W:World)(L:List Xf),Sp pre→Lx c pre L→Own w0 B (.box w.heap.size (.deferred (some []))::L) W→c.wpIn F n P Q {a with defers:={target:= .collected w.heap.size,args:= #[]}::a.defers} W):(Code.rangeFunc g ps assign body).wpIn F n P Q a w:=by
 refine wpIn_rangeFunc ?_
 intro fn hfn
 rw[hro]
 obtain⟨rec,hrec⟩:∃rec:LoopState→Option Code→Loop,rec=fun st pe=>{state:=st,pending:=pe,fn,tmps:=a.tmps,params:=ps,assign,body,defers:=w.heap.size}:=⟨_,rfl⟩
 obtain⟨W1,hW1⟩:∃W1,(w.alloc (.deferred (some []))).alloc (.loop (rec .ready none))=W1:=⟨_,rfl⟩
 have o1:Own w0 B (.box (w.heap.size+1) (.loop (rec .ready none)):: .box w.heap.size (.deferred (some []))::L) W1:=by have:=(o.alloc (.deferred (some []))).alloc (.loop (rec .ready none));rw[World.size_alloc,hW1]at this;exact this
 refine⟨w.heap.size+1,[{target:= .collected w.heap.size,args:= #[]}],W1,{target:= .fn (.func gf) lb,args:= #[.func (.yield (w.heap.size+1)) #[] #[]]},W1,gf,#[.func (.yield (w.heap.size+1)) #[] #[]]++lb,W1,?_,?_,?_,?_,fun _=>h1,?_⟩
 ·rw[←hW1,hrec];exact run_enterLoop_outer _ _ _ _ _
 ·simp only[resolve,hg];simp[go_sem]
 ·intro f' hf';simp[Target.leads]at hf';subst hf';exact hFg
 ·simp[invoke,go_sem,eg]
 ·refine(hseq (w.heap.size+1) (fun pre L'=>∃L0,Lf pre L0∧L'= .box (w.heap.size+1) (.loop (rec .ready none)):: .box w.heap.size (.deferred (some []))::L0) (fun pre W=>∃c L0,Lx c pre L0∧Own w0 B (.box (w.heap.size+1) (.loop (rec .done (some c))):: .box w.heap.size (.deferred (some []))::L0) W) W1 _ ?_ ?_ ⟨L,h0,rfl⟩ o1).mono ?_;·{rintro pre L'⟨L0,hl,rfl⟩;exact hRd _ _ (hRd _ _ (hLR _ _ hl))};·{rintro pre x W L' G f hsp⟨L0,hl0,rfl⟩ho;have hl:=ho.box (g:=w.heap.size+1) (o:= .loop (rec .ready none)) (by simp);have hlt:w.heap.size+1<W.heap.size:=lt_of_block hl;have hy:=run_yield (P:=P) (args:=encs x) hl (by rw[hrec];exact hps x);rw[hrec]at hy;refine⟨fn,_,assign,body,hy,roundIn_of_wpIn hfn (hassign _ x W _ ⟨_,run_beginRound hl (by rw[hrec]),?_⟩)⟩;have hG1:=ho.Xg0;have o2:=ho.XgY (w':=W.putObj (w.heap.size+1) (.loop {rec .ready none with state:= .busy})) (ZT _ rfl);have hG2:=o2.Xg0;have o3:=o2.XgY (Upd.refl _ _);have hl2:(W.putObj (w.heap.size+1) (.loop {rec .ready none with state:= .busy})).heap[w.heap.size+1]?=some (.loop {rec .ready none with state:= .busy}):=World.putObj_heap_same hlt;have hd2:(W.putObj (w.heap.size+1) (.loop {rec .ready none with state:= .busy})).heap[w.heap.size]?=some (.deferred (some [])):=o2.box (by simp);have hf2:∀k,G k→(W.putObj (w.heap.size+1) (.loop {rec .ready none with state:= .busy})).heap[k]?=f k:=fun k hk=>(World.putObj_heap_other (by rintro rfl;exact hG1 hk)).trans (ho.kept (G:=G) (f:=f) (by simp) k hk);refine wpIn_mono (hbody _ _ _ pre x _ L0 hsp hl0 o3) ?_;have fin:∀(jump:Option Code)(W3:World)(L3:List Xf),Own w0 B (.keep (fun k=>(G k∨k=w.heap.size+1)∨k=w.heap.size) (fun k=>(W.putObj (w.heap.size+1) (.loop {rec .ready none with state:= .busy})).heap[k]?)::L3) W3→(Instr.endRound (w.heap.size+1) jump).run P W3= .ok (.bool jump.isNone) (W3.putObj (w.heap.size+1) (.loop (rec (if jump.isNone then .ready else .done) jump)))∧Own w0 B (.keep G f:: .box (w.heap.size+1) (.loop (rec (if jump.isNone then .ready else .done) jump)):: .box w.heap.size (.deferred (some []))::L3) (W3.putObj (w.heap.size+1) (.loop (rec (if jump.isNone then .ready else .done) jump))):=fun jump W3 L3 q=>by{have hk:=q.kept (G:=fun k=>(G k∨k=w.heap.size+1)∨k=w.heap.size) (f:=fun k=>(W.putObj (w.heap.size+1) (.loop {rec .ready none with state:= .busy})).heap[k]?) (by simp);have hl3:W3.heap[w.heap.size+1]?=_:=(hk _ (.inl (.inr rfl))).trans hl2;have hd3:W3.heap[w.heap.size]?=_:=(hk _ (.inr rfl)).trans hd2;have hr:=run_endRound (P:=P) jump hl3;rw[hrec]at hr⊢;have q1:=q.XgZ (f':=fun k=>(W.putObj (w.heap.size+1) (.loop {rec .ready none with state:= .busy})).heap[k]?) hG2 (Upd.refl _ _) hd3 (fun _ _=>rfl);exact⟨hr,q1.XgZ hG1 (ZT _ rfl) (World.putObj_heap_same (lt_of_block hl3)) (fun k hk=>(hf2 k hk).symm)⟩};rintro e a3 W3 hp;cases e with|normal=>{obtain⟨L3,hi3,q3⟩:=hp;obtain⟨hr,q4⟩:=fin none W3 L3 q3;exact⟨_,_,hr,.inl ⟨rfl,_,⟨L3,hi3,rfl⟩,q4⟩⟩}|ret=>{obtain⟨L3,hi3,q3⟩:=hp;obtain⟨hr,q4⟩:=fin (some .ret) W3 L3 q3;exact⟨_,_,hr,.inr ⟨rfl,.ret,L3,hi3,q4.drop⟩⟩}|exit id=>{obtain⟨L3,hi3,q3⟩:=hp;obtain⟨hr,q4⟩:=fin (some (.exit id)) W3 L3 q3;exact⟨_,_,hr,.inr ⟨rfl,.exit id,L3,hi3,q4.drop⟩⟩}|goto t=>{exact hp.elim}|panic ch=>{exact hp.elim}|outgrown=>exact hp.elim};·rintro e W2⟨⟨v,rfl⟩,(⟨xs,L',hS,⟨L0,hl0,rfl⟩,q⟩|⟨pre,hSp,c,L0,hl0,q⟩)⟩;·{have hl:=q.box (g:=w.heap.size+1) (o:= .loop (rec .ready none)) (by simp);exact⟨none,_,by have:=run_endLoop (P:=P) hl (by rw[hrec];simp);rw[hrec]at this;exact this,hdone xs _ L0 hS hl0 (q.Xak (ZT _ rfl) (World.putObj_heap_same (lt_of_block hl))).drop⟩};·have hl:=q.box (g:=w.heap.size+1) (o:= .loop (rec .done (some c))) (by simp);exact⟨some c,_,by have:=run_endLoop (P:=P) hl (by rw[hrec];simp);rw[hrec]at this;exact this,hstop c pre _ L0 hSp hl0 (q.Xak (ZT _ rfl) (World.putObj_heap_same (lt_of_block hl))).drop⟩
end
end
end Go.Proofs.YtpicinjcmjaogaaGreatDoor
