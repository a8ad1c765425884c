import Derived.Deep.MidRow
import Derived.Deep.Heap
import Derived.Deep.Upon
import Derived.Test.YtpicinjcmjaogaaGreatDoorW41
set_option maxRecDepth 100000
set_option maxHeartbeats 4000000
set_option linter.unusedVariables false
namespace Go.Proofs.YtpicinjcmjaogaaGreatDoor
section
open Go.RowKit
theorem q_zero :Tryz.zeroCells219=Array.replicate 257 (.slice none 0 0):=by
 kernel_rfl
/-- The strings that are replaced, in the order in which the table is built. -/
def repL : List Value := [.string ⟨#[10]⟩, .string ⟨#[92]⟩, .string ⟨#[34]⟩]
/-- Whether a byte is in the table behind k rounds. -/
def inT (k c : Nat) : Prop := 1 ≤ k ∧ c = 10 ∨ 2 ≤ k ∧ c = 92 ∨ 3 ≤ k ∧ c = 34
/-- The table behind k rounds. -/
structure BT (B g k : Nat) (v : Value) (w : World) : Prop where
  tab : ∀ c : Nat, c < 256 → ¬ inT k c → w.cell? ⟨g, c, none⟩ = some (.slice none 0 0)
  esc : ∀ c : Nat, inT k c → ∃ r m, w.cell? ⟨g, c, none⟩ = some (.slice (some ⟨r, 0, none⟩) 2 m) ∧ w.cell? ⟨r, 0, none⟩ = some (.int .u8 92) ∧ w.cell? ⟨r, 1, none⟩ = some (.int .u8 (if c = 10 then 110 else (c : Int))) ∧ v.ownBlock ≠ some r ∧ r ≠ g
  rep : w.cell? ⟨g, 256, none⟩ = some v
  own : w.ownsRow B 9 1 v k (repL.take k)
  apart : v.ownBlock ≠ some g
  fz : ∀ c : Nat, w.frozen? ⟨g, c, none⟩ = false
  lt : g < w.heap.size
def q_cells (n t : Nat) : List Value := List.replicate n (.slice none 0 0) ++ [.slice (some ⟨t, 0, none⟩) 0 3]
theorem q_cells_len (n t:Nat):(q_cells n t).length=n+1:=by
 unfold q_cells
 rw[List.length_append,List.length_replicate]
 rfl
theorem q_cells_lt {n t c:Nat}(h:c<n):(q_cells n t)[c]?=some (.slice none 0 0):=by
 unfold q_cells
 rw[List.getElem?_append_left (by rw[List.length_replicate];exact h),List.getElem?_replicate,if_pos h]
theorem q_cells_at (n t:Nat):(q_cells n t)[n]?=some (.slice (some ⟨t,0,none⟩) 0 3):=by
 unfold q_cells
 rw[List.getElem?_append_right (by rw[List.length_replicate];exact Nat.le_refl _),List.length_replicate,Nat.sub_self]
 rfl
theorem q_set (n t:Nat):(Array.replicate (n+1) (Value.slice none 0 0)).toList.set n (.slice (some ⟨t,0,none⟩) 0 3)=q_cells n t:=by
 rw[Array.toList_replicate,List.replicate_succ',List.set_append_right _ _ (by rw[List.length_replicate];exact Nat.le_refl _),List.length_replicate,Nat.sub_self]
 rfl
theorem q_cells_eq (t:Nat):Tryz.zeroCells219.toList.set 256 (.slice (some ⟨t,0,none⟩) 0 3)=q_cells 256 t:=by
 rw[q_zero]
 exact q_set 256 t
theorem rep_some {n j:Nat}(h:j<n):((Array.replicate n (Value.slice none 0 0))[j]?).isSome=true:=by
 rw[Array.getElem?_replicate,if_pos h]
 rfl
noncomputable def q_w2 (w : World) : World := (w.alloc (.cells (madeCells #[.string ⟨#[]⟩] 3) 9)).alloc (.cells Tryz.zeroCells219 219)
theorem nblk_setCells_q (w:World)(g o:Nat)(vs:List Value):(w.setCells g o vs).heap.size=w.heap.size:=by
 induction vs generalizing w o with|nil=>{rfl}|cons v vs ih=>rw[World.setCells,ih];simp
theorem cell_new_fr {W:World}{arr:Array Value}{t:TypeId}{fr:Nat×Nat}(i:Nat):(W.alloc (.cells arr t fr)).cell? ⟨W.heap.size,i,none⟩=arr[i]?:=by
 have hn:=heap_alloc_new W (.cells arr t fr)
 unfold World.cell?
 rw[hn]
 rfl
theorem q_w2_there (w:World):(q_w2 w).there (w.heap.size+1) 0 257:=by
 have hg:(q_w2 w).heap[w.heap.size+1]?=some (.cells Tryz.zeroCells219 219 (0,0)):=by have:=heap_alloc_new (w.alloc (.cells (madeCells #[.string ⟨#[]⟩] 3) 9)) (.cells Tryz.zeroCells219 219);rw[World.size_alloc]at this;exact this
 intro j hj
 rw[Nat.zero_add]
 refine⟨?_,frozen_of_row _ _ j _ _ hg⟩
 rw[cell_of_row _ _ j _ _ _ hg,q_zero]
 exact rep_some hj
theorem q_there0 (w:World):((w.alloc (.cells (madeCells #[.string ⟨#[]⟩] 3) 9)).alloc (.cells Tryz.zeroCells219 219)).there (w.heap.size+1) 0 (Tryz.zeroCells219.toList.set 256 (.slice (some ⟨w.heap.size,0,none⟩) 0 3)).toArray.size:=by
 rw[q_cells_eq,show(q_cells 256 w.heap.size).toArray.size=257 from q_cells_len _ _]
 exact q_w2_there w
theorem q_tab0 (w:World):∀W,W=((w.alloc (.cells (madeCells #[.string ⟨#[]⟩] 3) 9)).alloc (.cells Tryz.zeroCells219 219)).setCells (w.heap.size+1) 0 (Tryz.zeroCells219.toList.set 256 (.slice (some ⟨w.heap.size,0,none⟩) 0 3))→BT w.heap.size (w.heap.size+1) 0 (.slice (some ⟨w.heap.size,0,none⟩) 0 3) W∧Below w.heap.size w W:=by
 rintro W rfl
 rw[q_cells_eq]
 change BT w.heap.size (w.heap.size+1) 0 (.slice (some ⟨w.heap.size,0,none⟩) 0 3) ((q_w2 w).setCells (w.heap.size+1) 0 (q_cells 256 w.heap.size))∧Below w.heap.size w ((q_w2 w).setCells (w.heap.size+1) 0 (q_cells 256 w.heap.size))
 have hlen:(q_cells 256 w.heap.size).length=257:=q_cells_len _ _
 have hs2:(q_w2 w).heap.size=w.heap.size+1+1:=by unfold q_w2;simp
 have hra:=World.rangeAt_setCells_same (q_w2 w) (w.heap.size+1) 0 (q_cells 256 w.heap.size) (by rw[hlen];exact q_w2_there w)
 have hsz:((q_w2 w).setCells (w.heap.size+1) 0 (q_cells 256 w.heap.size)).heap.size=w.heap.size+1+1:=by rw[←hs2];exact nblk_setCells_q _ _ _ _
 have hrow:((q_w2 w).setCells (w.heap.size+1) 0 (q_cells 256 w.heap.size)).heap[w.heap.size]?=some (.cells (madeCells #[.string ⟨#[]⟩] 3) 9 (0,0)):=by rw[World.heap_setCells_other _ _ _ _ (by omega) (by omega)];exact(Below.heap_alloc _ _ _ (by simp)).trans (heap_alloc_new w _)
 have hg:(q_w2 w).heap[w.heap.size+1]?=some (.cells Tryz.zeroCells219 219 (0,0)):=by have:=heap_alloc_new (w.alloc (.cells (madeCells #[.string ⟨#[]⟩] 3) 9)) (.cells Tryz.zeroCells219 219);rw[World.size_alloc]at this;exact this
 refine⟨⟨fun c hc _=>?_,fun c hc=>?_,?_,⟨by simp[repL],.inr ⟨w.heap.size,3,_,rfl,Nat.le_refl _,hrow,by omega,by unfold maxLen;omega,by simp[size_madeCells],by simp⟩⟩,?_,fun c=>?_,by omega⟩,?_⟩
 ·have:=hra c (.slice none 0 0) (q_cells_lt hc);rwa[Nat.zero_add]at this
 ·exact absurd hc (by unfold inT;omega)
 ·have:=hra 256 (.slice (some ⟨w.heap.size,0,none⟩) 0 3) (q_cells_at _ _);rwa[Nat.zero_add]at this
 ·intro e;injection e with e;exact absurd e (by simp)
 ·rw[World.frozen?_setCells];exact frozen_of_row _ _ c _ _ hg
 ·have h1:Below w.heap.size w (q_w2 w):=(Xw w _).trans ((Xw _ _).mono (by simp));have h2:Upd (fun k=>k=w.heap.size+1) (q_w2 w) ((q_w2 w).setCells (w.heap.size+1) 0 (q_cells 256 w.heap.size)):=(Upd.refl (fun k=>k=w.heap.size+1) _).setCells (b:=w.heap.size+1) (.inr rfl) 0 _;exact⟨h2.os.trans h1.os,h2.tape.trans h1.tape,h2.output.trans h1.output,Nat.le_trans h1.size h2.size,fun k hk=>(h2.block k (by omega) (by omega)).trans (h1.block k hk)⟩
theorem q_cv1 (w:World)(c:UInt8):(convert 63 9 (.slice (some ⟨w.heap.size,0,none⟩) 1 1)).run Tryz.prog (w.alloc (.cells #[.int .u8 (c.toNat:Int)] 5))= .ok (.string ⟨#[c]⟩) (w.alloc (.cells #[.int .u8 (c.toNat:Int)] 5)):=run_convert_bytes_back _ 63 9 5 ⟨w.heap.size,0,none⟩ 1 [c] Tryz.underlying63 Tryz.underlying5 Tryz.underlying9 (fun q hq=>by rw[Addr.add_mid,Nat.zero_add];obtain rfl:q=0:=by{simpa using hq};exact Yi rfl rfl)
theorem q_form {w:World}{B:Nat}{e:TypeId}{size:Nat}{v:Value}{n:Nat}{xs:List Value}(h:w.ownsRow B e size v n xs):∃a c,v= .slice a n c:=by
 rcases h.2 with⟨hv,h0⟩|⟨g,cap,cur,hv,_⟩
 ·exact⟨none,0,by rw[hv,h0]⟩
 ·exact⟨_,_,hv⟩
theorem grown_cell {W w4:World}{v:Value}{g:Nat}(h:W.grownBy w4 v.ownBlock)(hg:g<W.heap.size)(hn:v.ownBlock≠some g):w4.heap[g]?=W.heap[g]?:=h.block g hg (fun e=>hn e.symm)
theorem cell_heap {w w':World}{g:Nat}(h:w'.heap[g]?=w.heap[g]?)(i:Nat):w'.cell? ⟨g,i,none⟩=w.cell? ⟨g,i,none⟩:=by
 simp[World.cell?,h]
theorem frozen_heap {w w':World}{g:Nat}(h:w'.heap[g]?=w.heap[g]?)(i:Nat):w'.frozen? ⟨g,i,none⟩=w.frozen? ⟨g,i,none⟩:=by
 simp[World.frozen?,h]
theorem own_heap {w w':World}{B:Nat}{e:TypeId}{size:Nat}{v:Value}{n:Nat}{xs:List Value}(h:w.ownsRow B e size v n xs)(hh:∀k,v.ownBlock=some k→w'.heap[k]?=w.heap[k]?):w'.ownsRow B e size v n xs:=by
 refine⟨h.1,?_⟩
 rcases h.2 with h2|⟨g,cap,cur,rfl,hb,hg,hr⟩
 ·exact .inl h2
 ·exact .inr ⟨g,cap,cur,rfl,hb,(hh g rfl).trans hg,hr⟩
theorem blk_set {w:World}{g i:Nat}{u:Value}{j:Nat}(h:j≠g):(w.setCell ⟨g,i,none⟩ u).heap[j]?=w.heap[j]?:=Go.Deep.blk_setCell_other w ⟨g,i,none⟩ u j h
theorem BT.step {B g k c cap:Nat}{v v':Value}{wr w4 W5:World}{o1 o2:Obj}(hv:BT B g k v wr)(hgrow:((wr.alloc o1).alloc o2).grownBy w4 v.ownBlock)(hown:w4.ownsRow B 9 1 v' (k+1) (repL.take (k+1)))(hat:v'.ownBlock=v.ownBlock∨v'.ownBlock=some (wr.heap.size+1+1))(h5:∀j,j<w4.heap.size→W5.heap[j]?=(w4.setCell ⟨g,256,none⟩ v').heap[j]?)(hlt5:w4.heap.size<W5.heap.size)(hc:c<256)(hnc:¬inT k c)(hk:∀d,inT (k+1) d↔inT k d∨d=c)(h50:W5.cell? ⟨w4.heap.size,0,none⟩=some (.int .u8 92))(h51:W5.cell? ⟨w4.heap.size,1,none⟩=some (.int .u8 (if c=10 then 110 else(c:Int)))):BT B g (k+1) v' (W5.setCell ⟨g,c,none⟩ (.slice (some ⟨w4.heap.size,0,none⟩) 2 cap)):=by
 have hgl:=hv.lt
 have hs4:wr.heap.size+1+1≤w4.heap.size:=by have:=hgrow.size;simpa using this
 have old:∀j,j<wr.heap.size→v.ownBlock≠some j→w4.heap[j]?=wr.heap[j]?:=fun j hj hn=>(grown_cell hgrow (g:=j) (by simp;omega) hn).trans ((Below.heap_alloc _ _ j (by simp;omega)).trans (Below.heap_alloc _ _ j hj))
 have hg4:=old g hgl hv.apart
 have hg5:=h5 g (by omega)
 have hap:v'.ownBlock≠some g:=by rcases hat with q|q;·{rw[q];exact hv.apart};·rw[q];intro z;injection z;omega
 have cg:∀d,d≠256→W5.cell? ⟨g,d,none⟩=wr.cell? ⟨g,d,none⟩:=fun d hd=>by rw[cell_heap hg5,World.cell?_setCell_other _ _ _ _ (by intro e;injection e with e1 e2 e3;omega),cell_heap hg4]
 have c256:W5.cell? ⟨g,256,none⟩=some v':=by rw[cell_heap hg5];exact World.cell?_setCell_same _ _ _ (by rw[cell_heap hg4];exact hv.rep)
 have sg:∀d,d≠c→(W5.setCell ⟨g,c,none⟩ (.slice (some ⟨w4.heap.size,0,none⟩) 2 cap)).cell? ⟨g,d,none⟩=W5.cell? ⟨g,d,none⟩:=fun d hd=>World.cell?_setCell_other _ _ _ _ (by intro e;injection e with e1 e2 e3;omega)
 have sr:∀r i,r≠g→(W5.setCell ⟨g,c,none⟩ (.slice (some ⟨w4.heap.size,0,none⟩) 2 cap)).cell? ⟨r,i,none⟩=W5.cell? ⟨r,i,none⟩:=fun r i hr=>World.cell?_setCell_other _ _ _ _ (by intro e;injection e with e1 e2 e3;omega)
 have hne4:w4.heap.size≠g:=by omega
 refine⟨fun d hd hn=>?_,fun d hd=>?_,?_,?_,hap,fun d=>?_,?_⟩
 ·have hn':=fun z=>hn ((hk d).2 z);rw[sg d (fun e=>hn' (.inr e)),cg d (by omega)];exact hv.tab d hd (fun z=>hn' (.inl z))
 ·rcases(hk d).1 hd with q|rfl;·{obtain⟨r,m,e0,e1,e2,e3,e4⟩:=hv.esc d q;have hrl:r<wr.heap.size:=World.block_lt_of_cell? wr _ e1;have hrb:W5.heap[r]?=wr.heap[r]?:=(h5 r (by omega)).trans ((blk_set e4).trans (old r hrl e3));refine⟨r,m,?_,?_,?_,?_,e4⟩;·{have hd1:d≠256:=by{unfold inT at q;omega};rw[sg d (fun e=>hnc (e▸q)),cg d hd1];exact e0};·{rw[sr r 0 e4,cell_heap hrb];exact e1};·{rw[sr r 1 e4,cell_heap hrb];exact e2};·rcases hat with z|z;·{rw[z];exact e3};·rw[z];intro y;injection y;omega};·refine⟨w4.heap.size,cap,?_,?_,?_,?_,hne4⟩;·{exact World.cell?_setCell_same _ _ _ (by rw[cg d (by omega)];exact hv.tab d hc hnc)};·{rw[sr _ 0 hne4];exact h50};·{rw[sr _ 1 hne4];exact h51};·intro z;have:=(Yx hown _ z).2;omega
 ·rw[sg 256 (by omega)];exact c256
 ·refine own_heap hown (fun j hj=>?_);have hjl:=(Yx hown j hj).2;have hjg:j≠g:=fun e=>hap (e▸hj);exact(blk_set hjg).trans ((h5 j hjl).trans (blk_set hjg))
 ·rw[World.frozen?_setCell,frozen_heap hg5,World.frozen?_setCell,frozen_heap hg4];exact hv.fz d
 ·have:(W5.setCell ⟨g,c,none⟩ (.slice (some ⟨w4.heap.size,0,none⟩) 2 cap)).heap.size=W5.heap.size:=by{simp};omega
theorem q_done {B g:Nat}{v:Value}{w:World}(h:BT B g 3 v w):RepT w g:=by
 refine⟨fun c h1 h2=>h.tab c h1 (by unfold inT;omega),fun c hc=>?_,?_⟩
 ·obtain⟨r,m,e0,e1,e2,-⟩:=h.esc c (by unfold inT;omega);exact⟨r,m,e0,e1,e2⟩
 ·rcases h.own.2 with⟨-,h0⟩|⟨t,cap,cur,rfl,hb,hg,-⟩;·{cases h0};·have hc:=fun(j:Nat)u=>h.own.cells (g:=t) rfl j u;refine⟨t,cap,h.rep,?_,?_,?_⟩;·{have:=hc 0 (.string ⟨#[10]⟩) rfl;rwa[Addr.add_mid,Nat.zero_add]at this};·{have:=hc 1 (.string ⟨#[92]⟩) rfl;rwa[Addr.add_mid,Nat.zero_add]at this};·have:=hc 2 (.string ⟨#[34]⟩) rfl;rwa[Addr.add_mid,Nat.zero_add]at this
theorem q_bytes2 (W:World)(x y:UInt8):∃cap W',(convert 9 63 (.string ⟨#[x,y]⟩)).run Tryz.prog W= .ok (.slice (some ⟨W.heap.size,0,none⟩) 2 cap) W'∧Below W.heap.size W W'∧(∀j,j<W.heap.size→W'.heap[j]?=W.heap[j]?)∧W.heap.size<W'.heap.size∧W'.cell? ⟨W.heap.size,0,none⟩=some (.int .u8 (x.toNat:Int))∧W'.cell? ⟨W.heap.size,1,none⟩=some (.int .u8 (y.toNat:Int)):=by
 have hr:=run_bytes_of_string (P:=Tryz.prog) W 9 63 5 ⟨#[x,y]⟩ Tryz.underlying9 Tryz.underlying63 Tryz.underlying5
 refine⟨_,_,hr,?_,?_,?_,?_,?_⟩
 ·exact(Below.drew (Below.refl _ _)).alloc (Nat.le_refl _) _
 ·intro j hj;exact Below.heap_alloc W.drew _ j hj
 ·simp
 ·have:=bytesRow_at ⟨#[x,y]⟩ (grownCap W (⟨#[x,y]⟩:ByteArray).size 0 5) 0 (by simp);exact(cell_new_fr (W:=W.drew) _).trans this
 ·have:=bytesRow_at ⟨#[x,y]⟩ (grownCap W (⟨#[x,y]⟩:ByteArray).size 0 5) 1 (by simp);exact(cell_new_fr (W:=W.drew) _).trans this
theorem q_build (b o oc:Nat)(w:World)(h4:w.cell? ⟨b,4,none⟩=some (.slice (some ⟨o,0,none⟩) 6 oc))(s0:w.cell? ⟨o,0,none⟩=some (.string ⟨#[34]⟩))(s1:w.cell? ⟨o,1,none⟩=some (.string ⟨#[92,34]⟩))(s2:w.cell? ⟨o,2,none⟩=some (.string ⟨#[92]⟩))(s3:w.cell? ⟨o,3,none⟩=some (.string ⟨#[92,92]⟩))(s4:w.cell? ⟨o,4,none⟩=some (.string ⟨#[10]⟩))(s5:w.cell? ⟨o,5,none⟩=some (.string ⟨#[92,110]⟩)):Calls Tryz.prog 162 #[.pointer (some ⟨b,0,none⟩)] w fun e w'=>∃g,e= .returned (.iface 220 (.pointer (some ⟨g,0,none⟩)))∧RepT w' g∧Below w.heap.size w w':=by
 have hmk:∀w:World,(Instr.makeSlice 176 (.int .i64 0) (.int .i64 3)).run Tryz.prog w= .ok (.slice (some ⟨w.heap.size,0,none⟩) 0 3) (w.alloc (.cells (madeCells #[.string ⟨#[]⟩] 3) 9)):=fun w=>by obtain⟨i,hi,hz0,hz1,hz2⟩:=info_parts (show(Tryz.prog.info? 9).map (fun i=>(i.zero,i.size,i.bytes))=some (some (.string ⟨#[]⟩),1,16)by kernel_rfl);have h1:=run_make (P:=Tryz.prog) w 176 9 i (.string ⟨#[]⟩) Tryz.underlying176 hi hz0 .i64 .i64 0 3 (by omega) (by omega) (by rw[hz2];decide) (by omega);rw[hz1]at h1;exact h1
 have HTH:=Xqh (q_there0 w)
 have HT0:=Xqh (q_tab0 w)
 go_enter Tryz.func162,Tryz.ntmps162
 go_wp2_with fail
 go_loopw [4,5](fun p i wr=>∃k:Nat,k≤3∧i= .int .i64 ((2*k:Nat):Int)∧p= .bool (decide (k=0))∧w=wr)(fun _ i _=>6-(intOf i).toNat)
 case atStart=>exact⟨0,by omega,rfl,rfl,rfl⟩
 case round=>obtain⟨k,hk,rfl,rfl,rfl⟩:=hrel;rcases(by omega:k=0∨k=1∨k=2∨k=3)with rfl|rfl|rfl|rfl;·{go_wp2_with fail;go_roundw;(case rel=>exact⟨1,by omega,rfl,rfl,by trivial⟩);case measure=>simp[intOf]};·{go_wp2_with fail;go_roundw;(case rel=>exact⟨2,by omega,rfl,rfl,by trivial⟩);case measure=>simp[intOf]};·{go_wp2_with fail;go_roundw;(case rel=>exact⟨3,by omega,rfl,rfl,by trivial⟩);case measure=>simp[intOf]};·go_wp2_with((with_reducible refine wpList_store_mid ?_ 219 (.tmp 11) (.tmp 95) ?_ (w.heap.size+1) 0 (Tryz.zeroCells219.toList.set 256 (.slice (some ⟨w.heap.size,0,none⟩) 0 3)).toArray ?_ ?_ ?_ ?_ ?_ ?_);exact rfl;exact rfl;exact rfl;exact rfl;exact HTH.out;kernel_rfl;(rw[q_zero];simp[Value.oneCell']);generalize hW1:World.setCells _ _ _ _=W1);obtain⟨hT0,hB0⟩:=HT0.out W1 hW1.symm;have HBT:Hid (∃v,BT w.heap.size (w.heap.size+1) 0 v W1):=Xqh ⟨_,hT0⟩;have HB1:=Xqh hB0;clear hW1 hT0 hB0 HT0 HTH hmk h4;generalize hgb:w.heap.size+1=gb at*;have hgw:w.heap.size≤gb:=by{omega};clear hgb;obtain⟨i0,hi,hz0,hz1,hz2⟩:=info_parts (show(Tryz.prog.info? 9).map (fun i=>(i.zero,i.size,i.bytes))=some (some (.string ⟨#[]⟩),1,16)by kernel_rfl);have HI:=Xqh hi;clear hi;go_loopw [12](fun i wr=>∃k:Nat,k≤3∧i= .int .i64 (4-2*(k:Int))∧Hid (∃v,BT w.heap.size gb k v wr)∧Hid (Below w.heap.size w wr))(fun i _=>(intOf i+2).toNat);(case atStart=>exact⟨0,by omega,rfl,HBT,HB1⟩);case round=>obtain⟨k,hk,rfl,hT,hB⟩:=hrel;obtain⟨v,hv⟩:=hT.out;have HV:=Xqh hv;have s0:=Below.old hB.out s0;have s1:=Below.old hB.out s1;have s2:=Below.old hB.out s2;have s3:=Below.old hB.out s3;have s4:=Below.old hB.out s4;have s5:=Below.old hB.out s5;have hsz:w.heap.size≤wr.heap.size:=hB.out.size;clear hT HBT HB1;rcases(by omega:k=0∨k=1∨k=2∨k=3)with rfl|rfl|rfl|rfl;·{have c0:=hv.tab 10 (by omega) (by unfold inT;omega);have c1:=hv.rep;have f1:=hv.fz 256;have f2:=hv.fz 10;have hx:(((⟨#[10]⟩:ByteArray)[0]'(by decide)).toNat:Int)=10:=rfl;have HO:=Xqh hv.own;have hcv:(convert 63 9 (.slice (some ⟨wr.heap.size,0,none⟩) 1 1)).run Tryz.prog (wr.alloc (.cells #[.int .u8 10] 5))= .ok (.string ⟨#[10]⟩) (wr.alloc (.cells #[.int .u8 10] 5)):=q_cv1 wr 10;have heq:∀w:World,(binOp .eql 63 (.slice none 0 0) (.slice none 0 0)).run Tryz.prog w= .ok (.bool true) w:=fun w=>Lib.run_eql_slice_nil_nil w 0 0 Tryz.underlying63;clear hv;go_wp2_with(at_builtin;refine wpList_append_own_at _ rfl _ _ 176 rfl w.heap.size 9 i0 _ 1 16 Tryz.underlying176 HI.out hz0 hz1 hz2 rfl (by decide) v 0 _ rfl ((HO.out.alloc _).alloc _) ⟨wr.heap.size+1,0,none⟩ 1 1 [.string ⟨#[10]⟩] rfl rfl ?a10 ?a20 ?a30 ?a40 ?a50 ?_);(case a10=>intro j u hj;rw[Addr.add_mid,Nat.zero_add];exact Yi (by simp) (by simpa using hj));(case a20=>intro u hu;simp at hu;subst hu;rfl);(case a30=>unfold maxLen;omega);(case a40=>omega);(case a50=>simp;omega);intro v' w4 hown' hgrow _ hat;obtain⟨va,vc,rfl⟩:=q_form hown';have hbl:=(grown_cell hgrow (g:=gb) (by have:=HV.out.lt;simp;omega) HV.out.apart).trans ((Below.heap_alloc _ _ gb (by have:=HV.out.lt;simp;omega)).trans (Below.heap_alloc _ _ gb HV.out.lt));have d1:w4.cell? ⟨gb,256,none⟩=some v:=(cell_heap hbl 256).trans c1;have f3:w4.frozen? ⟨gb,256,none⟩=false:=(frozen_heap hbl 256).trans f1;obtain⟨cap,W5,hcs,hB5,h5,hlt5,h50,h51⟩:=q_bytes2 (w4.setCell ⟨gb,256,none⟩ (.slice va (0+1) vc)) 92 110;have hs45:(w4.setCell ⟨gb,256,none⟩ (.slice va (0+1) vc)).heap.size=w4.heap.size:=by{simp};rw[hs45]at hcs hB5 h5 hlt5 h50 h51;have hgl4:gb<w4.heap.size:=by{have h1:=HV.out.lt;have h2:=hgrow.size;simp at h2;omega};have hb5:W5.heap[gb]?=(w4.setCell ⟨gb,256,none⟩ (.slice va (0+1) vc)).heap[gb]?:=h5 gb hgl4;have e0:W5.cell? ⟨gb,10,none⟩=some (.slice none 0 0):=by{rw[cell_heap hb5,World.cell?_setCell_other _ _ _ _ (by intro e;injection e with e1 e2 e3;omega),cell_heap hbl];exact c0};have f5:W5.frozen? ⟨gb,10,none⟩=false:=by{rw[frozen_heap hb5,World.frozen?_setCell,frozen_heap hbl];exact f2};have HS:=Xqh (HV.out.step hgrow hown' hat h5 hlt5 (c:=10) (cap:=cap) (by omega) (by unfold inT;omega) (fun d=>by unfold inT;omega) h50 h51);have HB6:Hid (Below w.heap.size w (W5.setCell ⟨gb,10,none⟩ (.slice (some ⟨w4.heap.size,0,none⟩) 2 cap))):=Xqh (by have g1:Below w.heap.size w w4:=((hB.out.alloc hB.out.size _).alloc (by simp;omega) _).grown hgrow (by simp;omega) (fun k hk=>(Yx HV.out.own k hk).1);have g2:=(g1.setCell (p:=⟨gb,256,none⟩) hgw (.slice va (0+1) vc)).trans ((show Below w4.heap.size _ W5 from hB5).mono g1.size);exact g2.setCell (p:=⟨gb,10,none⟩) hgw _);clear hown' hgrow hat hbl c0 c1 f1 f2 h5 hlt5 h50 h51 hb5 hB5 hs45;go_wp2_with fail;go_roundw;(case rel=>exact⟨1,by omega,rfl,Xqh ⟨_,HS.out⟩,HB6⟩);case measure=>simp[intOf]};·{have c0:=hv.tab 92 (by omega) (by unfold inT;omega);have c1:=hv.rep;have f1:=hv.fz 256;have f2:=hv.fz 92;have hx:(((⟨#[92]⟩:ByteArray)[0]'(by decide)).toNat:Int)=92:=rfl;have HO:=Xqh hv.own;have hcv:(convert 63 9 (.slice (some ⟨wr.heap.size,0,none⟩) 1 1)).run Tryz.prog (wr.alloc (.cells #[.int .u8 92] 5))= .ok (.string ⟨#[92]⟩) (wr.alloc (.cells #[.int .u8 92] 5)):=q_cv1 wr 92;have heq:∀w:World,(binOp .eql 63 (.slice none 0 0) (.slice none 0 0)).run Tryz.prog w= .ok (.bool true) w:=fun w=>Lib.run_eql_slice_nil_nil w 0 0 Tryz.underlying63;clear hv;go_wp2_with(at_builtin;refine wpList_append_own_at _ rfl _ _ 176 rfl w.heap.size 9 i0 _ 1 16 Tryz.underlying176 HI.out hz0 hz1 hz2 rfl (by decide) v 1 _ rfl ((HO.out.alloc _).alloc _) ⟨wr.heap.size+1,0,none⟩ 1 1 [.string ⟨#[92]⟩] rfl rfl ?a11 ?a21 ?a31 ?a41 ?a51 ?_);(case a11=>intro j u hj;rw[Addr.add_mid,Nat.zero_add];exact Yi (by simp) (by simpa using hj));(case a21=>intro u hu;simp at hu;subst hu;rfl);(case a31=>unfold maxLen;omega);(case a41=>omega);(case a51=>simp;omega);intro v' w4 hown' hgrow _ hat;obtain⟨va,vc,rfl⟩:=q_form hown';have hbl:=(grown_cell hgrow (g:=gb) (by have:=HV.out.lt;simp;omega) HV.out.apart).trans ((Below.heap_alloc _ _ gb (by have:=HV.out.lt;simp;omega)).trans (Below.heap_alloc _ _ gb HV.out.lt));have d1:w4.cell? ⟨gb,256,none⟩=some v:=(cell_heap hbl 256).trans c1;have f3:w4.frozen? ⟨gb,256,none⟩=false:=(frozen_heap hbl 256).trans f1;obtain⟨cap,W5,hcs,hB5,h5,hlt5,h50,h51⟩:=q_bytes2 (w4.setCell ⟨gb,256,none⟩ (.slice va (1+1) vc)) 92 92;have hs45:(w4.setCell ⟨gb,256,none⟩ (.slice va (1+1) vc)).heap.size=w4.heap.size:=by{simp};rw[hs45]at hcs hB5 h5 hlt5 h50 h51;have hgl4:gb<w4.heap.size:=by{have h1:=HV.out.lt;have h2:=hgrow.size;simp at h2;omega};have hb5:W5.heap[gb]?=(w4.setCell ⟨gb,256,none⟩ (.slice va (1+1) vc)).heap[gb]?:=h5 gb hgl4;have e0:W5.cell? ⟨gb,92,none⟩=some (.slice none 0 0):=by{rw[cell_heap hb5,World.cell?_setCell_other _ _ _ _ (by intro e;injection e with e1 e2 e3;omega),cell_heap hbl];exact c0};have f5:W5.frozen? ⟨gb,92,none⟩=false:=by{rw[frozen_heap hb5,World.frozen?_setCell,frozen_heap hbl];exact f2};have HS:=Xqh (HV.out.step hgrow hown' hat h5 hlt5 (c:=92) (cap:=cap) (by omega) (by unfold inT;omega) (fun d=>by unfold inT;omega) h50 h51);have HB6:Hid (Below w.heap.size w (W5.setCell ⟨gb,92,none⟩ (.slice (some ⟨w4.heap.size,0,none⟩) 2 cap))):=Xqh (by have g1:Below w.heap.size w w4:=((hB.out.alloc hB.out.size _).alloc (by simp;omega) _).grown hgrow (by simp;omega) (fun k hk=>(Yx HV.out.own k hk).1);have g2:=(g1.setCell (p:=⟨gb,256,none⟩) hgw (.slice va (1+1) vc)).trans ((show Below w4.heap.size _ W5 from hB5).mono g1.size);exact g2.setCell (p:=⟨gb,92,none⟩) hgw _);clear hown' hgrow hat hbl c0 c1 f1 f2 h5 hlt5 h50 h51 hb5 hB5 hs45;go_wp2_with fail;go_roundw;(case rel=>exact⟨2,by omega,rfl,Xqh ⟨_,HS.out⟩,HB6⟩);case measure=>simp[intOf]};·{have c0:=hv.tab 34 (by omega) (by unfold inT;omega);have c1:=hv.rep;have f1:=hv.fz 256;have f2:=hv.fz 34;have hx:(((⟨#[34]⟩:ByteArray)[0]'(by decide)).toNat:Int)=34:=rfl;have HO:=Xqh hv.own;have hcv:(convert 63 9 (.slice (some ⟨wr.heap.size,0,none⟩) 1 1)).run Tryz.prog (wr.alloc (.cells #[.int .u8 34] 5))= .ok (.string ⟨#[34]⟩) (wr.alloc (.cells #[.int .u8 34] 5)):=q_cv1 wr 34;have heq:∀w:World,(binOp .eql 63 (.slice none 0 0) (.slice none 0 0)).run Tryz.prog w= .ok (.bool true) w:=fun w=>Lib.run_eql_slice_nil_nil w 0 0 Tryz.underlying63;clear hv;go_wp2_with(at_builtin;refine wpList_append_own_at _ rfl _ _ 176 rfl w.heap.size 9 i0 _ 1 16 Tryz.underlying176 HI.out hz0 hz1 hz2 rfl (by decide) v 2 _ rfl ((HO.out.alloc _).alloc _) ⟨wr.heap.size+1,0,none⟩ 1 1 [.string ⟨#[34]⟩] rfl rfl ?a12 ?a22 ?a32 ?a42 ?a52 ?_);(case a12=>intro j u hj;rw[Addr.add_mid,Nat.zero_add];exact Yi (by simp) (by simpa using hj));(case a22=>intro u hu;simp at hu;subst hu;rfl);(case a32=>unfold maxLen;omega);(case a42=>omega);(case a52=>simp;omega);intro v' w4 hown' hgrow _ hat;obtain⟨va,vc,rfl⟩:=q_form hown';have hbl:=(grown_cell hgrow (g:=gb) (by have:=HV.out.lt;simp;omega) HV.out.apart).trans ((Below.heap_alloc _ _ gb (by have:=HV.out.lt;simp;omega)).trans (Below.heap_alloc _ _ gb HV.out.lt));have d1:w4.cell? ⟨gb,256,none⟩=some v:=(cell_heap hbl 256).trans c1;have f3:w4.frozen? ⟨gb,256,none⟩=false:=(frozen_heap hbl 256).trans f1;obtain⟨cap,W5,hcs,hB5,h5,hlt5,h50,h51⟩:=q_bytes2 (w4.setCell ⟨gb,256,none⟩ (.slice va (2+1) vc)) 92 34;have hs45:(w4.setCell ⟨gb,256,none⟩ (.slice va (2+1) vc)).heap.size=w4.heap.size:=by{simp};rw[hs45]at hcs hB5 h5 hlt5 h50 h51;have hgl4:gb<w4.heap.size:=by{have h1:=HV.out.lt;have h2:=hgrow.size;simp at h2;omega};have hb5:W5.heap[gb]?=(w4.setCell ⟨gb,256,none⟩ (.slice va (2+1) vc)).heap[gb]?:=h5 gb hgl4;have e0:W5.cell? ⟨gb,34,none⟩=some (.slice none 0 0):=by{rw[cell_heap hb5,World.cell?_setCell_other _ _ _ _ (by intro e;injection e with e1 e2 e3;omega),cell_heap hbl];exact c0};have f5:W5.frozen? ⟨gb,34,none⟩=false:=by{rw[frozen_heap hb5,World.frozen?_setCell,frozen_heap hbl];exact f2};have HS:=Xqh (HV.out.step hgrow hown' hat h5 hlt5 (c:=34) (cap:=cap) (by omega) (by unfold inT;omega) (fun d=>by unfold inT;omega) h50 h51);have HB6:Hid (Below w.heap.size w (W5.setCell ⟨gb,34,none⟩ (.slice (some ⟨w4.heap.size,0,none⟩) 2 cap))):=Xqh (by have g1:Below w.heap.size w w4:=((hB.out.alloc hB.out.size _).alloc (by simp;omega) _).grown hgrow (by simp;omega) (fun k hk=>(Yx HV.out.own k hk).1);have g2:=(g1.setCell (p:=⟨gb,256,none⟩) hgw (.slice va (2+1) vc)).trans ((show Below w4.heap.size _ W5 from hB5).mono g1.size);exact g2.setCell (p:=⟨gb,34,none⟩) hgw _);clear hown' hgrow hat hbl c0 c1 f1 f2 h5 hlt5 h50 h51 hb5 hB5 hs45;go_wp2_with fail;go_roundw;(case rel=>exact⟨3,by omega,rfl,Xqh ⟨_,HS.out⟩,HB6⟩);case measure=>simp[intOf]};·have HF:Hid (RepT wr gb):=Xqh (q_done HV.out);clear hv;go_wp2_with fail;go_ret;exact⟨gb,rfl,HF.out,hB.out⟩
end
end Go.Proofs.YtpicinjcmjaogaaGreatDoor
