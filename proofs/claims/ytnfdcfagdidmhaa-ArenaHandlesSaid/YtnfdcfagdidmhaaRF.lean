/-
  A range over a function: a law for iterators that keep state in cells of their own. No program here.
-/
import Derived.RangeFuncNested
import Derived.RangeFuncBound
import Derived.RangeFuncCalls
import Derived.RangeFuncLeaves
import Derived.Test.YtnfdcfagdidmhaaArE
namespace Go.Proofs.Ytnfdcfagdidmhaa
open Go.RowKit

section
variable {F : Fence} {n : Nat} {P : Program}

/-- The iterator g, which writes to the blocks Bs and to new blocks; a round that goes on writes to the blocks Cs and to blocks that are new since the loop began. -/
def SeqU {α : Type} (F : Fence) (n : Nat) (P : Program) (g : Nat) (lb : Array Value) (encs : α → Array Value) (Bs Cs : Nat → Prop) (S Sp : List α → Prop) (w : World) : Prop :=
  ∀ (l : Nat) (J Jx : List α → World → Prop) (W : World), Below w.heap.size w W →
    (∀ s A B, J s A → Upd (fun k => Bs k ∨ W.heap.size ≤ k) A B → J s B) → (∀ s A B, Jx s A → Upd (fun k => Bs k ∨ W.heap.size ≤ k) A B → Jx s B) →
    (∀ pre x W1, J pre W1 → YieldAt F (n - 1) P l (encs x) W1 fun e W' =>
      (e = .returned (.bool true) ∧ J (pre ++ [x]) W' ∧ Upd (fun k => Cs k ∨ (w.heap.size ≤ k ∧ k < W.heap.size)) W1 W') ∨ (e = .returned (.bool false) ∧ Jx (pre ++ [x]) W')) →
    J [] W →
    CallsIn F n P g (#[.func (.yield l) #[] #[]] ++ lb) W fun e W' => (∃ v, e = .returned v) ∧ ((∃ xs, S xs ∧ J xs W') ∨ (∃ pre, Sp pre ∧ Jx pre W'))

/-- How the body of a round may be left: it goes on, or it returns. -/
def postU {α : Type} (Cs : Nat → Prop) (I Ix : List α → World → Prop) (xs : List α) (W : World) : Exit → Act → World → Prop
  | .normal, _, W' => Upd Cs W W' ∧ I xs W'
  | .ret, _, W' => Upd Cs W W' ∧ Ix xs W'
  | _, _, _ => False

theorem upd_put {F : Nat → Prop} {W : World} {l : Nat} (o : Obj) (hF : F l) : Upd F W (W.putObj l o) :=
  ⟨rfl, rfl, rfl, by simp, fun k _ hf => World.putObj_heap_other (fun e => hf (by rw [e]; exact hF))⟩

theorem wpIn_rangeFunc_U {α : Type} {g : Operand} {ps : Array Tmp} {assign body : Code} {Q : Exit → Act → World → Prop} {a : Act} {w : World}
    (hro : F.round = none) (h1 : 1 ≤ n) {gf : Nat} {lb : Array Value} (hg : a.eval g = .func (.func gf) #[] lb) (hFg : F.fn gf) (eg : ∀ args w, (callFunc gf args).run P w = .ok (.enter gf args) w)
    {encs : α → Array Value} {Bs Cs : Nat → Prop} {S Sp : List α → Prop} (hseq : SeqU F (n - 1) P gf lb encs Bs Cs S Sp w)
    (hBs : ∀ k, Bs k → k < w.heap.size) (hCs : ∀ k, Cs k → k < w.heap.size) (hps : ∀ x, (encs x).size = ps.size)
    (I Ix : List α → World → Prop) (hI : ∀ s A B, I s A → Upd (fun k => Bs k ∨ w.heap.size ≤ k) A B → I s B) (hIx : ∀ s A B, Ix s A → Upd (fun k => Bs k ∨ w.heap.size ≤ k) A B → Ix s B) (h0 : I [] w) (a₁ : α → Act)
    (hassign : ∀ (l : Nat) (x : α) (W : World) (K : Act → World → Prop), K (a₁ x) W →
      assign.wpIn (F.inRound l) (n - 1 - 1) P (Exit.then K (fun _ _ _ => False)) { tmps := (ps.zip (encs x)).foldl (fun t (p, v) => t.setIfInBounds p v) a.tmps, defers := [] } W)
    (hbody : ∀ (l : Nat) (pre : List α) (x : α) (W : World), I pre W → body.wpIn (F.inRound l) (n - 1 - 1) P (postU Cs I Ix (pre ++ [x]) W) (a₁ x) W)
    (hdone : ∀ (D : Nat) (xs : List α) (W : World), S xs → I xs W → w.heap.size ≤ D → W.heap[D]? = some (.deferred (some [])) → Q .normal { a with defers := { target := .collected D, args := #[] } :: a.defers } W)
    (hstop : ∀ (D : Nat) (pre : List α) (W : World), Sp pre → Ix pre W → w.heap.size ≤ D → W.heap[D]? = some (.deferred (some [])) → Q .ret { a with defers := { target := .collected D, args := #[] } :: a.defers } W) :
    (Code.rangeFunc g ps assign body).wpIn F n P Q a w := by
  refine wpIn_rangeFunc ?_
  intro fn hfn
  rw [hro]
  obtain ⟨rec, hrec⟩ : ∃ rec : LoopState → Option Code → Loop, rec = fun st pe => { state := st, pending := pe, fn, tmps := a.tmps, params := ps, assign, body, defers := w.heap.size } := ⟨_, rfl⟩
  obtain ⟨W1, hW1⟩ : ∃ W1, (w.alloc (.deferred (some []))).alloc (.loop (rec .ready none)) = W1 := ⟨_, rfl⟩
  have hsz1 : W1.heap.size = w.heap.size + 2 := by rw [← hW1]; simp
  have hL1 : W1.heap[w.heap.size + 1]? = some (.loop (rec .ready none)) := by
    rw [← hW1]; have := World.alloc_heap_new (w.alloc (.deferred (some []))) (.loop (rec .ready none)); rwa [World.size_alloc] at this
  have hK1 : W1.heap[w.heap.size]? = some (.deferred (some [])) := by
    rw [← hW1]; exact (Below.heap_alloc _ _ _ (by simp)).trans (World.alloc_heap_new w _)
  have hU1 : Upd (fun k => Bs k ∨ w.heap.size ≤ k) w W1 := by rw [← hW1]; exact ((Upd.refl _ w).alloc _).alloc _
  have hI1 : I [] W1 := hI _ _ _ h0 hU1
  have hb1 : Below w.heap.size w W1 := by
    rw [← hW1]; exact ((Below.refl _ w).alloc (Nat.le_refl _) _).alloc (by simp) _
  refine ⟨w.heap.size + 1, [{ target := .collected w.heap.size, args := #[] }], W1, { target := .fn (.func gf) lb, args := #[.func (.yield (w.heap.size + 1)) #[] #[]] }, W1, gf,
    #[.func (.yield (w.heap.size + 1)) #[] #[]] ++ lb, W1, ?_, ?_, ?_, ?_, fun _ => h1, ?_⟩
  · rw [← hW1, hrec]; exact run_enterLoop_outer _ _ _ _ _
  · simp only [resolve, hg]
    simp [go_sem]
  · intro f' hf'; simp [Target.leads] at hf'; subst hf'; exact hFg
  · simp [invoke, go_sem, eg]
  · have keepAt : ∀ {A B : World} {k : Nat}, w.heap.size ≤ k → k < W1.heap.size → k < A.heap.size → Upd (fun k => Bs k ∨ W1.heap.size ≤ k) A B → B.heap[k]? = A.heap[k]? := fun h1 h2 h3 hu =>
      hu.block _ h3 (fun hf => hf.elim (fun hf => by have := hBs _ hf; omega) (fun hf => by omega))
    have updI : ∀ {A B : World}, Upd (fun k => Bs k ∨ W1.heap.size ≤ k) A B → Upd (fun k => Bs k ∨ w.heap.size ≤ k) A B := fun hu => hu.mono (fun k _ hk => hk.imp id (fun hk => by omega))
    refine (hseq (w.heap.size + 1)
      (fun pre W => I pre W ∧ W.heap[w.heap.size + 1]? = some (.loop (rec .ready none)) ∧ W.heap[w.heap.size]? = some (.deferred (some [])))
      (fun pre W => Ix pre W ∧ W.heap[w.heap.size + 1]? = some (.loop (rec .done (some .ret))) ∧ W.heap[w.heap.size]? = some (.deferred (some [])))
      W1 hb1
      (fun s A B hs hu => ⟨hI s A B hs.1 (updI hu), (keepAt (by omega) (by omega) (lt_of_block hs.2.1) hu).trans hs.2.1, (keepAt (by omega) (by omega) (lt_of_block hs.2.2) hu).trans hs.2.2⟩)
      (fun s A B hs hu => ⟨hIx s A B hs.1 (updI hu), (keepAt (by omega) (by omega) (lt_of_block hs.2.1) hu).trans hs.2.1, (keepAt (by omega) (by omega) (lt_of_block hs.2.2) hu).trans hs.2.2⟩)
      ?_ ⟨hI1, hL1, hK1⟩).mono ?_
    · rintro pre x W ⟨hi, hl, hk⟩
      have hlt : w.heap.size + 1 < W.heap.size := lt_of_block hl
      have hy := run_yield (P := P) (args := encs x) hl (by rw [hrec]; exact hps x)
      rw [hrec] at hy
      refine ⟨fn, _, assign, body, hy, roundIn_of_wpIn hfn (hassign _ x W _ ⟨_, run_beginRound hl (by rw [hrec]), ?_⟩)⟩
      have hl2 : (W.putObj (w.heap.size + 1) (.loop { rec .ready none with state := .busy })).heap[w.heap.size + 1]? = some (.loop { rec .ready none with state := .busy }) := World.putObj_heap_same hlt
      have hk2 : (W.putObj (w.heap.size + 1) (.loop { rec .ready none with state := .busy })).heap[w.heap.size]? = some (.deferred (some [])) := (World.putObj_heap_other (by omega)).trans hk
      have hp2 : Upd (fun k => Bs k ∨ w.heap.size ≤ k) W (W.putObj (w.heap.size + 1) (.loop { rec .ready none with state := .busy })) := upd_put _ (.inr (by omega))
      have hq2 : Upd (fun k => Cs k ∨ (w.heap.size ≤ k ∧ k < W1.heap.size)) W (W.putObj (w.heap.size + 1) (.loop { rec .ready none with state := .busy })) := upd_put _ (.inr (by omega))
      refine wpIn_mono (hbody _ pre x _ (hI _ _ _ hi hp2)) ?_
      have fin : ∀ (jump : Option Code) (W3 : World), Upd Cs (W.putObj (w.heap.size + 1) (.loop { rec .ready none with state := .busy })) W3 →
          (Instr.endRound (w.heap.size + 1) jump).run P W3 = .ok (.bool jump.isNone) (W3.putObj (w.heap.size + 1) (.loop (rec (if jump.isNone then .ready else .done) jump))) ∧
          (W3.putObj (w.heap.size + 1) (.loop (rec (if jump.isNone then .ready else .done) jump))).heap[w.heap.size + 1]? = some (.loop (rec (if jump.isNone then .ready else .done) jump)) ∧
          (W3.putObj (w.heap.size + 1) (.loop (rec (if jump.isNone then .ready else .done) jump))).heap[w.heap.size]? = some (.deferred (some [])) := fun jump W3 hk3 => by
        have hl3 := (hk3.block (w.heap.size + 1) (lt_of_block hl2) (fun hf => by have := hCs _ hf; omega)).trans hl2
        have hk3' := (hk3.block w.heap.size (lt_of_block hk2) (fun hf => by have := hCs _ hf; omega)).trans hk2
        have := run_endRound (P := P) jump hl3
        rw [hrec] at this ⊢
        exact ⟨this, World.putObj_heap_same (lt_of_block hl3), (World.putObj_heap_other (by omega)).trans hk3'⟩
      rintro e a3 W3 hp
      cases e with
      | normal =>
        obtain ⟨hu3, hi3⟩ := hp
        obtain ⟨hr, hl4, hk4⟩ := fin none W3 hu3
        refine ⟨_, _, hr, .inl ⟨rfl, ⟨hI _ _ _ hi3 (upd_put _ (.inr (by omega))), hl4, hk4⟩, (hq2.trans (hu3.mono (fun k _ hk => .inl hk))).trans (upd_put _ (.inr (by omega)))⟩⟩
      | ret =>
        obtain ⟨hu3, hi3⟩ := hp
        obtain ⟨hr, hl4, hk4⟩ := fin (some .ret) W3 hu3
        exact ⟨_, _, hr, .inr ⟨rfl, hIx _ _ _ hi3 (upd_put _ (.inr (by omega))), hl4, hk4⟩⟩
      | exit id => exact hp.elim
      | goto t => exact hp.elim
      | panic ch => exact hp.elim
      | outgrown => exact hp.elim
    · rintro e W2 ⟨⟨v, rfl⟩, (⟨xs, hS, hi, hl, hk⟩ | ⟨pre, hSp, hi, hl, hk⟩)⟩
      · exact ⟨none, _, by have := run_endLoop (P := P) hl (by rw [hrec]; simp); rw [hrec] at this; exact this, hdone _ xs _ hS (hI _ _ _ hi (upd_put _ (.inr (by omega)))) (Nat.le_refl _) ((World.putObj_heap_other (by omega)).trans hk)⟩
      · exact ⟨some .ret, _, by have := run_endLoop (P := P) hl (by rw [hrec]; simp); rw [hrec] at this; exact this, wpIn_ret (hstop _ pre _ hSp (hIx _ _ _ hi (upd_put _ (.inr (Nat.le_succ _)))) (Nat.le_refl _) ((World.putObj_heap_other (by omega)).trans hk))⟩
end

end Go.Proofs.Ytnfdcfagdidmhaa
