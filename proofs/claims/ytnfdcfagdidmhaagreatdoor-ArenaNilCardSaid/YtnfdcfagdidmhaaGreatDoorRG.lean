/-
  A range over a function whose iterator first makes memory of its own and then only reads: the rounds may write whatever is not its memory. No program here.
-/
import Derived.Test.YtnfdcfagdidmhaaGreatDoorGE
import Derived.Maps.AppendAt
import Derived.Maps.OwnIn
namespace Go.Proofs.YtnfdcfagdidmhaaGreatDoor
open Go.RowKit
set_option linter.unusedVariables false

section
variable {F : Fence} {n : Nat} {P : Program}

/-- The iterator g: behind its first steps its memory ends at m; the rounds leave that memory as it is. -/
def SeqR {α : Type} (F : Fence) (n : Nat) (P : Program) (g : Nat) (lb : Array Value) (encs : α → Array Value) (S Sp : List α → Prop) (w : World) : Prop :=
  ∀ (l : Nat) (J Jx : Nat → List α → World → Prop) (W : World), Below w.heap.size w W →
    (∀ W0, Below W.heap.size W W0 → J W0.heap.size [] W0) →
    (∀ m pre x W1, Sp (pre ++ [x]) → J m pre W1 → YieldAt F (n - 1) P l (encs x) W1 fun e W' =>
      (e = .returned (.bool true) ∧ J m (pre ++ [x]) W' ∧ ∀ k, W.heap.size ≤ k → k < m → W'.heap[k]? = W1.heap[k]?) ∨ (e = .returned (.bool false) ∧ Jx m (pre ++ [x]) W')) →
    CallsIn F n P g (#[.func (.yield l) #[] #[]] ++ lb) W fun e W' => (∃ v, e = .returned v) ∧ ((∃ xs m, S xs ∧ J m xs W') ∨ (∃ pre m, Sp pre ∧ Jx m pre W'))

/-- How the body of a round may be left: it goes on, or it returns. -/
def postR {α : Type} (lo m : Nat) (I : List α → World → Prop) (Ix : Code → List α → World → Prop) (xs : List α) (W : World) : Exit → Act → World → Prop
  | .normal, _, W' => (∀ k, lo ≤ k → k < m → W'.heap[k]? = W.heap[k]?) ∧ I xs W'
  | .ret, _, W' => (∀ k, lo ≤ k → k < m → W'.heap[k]? = W.heap[k]?) ∧ Ix .ret xs W'
  | .exit id, _, W' => (∀ k, lo ≤ k → k < m → W'.heap[k]? = W.heap[k]?) ∧ Ix (.exit id) xs W'
  | _, _, _ => False

theorem wpIn_rangeFunc_R {α : Type} {g : Operand} {ps : Array Tmp} {assign body : Code} {Q : Exit → Act → World → Prop} {a : Act} {w : World}
    (hro : F.round = none) (h1 : 1 ≤ n) {gf : Nat} {lb : Array Value} (hg : a.eval g = .func (.func gf) #[] lb) (hFg : F.fn gf) (eg : ∀ args w, (callFunc gf args).run P w = .ok (.enter gf args) w)
    {encs : α → Array Value} {S Sp : List α → Prop} (hseq : SeqR F (n - 1) P gf lb encs S Sp w) (hps : ∀ x, (encs x).size = ps.size)
    (I : Nat → List α → World → Prop) (Ix : Code → Nat → List α → World → Prop) (hI : ∀ m s A B, w.heap.size + 2 ≤ m → I m s A → Upd (fun k => k = w.heap.size ∨ k = w.heap.size + 1) A B → I m s B) (hIx : ∀ c m s A B, w.heap.size + 2 ≤ m → Ix c m s A → Upd (fun k => k = w.heap.size ∨ k = w.heap.size + 1) A B → Ix c m s B)
    (h0 : ∀ W0, Below w.heap.size w W0 → I W0.heap.size [] W0) (a₁ : α → Act)
    (hassign : ∀ (l : Nat) (x : α) (W : World) (K : Act → World → Prop), K (a₁ x) W →
      assign.wpIn (F.inRound l) (n - 1 - 1) P (Exit.then K (fun _ _ _ => False)) { tmps := (ps.zip (encs x)).foldl (fun t (p, v) => t.setIfInBounds p v) a.tmps, defers := [] } W)
    (hbody : ∀ (l m : Nat) (pre : List α) (x : α) (W : World), w.heap.size + 2 ≤ m → Sp (pre ++ [x]) → I m pre W → body.wpIn (F.inRound l) (n - 1 - 1) P (postR w.heap.size m (I m) (fun c => Ix c m) (pre ++ [x]) W) (a₁ x) W)
    (hdone : ∀ (m : Nat) (xs : List α) (W : World), S xs → w.heap.size + 2 ≤ m → I m xs W → W.heap[w.heap.size]? = some (.deferred (some [])) → Q .normal { a with defers := { target := .collected w.heap.size, args := #[] } :: a.defers } W)
    (hstop : ∀ (c : Code) (m : Nat) (pre : List α) (W : World), Sp pre → w.heap.size + 2 ≤ m → Ix c m pre W → W.heap[w.heap.size]? = some (.deferred (some [])) → c.wpIn F n P Q { a with defers := { target := .collected w.heap.size, args := #[] } :: a.defers } W) :
    (Code.rangeFunc g ps assign body).wpIn F n P Q a w := by
  refine wpIn_rangeFunc ?_
  intro fn hfn
  rw [hro]
  obtain ⟨rec, hrec⟩ : ∃ rec : LoopState → Option Code → Loop, rec = fun st pe => { state := st, pending := pe, fn, tmps := a.tmps, params := ps, assign, body, defers := w.heap.size } := ⟨_, rfl⟩
  obtain ⟨W1, hW1⟩ : ∃ W1, (w.alloc (.deferred (some []))).alloc (.loop (rec .ready none)) = W1 := ⟨_, rfl⟩
  have hsz1 : W1.heap.size = w.heap.size + 2 := by rw [← hW1]; simp
  have hL1 : W1.heap[w.heap.size + 1]? = some (.loop (rec .ready none)) := by
    rw [← hW1]; have := World.alloc_heap_new (w.alloc (.deferred (some []))) (.loop (rec .ready none)); rwa [World.size_alloc] at this
  have hK1 : W1.heap[w.heap.size]? = some (.deferred (some [])) := by
    rw [← hW1]; exact (Below.heap_alloc _ _ _ (by simp)).trans (World.alloc_heap_new w _)
  have hb1 : Below w.heap.size w W1 := by
    rw [← hW1]; exact ((Below.refl _ w).alloc (Nat.le_refl _) _).alloc (by simp) _
  refine ⟨w.heap.size + 1, [{ target := .collected w.heap.size, args := #[] }], W1, { target := .fn (.func gf) lb, args := #[.func (.yield (w.heap.size + 1)) #[] #[]] }, W1, gf,
    #[.func (.yield (w.heap.size + 1)) #[] #[]] ++ lb, W1, ?_, ?_, ?_, ?_, fun _ => h1, ?_⟩
  · rw [← hW1, hrec]; exact run_enterLoop_outer _ _ _ _ _
  · simp only [resolve, hg]
    simp [go_sem]
  · intro f' hf'; simp [Target.leads] at hf'; subst hf'; exact hFg
  · simp [invoke, go_sem, eg]
  · refine (hseq (w.heap.size + 1)
      (fun m pre W => w.heap.size + 2 ≤ m ∧ I m pre W ∧ W.heap[w.heap.size + 1]? = some (.loop (rec .ready none)) ∧ W.heap[w.heap.size]? = some (.deferred (some [])))
      (fun m pre W => w.heap.size + 2 ≤ m ∧ ∃ c, Ix c m pre W ∧ W.heap[w.heap.size + 1]? = some (.loop (rec .done (some c))) ∧ W.heap[w.heap.size]? = some (.deferred (some [])))
      W1 hb1
      (fun W0 hW0 => ⟨by rw [← hsz1]; exact hW0.size, h0 W0 (hb1.trans (hW0.mono (by omega))), (hW0.block _ (by omega)).trans hL1, (hW0.block _ (by omega)).trans hK1⟩)
      ?_).mono ?_
    · rintro m pre x W hsp ⟨hm, hi, hl, hk⟩
      have hlt : w.heap.size + 1 < W.heap.size := lt_of_block hl
      have hy := run_yield (P := P) (args := encs x) hl (by rw [hrec]; exact hps x)
      rw [hrec] at hy
      refine ⟨fn, _, assign, body, hy, roundIn_of_wpIn hfn (hassign _ x W _ ⟨_, run_beginRound hl (by rw [hrec]), ?_⟩)⟩
      have hl2 : (W.putObj (w.heap.size + 1) (.loop { rec .ready none with state := .busy })).heap[w.heap.size + 1]? = some (.loop { rec .ready none with state := .busy }) := World.putObj_heap_same hlt
      have hk2 : (W.putObj (w.heap.size + 1) (.loop { rec .ready none with state := .busy })).heap[w.heap.size]? = some (.deferred (some [])) := (World.putObj_heap_other (by omega)).trans hk
      have hp2 : Upd (fun k => k = w.heap.size ∨ k = w.heap.size + 1) W (W.putObj (w.heap.size + 1) (.loop { rec .ready none with state := .busy })) := upd_put _ (.inr rfl)
      have hother : ∀ k, k ≠ w.heap.size + 1 → (W.putObj (w.heap.size + 1) (.loop { rec .ready none with state := .busy })).heap[k]? = W.heap[k]? := fun k hk => World.putObj_heap_other hk
      refine wpIn_mono (hbody _ m pre x _ hm hsp (hI _ _ _ _ hm hi hp2)) ?_
      have fin : ∀ (jump : Option Code) (W3 : World), (∀ k, w.heap.size ≤ k → k < m → W3.heap[k]? = (W.putObj (w.heap.size + 1) (.loop { rec .ready none with state := .busy })).heap[k]?) →
          (Instr.endRound (w.heap.size + 1) jump).run P W3 = .ok (.bool jump.isNone) (W3.putObj (w.heap.size + 1) (.loop (rec (if jump.isNone then .ready else .done) jump))) ∧
          (W3.putObj (w.heap.size + 1) (.loop (rec (if jump.isNone then .ready else .done) jump))).heap[w.heap.size + 1]? = some (.loop (rec (if jump.isNone then .ready else .done) jump)) ∧
          (W3.putObj (w.heap.size + 1) (.loop (rec (if jump.isNone then .ready else .done) jump))).heap[w.heap.size]? = some (.deferred (some [])) ∧
          ∀ k, w.heap.size + 2 ≤ k → k < m → (W3.putObj (w.heap.size + 1) (.loop (rec (if jump.isNone then .ready else .done) jump))).heap[k]? = W.heap[k]? := fun jump W3 hk3 => by
        have hl3 := (hk3 (w.heap.size + 1) (by omega) (by omega)).trans hl2
        have hk3' := (hk3 w.heap.size (by omega) (by omega)).trans hk2
        have := run_endRound (P := P) jump hl3
        rw [hrec] at this ⊢
        exact ⟨this, World.putObj_heap_same (lt_of_block hl3), (World.putObj_heap_other (by omega)).trans hk3', fun k h1 h2 => (World.putObj_heap_other (by omega)).trans ((hk3 k (by omega) h2).trans (hother k (by omega)))⟩
      rintro e a3 W3 hp
      cases e with
      | normal =>
        obtain ⟨hu3, hi3⟩ := hp
        obtain ⟨hr, hl4, hk4, hrest⟩ := fin none W3 hu3
        exact ⟨_, _, hr, .inl ⟨rfl, ⟨hm, hI _ _ _ _ hm hi3 (upd_put _ (.inr rfl)), hl4, hk4⟩, fun k h1 h2 => hrest k (by omega) h2⟩⟩
      | ret =>
        obtain ⟨hu3, hi3⟩ := hp
        obtain ⟨hr, hl4, hk4, hrest⟩ := fin (some .ret) W3 hu3
        exact ⟨_, _, hr, .inr ⟨rfl, hm, .ret, hIx _ _ _ _ _ hm hi3 (upd_put _ (.inr rfl)), hl4, hk4⟩⟩
      | exit id =>
        obtain ⟨hu3, hi3⟩ := hp
        obtain ⟨hr, hl4, hk4, hrest⟩ := fin (some (.exit id)) W3 hu3
        exact ⟨_, _, hr, .inr ⟨rfl, hm, .exit id, hIx _ _ _ _ _ hm hi3 (upd_put _ (.inr rfl)), hl4, hk4⟩⟩
      | goto t => exact hp.elim
      | panic ch => exact hp.elim
      | outgrown => exact hp.elim
    · rintro e W2 ⟨⟨v, rfl⟩, (⟨xs, m, hS, hm, hi, hl, hk⟩ | ⟨pre, m, hSp, hm, c, hi, hl, hk⟩)⟩
      · exact ⟨none, _, by have := run_endLoop (P := P) hl (by rw [hrec]; simp); rw [hrec] at this; exact this, hdone m xs _ hS hm (hI _ _ _ _ hm hi (upd_put _ (.inr rfl))) ((World.putObj_heap_other (by omega)).trans hk)⟩
      · exact ⟨some c, _, by have := run_endLoop (P := P) hl (by rw [hrec]; simp); rw [hrec] at this; exact this, hstop c m pre _ hSp hm (hIx _ _ _ _ _ hm hi (upd_put _ (.inr rfl))) ((World.putObj_heap_other (by omega)).trans hk)⟩
end

/-- Blocks that nobody else writes, with what is in them. -/
def Asrt.guard (lo m : Nat) (f : Nat → Option Obj) : Asrt where
  P w S := (∀ k, S k ↔ lo ≤ k ∧ k < m) ∧ m ≤ w.heap.size ∧ ∀ k, lo ≤ k → k < m → w.heap[k]? = f k
  upd := by
    rintro w w' S F ⟨h1, h2, h3⟩ hu hF
    exact ⟨h1, Nat.le_trans h2 hu.size, fun k a b => (hu.block k (by omega) (hF k ((h1 k).2 ⟨a, b⟩))).trans (h3 k a b)⟩
  lt := by
    rintro w S ⟨h1, h2, _⟩ k hk
    have := (h1 k).1 hk; omega

theorem Own.guarded {w0 w : World} {B lo m : Nat} {f : Nat → Option Obj} {l : List Asrt} (h : Own w0 B l w) (hm : Asrt.guard lo m f ∈ l) : ∀ k, lo ≤ k → k < m → w.heap[k]? = f k :=
  let ⟨_, ⟨_, _, q⟩, _⟩ := h.get hm
  q
theorem Own.startGuard {w0 w W : World} {B : Nat} {l : List Asrt} (h : Own w0 B l w) (hb : Below w.heap.size w W) : Own w0 B (.guard w.heap.size W.heap.size (fun k => W.heap[k]?) :: l) W :=
  h.fresh hb ⟨fun k => w.heap.size ≤ k ∧ k < W.heap.size, ⟨fun _ => Iff.rfl, Nat.le_refl _, fun _ _ _ => rfl⟩, fun k hk => hk.1⟩
/-- The loop's own two blocks are written. -/
theorem Own.loopGuard {w0 A W : World} {B lo m : Nat} {f : Nat → Option Obj} {l : List Asrt} (h : Own w0 B (.guard lo m f :: l) A) (hm : lo + 2 ≤ m) (hu : Upd (fun k => k = lo ∨ k = lo + 1) A W) : Own w0 B (.guard lo m (fun k => W.heap[k]?) :: l) W := by
  obtain ⟨S1, ⟨h1, h2, h3⟩, hf⟩ := h.front
  exact hf W _ ⟨S1, ⟨h1, Nat.le_trans h2 hu.size, fun _ _ _ => rfl⟩, hu.mono (fun k _ hk => (h1 k).2 (by rcases hk with rfl | rfl <;> omega)), fun _ _ hk => hk⟩

/-- The row at the front has grown. -/
theorem Own.grow {w0 W w1 : World} {B base : Nat} {e : TypeId} {size : Nat} {v v' : Value} {n n' : Nat} {xs xs' : List Value} {l : List Asrt} (h : Own w0 B (.row e size v n xs :: l) W)
    (hown : w1.ownsRow base e size v' n' xs') (hg : W.grownBy w1 v.ownBlock) (hat : v'.ownBlock = v.ownBlock ∨ v'.ownBlock = some W.heap.size) : Own w0 B (.row e size v' n' xs' :: l) w1 := by
  obtain ⟨S1, ⟨h1, h2⟩, hf⟩ := h.front
  refine hf w1 _ ⟨fun k => v'.ownBlock = some k, ⟨owns_base hown (Nat.zero_le _), fun _ => Iff.rfl⟩, Upd.grown hg (fun k hk => (h2 k).2 hk), fun k hk hv => (h2 k).2 ?_⟩
  rcases hat with hat | hat
  · rw [← hat]; exact hv
  · rw [hv] at hat; simp at hat; omega
/-- The box at the front, of one cell, is written. -/
theorem Own.set1 {w0 W : World} {B g : Nat} {t : TypeId} {v u : Value} {l : List Asrt} (h : Own w0 B (.box g (.cells #[v] t (0, 0)) :: l) W) : Own w0 B (.box g (.cells #[u] t (0, 0)) :: l) (W.setCell ⟨g, 0, none⟩ u) :=
  h.setBox ((Upd.refl (fun k => k = g) W).setCell (p := ⟨g, 0, none⟩) (.inr rfl) u) (one_setCell (h.box (o := .cells #[v] t (0, 0)) (by simp)))
theorem Own.rot4 {w0 w : World} {B : Nat} {a b c d : Asrt} {l : List Asrt} (h : Own w0 B (a :: b :: c :: d :: l) w) : Own w0 B (d :: a :: b :: c :: l) w := by
  obtain ⟨S, ⟨S1, S2, h1, h2, h3, h4⟩, h5⟩ := h.hold
  obtain ⟨S3, S4, k1, ⟨S5, S6, m1, ⟨S7, S8, p1, p2, p3, p4⟩, m3, m4⟩, k3, k4⟩ := h2
  refine ⟨⟨S, ⟨S7, fun k => S1 k ∨ S3 k ∨ S5 k ∨ S8 k, p1, ⟨S1, fun k => S3 k ∨ S5 k ∨ S8 k, h1, ⟨S3, fun k => S5 k ∨ S8 k, k1, ⟨S5, S8, m1, p2, ?_, fun _ => Iff.rfl⟩, ?_, fun _ => Iff.rfl⟩, ?_, fun _ => Iff.rfl⟩, ?_, ?_⟩, h5⟩, h.low, h.size⟩
  · intro k hk hf; exact m3 k hk ((p4 k).2 (.inr hf))
  · intro k hk hf
    rcases hf with hf | hf
    · exact k3 k hk ((m4 k).2 (.inl hf))
    · exact k3 k hk ((m4 k).2 (.inr ((p4 k).2 (.inr hf))))
  · intro k hk hf
    rcases hf with hf | hf | hf
    · exact h3 k hk ((k4 k).2 (.inl hf))
    · exact h3 k hk ((k4 k).2 (.inr ((m4 k).2 (.inl hf))))
    · exact h3 k hk ((k4 k).2 (.inr ((m4 k).2 (.inr ((p4 k).2 (.inr hf))))))
  · intro k hk hf
    rcases hf with hf | hf | hf | hf
    · exact h3 k hf ((k4 k).2 (.inr ((m4 k).2 (.inr ((p4 k).2 (.inl hk))))))
    · exact k3 k hf ((m4 k).2 (.inr ((p4 k).2 (.inl hk))))
    · exact m3 k hf ((p4 k).2 (.inl hk))
    · exact p3 k hk hf
  · intro k
    rw [h4 k, k4 k, m4 k, p4 k]
    constructor
    · rintro (q | q | q | q | q)
      · exact .inr (.inl q)
      · exact .inr (.inr (.inl q))
      · exact .inr (.inr (.inr (.inl q)))
      · exact .inl q
      · exact .inr (.inr (.inr (.inr q)))
    · rintro (q | q | q | q | q)
      · exact .inr (.inr (.inr (.inl q)))
      · exact .inl q
      · exact .inr (.inl q)
      · exact .inr (.inr (.inl q))
      · exact .inr (.inr (.inr (.inr q)))

end Go.Proofs.YtnfdcfagdidmhaaGreatDoor
