/-
  Memory as a list of things that do not overlap: arenas, boxes, rows. No program here.
-/
import Derived.Test.YtnfdcfagdidmhaaArE
namespace Go.Proofs.Ytnfdcfagdidmhaa
open Go.RowKit
set_option linter.unusedVariables false

/-- A thing in memory, with the blocks that it takes. -/
structure Asrt where
  P : World → (Nat → Prop) → Prop
  upd : ∀ {w w' : World} {S F : Nat → Prop}, P w S → Upd F w w' → (∀ k, S k → ¬ F k) → P w' S
  lt : ∀ {w : World} {S : Nat → Prop}, P w S → ∀ k, S k → k < w.heap.size

def Asrt.arena (b : Nat) (A : Ar) : Asrt where
  P w S := ∃ ρ, AMem w ρ b A ∧ ∀ k, S k ↔ ρ k ≠ 0
  upd := by
    rintro w w' S F ⟨ρ, h, hs⟩ hu hF
    exact ⟨ρ, h.upd hu (fun k hk => hF k ((hs k).2 hk)), hs⟩
  lt := by
    rintro w S ⟨ρ, h, hs⟩ k hk
    exact h.1 k ((hs k).1 hk)
def Asrt.refar (b : Nat) (A : Ar) : Asrt where
  P w S := ∃ ρ, RMem w ρ b A ∧ ∀ k, S k ↔ ρ k ≠ 0
  upd := by
    rintro w w' S F ⟨ρ, h, hs⟩ hu hF
    exact ⟨ρ, h.upd hu (fun k hk => hF k ((hs k).2 hk)), hs⟩
  lt := by
    rintro w S ⟨ρ, h, hs⟩ k hk
    exact h.1 k ((hs k).1 hk)
def Asrt.box (g : Nat) (o : Obj) : Asrt where
  P w S := w.heap[g]? = some o ∧ ∀ k, S k ↔ k = g
  upd := by
    rintro w w' S F ⟨h, hs⟩ hu hF
    exact ⟨by rw [hu.block g (lt_of_block h) (hF g ((hs g).2 rfl))]; exact h, hs⟩
  lt := by
    rintro w S ⟨h, hs⟩ k hk
    rw [(hs k).1 hk]; exact lt_of_block h
def Asrt.row (e : TypeId) (size : Nat) (v : Value) (n : Nat) (xs : List Value) : Asrt where
  P w S := w.ownsRow 0 e size v n xs ∧ ∀ k, S k ↔ v.ownBlock = some k
  upd := by
    rintro w w' S F ⟨h, hs⟩ hu hF
    exact ⟨owns_upd h hu (fun k hk => hF k ((hs k).2 hk)), hs⟩
  lt := by
    rintro w S ⟨h, hs⟩ k hk
    exact (owns_block h k ((hs k).1 hk)).2
/-- A list of nodes: their row, and the rows of their lists. -/
def Asrt.nodes (e eA : TypeId) (v : Value) (ns : List Nd) : Asrt where
  P w S := ∃ ρ, NodesM w ρ e eA v ns ∧ (∀ k, S k ↔ ρ k ≠ 0) ∧ ∀ k, ρ k ≠ 0 → k < w.heap.size
  upd := by
    rintro w w' S F ⟨ρ, h, hs, hl⟩ hu hF
    exact ⟨ρ, h.upd hu (fun k hk => hF k ((hs k).2 hk)), hs, fun k hk => Nat.lt_of_lt_of_le (hl k hk) hu.size⟩
  lt := by
    rintro w S ⟨ρ, h, hs, hl⟩ k hk
    exact hl k ((hs k).1 hk)

def Hold (w : World) : List Asrt → (Nat → Prop) → Prop
  | [], S => ∀ k, ¬ S k
  | a :: l, S => ∃ S1 S2, a.P w S1 ∧ Hold w l S2 ∧ (∀ k, S1 k → ¬ S2 k) ∧ ∀ k, S k ↔ S1 k ∨ S2 k

theorem Hold.upd {w w' : World} {F : Nat → Prop} (hu : Upd F w w') : ∀ {l : List Asrt} {S : Nat → Prop}, Hold w l S → (∀ k, S k → ¬ F k) → Hold w' l S
  | [], S, h, _ => h
  | a :: l, S, h, hF => by
    obtain ⟨S1, S2, h1, h2, h3, h4⟩ := h
    exact ⟨S1, S2, a.upd h1 hu (fun k hk => hF k ((h4 k).2 (.inl hk))), Hold.upd hu h2 (fun k hk => hF k ((h4 k).2 (.inr hk))), h3, h4⟩
theorem Hold.lt {w : World} : ∀ {l : List Asrt} {S : Nat → Prop}, Hold w l S → ∀ k, S k → k < w.heap.size
  | [], S, h, k, hk => absurd hk (h k)
  | a :: l, S, h, k, hk => by
    obtain ⟨S1, S2, h1, h2, h3, h4⟩ := h
    rcases (h4 k).1 hk with h | h
    · exact a.lt h1 k h
    · exact Hold.lt h2 k h

/-- The call's own memory begins at B; it began in w0. -/
structure Own (w0 : World) (B : Nat) (l : List Asrt) (w : World) : Prop where
  hold : ∃ S, Hold w l S ∧ ∀ k, S k → B ≤ k
  low : Below B w0 w
  size : B ≤ w0.heap.size

theorem Own.start (w : World) : Own w w.heap.size [] w := ⟨⟨fun _ => False, fun _ h => h, fun _ h => h.elim⟩, Below.refl _ _, Nat.le_refl _⟩
theorem Own.big {w0 w : World} {B : Nat} {l : List Asrt} (h : Own w0 B l w) : B ≤ w.heap.size := Nat.le_trans h.size h.low.size
theorem Own.read {w0 w w' : World} {B : Nat} {l : List Asrt} (h : Own w0 B l w) (hb : Below w.heap.size w w') : Own w0 B l w' := by
  obtain ⟨S, h1, h2⟩ := h.hold
  exact ⟨⟨S, h1.upd (F := fun _ => False) (Upd.below hb) (fun _ _ => id), h2⟩, h.low.trans (hb.mono h.big), h.size⟩
/-- The thing at the front, and what may become of it. -/
theorem Own.front {w0 w : World} {B : Nat} {a : Asrt} {l : List Asrt} (h : Own w0 B (a :: l) w) : ∃ S1, a.P w S1 ∧ ∀ (w' : World) (a' : Asrt), (∃ S', a'.P w' S' ∧ Upd S1 w w' ∧ ∀ k, k < w.heap.size → S' k → S1 k) → Own w0 B (a' :: l) w' := by
  obtain ⟨S, ⟨S1, S2, h1, h2, h3, h4⟩, h5⟩ := h.hold
  refine ⟨S1, h1, ?_⟩
  rintro w' a' ⟨S', m1, m2, m3⟩
  have hlow : Below B w w' := ⟨m2.os, m2.tape, m2.output, m2.size, fun k hk => m2.block k (Nat.lt_of_lt_of_le hk h.big) (fun hf => by have := h5 k ((h4 k).2 (.inl hf)); omega)⟩
  refine ⟨⟨fun k => S' k ∨ S2 k, ⟨S', S2, m1, h2.upd m2 (fun k hk hf => h3 k hf hk), fun k hk hf => h3 k (m3 k (h2.lt k hf) hk) hf, fun k => Iff.rfl⟩, fun k hk => ?_⟩, h.low.trans hlow, h.size⟩
  rcases hk with hk | hk
  · by_cases hlt : k < w.heap.size
    · exact h5 k ((h4 k).2 (.inl (m3 k hlt hk)))
    · have := h.big; omega
  · exact h5 k ((h4 k).2 (.inr hk))
/-- A new thing in new memory. -/
theorem Own.fresh {w0 w w' : World} {B : Nat} {a : Asrt} {l : List Asrt} (h : Own w0 B l w) (hb : Below w.heap.size w w') (ha : ∃ S, a.P w' S ∧ ∀ k, S k → w.heap.size ≤ k) : Own w0 B (a :: l) w' := by
  obtain ⟨S, h1, h2⟩ := (h.read hb).hold
  obtain ⟨S0, h01, _⟩ := h.hold
  obtain ⟨Sa, a1, a2⟩ := ha
  have hlt : ∃ S, Hold w' l S ∧ (∀ k, S k → B ≤ k) ∧ ∀ k, S k → k < w.heap.size := by
    obtain ⟨S, q1, q2⟩ := h.hold
    exact ⟨S, q1.upd (F := fun _ => False) (Upd.below hb) (fun _ _ => id), q2, q1.lt⟩
  obtain ⟨S, q1, q2, q3⟩ := hlt
  refine ⟨⟨fun k => Sa k ∨ S k, ⟨Sa, S, a1, q1, fun k hk hf => by have := a2 k hk; have := q3 k hf; omega, fun k => Iff.rfl⟩, fun k hk => ?_⟩, h.low.trans (hb.mono h.big), h.size⟩
  rcases hk with hk | hk
  · have := a2 k hk; have := h.big; omega
  · exact q2 k hk
theorem Own.drop {w0 w : World} {B : Nat} {a : Asrt} {l : List Asrt} (h : Own w0 B (a :: l) w) : Own w0 B l w := by
  obtain ⟨S, ⟨S1, S2, h1, h2, h3, h4⟩, h5⟩ := h.hold
  exact ⟨⟨S2, h2, fun k hk => h5 k ((h4 k).2 (.inr hk))⟩, h.low, h.size⟩
theorem Own.swap {w0 w : World} {B : Nat} {a b : Asrt} {l : List Asrt} (h : Own w0 B (a :: b :: l) w) : Own w0 B (b :: a :: l) w := by
  obtain ⟨S, ⟨S1, S2, h1, ⟨S3, S4, g1, g2, g3, g4⟩, h3, h4⟩, h5⟩ := h.hold
  refine ⟨⟨S, ⟨S3, fun k => S1 k ∨ S4 k, g1, ⟨S1, S4, h1, g2, fun k hk hf => h3 k hk ((g4 k).2 (.inr hf)), fun k => Iff.rfl⟩, fun k hk hf => ?_, fun k => ?_⟩, h5⟩, h.low, h.size⟩
  · rcases hf with hf | hf
    · exact h3 k hf ((g4 k).2 (.inl hk))
    · exact g3 k hk hf
  · rw [h4 k, g4 k]
    constructor
    · rintro (q | q | q)
      · exact .inr (.inl q)
      · exact .inl q
      · exact .inr (.inr q)
    · rintro (q | q | q)
      · exact .inr (.inl q)
      · exact .inl q
      · exact .inr (.inr q)
/-- The third, the fourth thing to the front. -/
theorem Own.rot3 {w0 w : World} {B : Nat} {a b c : Asrt} {l : List Asrt} (h : Own w0 B (a :: b :: c :: l) w) : Own w0 B (c :: a :: b :: l) w := by
  obtain ⟨S, ⟨S1, S2, h1, h2, h3, h4⟩, h5⟩ := h.hold
  have hin : Own w0 B (b :: c :: l) w := h.drop
  -- the two behind the first are swapped beneath it
  obtain ⟨S3, S4, g1, ⟨S5, S6, k1, k2, k3, k4⟩, g3, g4⟩ := h2
  have h' : Own w0 B (a :: c :: b :: l) w := by
    refine ⟨⟨S, ⟨S1, S2, h1, ⟨S5, fun k => S3 k ∨ S6 k, k1, ⟨S3, S6, g1, k2, fun k hk hf => g3 k hk ((k4 k).2 (.inr hf)), fun k => Iff.rfl⟩, fun k hk hf => ?_, fun k => ?_⟩, h3, h4⟩, h5⟩, h.low, h.size⟩
    · rcases hf with hf | hf
      · exact g3 k hf ((k4 k).2 (.inl hk))
      · exact k3 k hk hf
    · rw [g4 k, k4 k]
      constructor
      · rintro (q | q | q)
        · exact .inr (.inl q)
        · exact .inl q
        · exact .inr (.inr q)
      · rintro (q | q | q)
        · exact .inr (.inl q)
        · exact .inl q
        · exact .inr (.inr q)
  exact h'.swap
/-- One of the things. -/
theorem Hold.mem {w : World} : ∀ {l : List Asrt} {S : Nat → Prop} {a : Asrt}, Hold w l S → a ∈ l → ∃ S', a.P w S' ∧ ∀ k, S' k → S k
  | [], _, _, _, hm => by simp at hm
  | b :: l, S, a, h, hm => by
    obtain ⟨S1, S2, h1, h2, h3, h4⟩ := h
    rcases List.mem_cons.1 hm with rfl | hm
    · exact ⟨S1, h1, fun k hk => (h4 k).2 (.inl hk)⟩
    · obtain ⟨S', q1, q2⟩ := Hold.mem h2 hm
      exact ⟨S', q1, fun k hk => (h4 k).2 (.inr (q2 k hk))⟩
theorem Own.get {w0 w : World} {B : Nat} {l : List Asrt} {a : Asrt} (h : Own w0 B l w) (hm : a ∈ l) : ∃ S, a.P w S ∧ ∀ k, S k → B ≤ k := by
  obtain ⟨S, h1, h2⟩ := h.hold
  obtain ⟨S', q1, q2⟩ := h1.mem hm
  exact ⟨S', q1, fun k hk => h2 k (q2 k hk)⟩
theorem Own.arena {w0 w : World} {B b : Nat} {A : Ar} {l : List Asrt} (h : Own w0 B l w) (hm : Asrt.arena b A ∈ l) : ∃ ρ, AMem w ρ b A := by
  obtain ⟨S, ⟨ρ, h1, _⟩, _⟩ := h.get hm
  exact ⟨ρ, h1⟩
theorem Own.box {w0 w : World} {B g : Nat} {o : Obj} {l : List Asrt} (h : Own w0 B l w) (hm : Asrt.box g o ∈ l) : w.heap[g]? = some o := by
  obtain ⟨S, ⟨h1, _⟩, _⟩ := h.get hm
  exact h1
theorem Own.row {w0 w : World} {B : Nat} {e : TypeId} {size : Nat} {v : Value} {n : Nat} {xs : List Value} {l : List Asrt} (h : Own w0 B l w) (hm : Asrt.row e size v n xs ∈ l) : w.ownsRow B e size v n xs := by
  obtain ⟨S, ⟨h1, h2⟩, h3⟩ := h.get hm
  refine ⟨h1.1, ?_⟩
  rcases h1.2 with q | ⟨g, cap, cur, rfl, q1, q2⟩
  · exact .inl q
  · exact .inr ⟨g, cap, cur, rfl, h3 g ((h2 g).2 rfl), q2⟩
/-- A new box. -/
theorem Own.alloc {w0 w : World} {B : Nat} {l : List Asrt} (h : Own w0 B l w) (o : Obj) : Own w0 B (.box w.heap.size o :: l) (w.alloc o) :=
  h.fresh (below_alloc w o) ⟨fun k => k = w.heap.size, ⟨heap_alloc_new w o, fun _ => Iff.rfl⟩, fun k hk => by omega⟩
/-- A new row. -/
theorem Own.newRow {w0 w w' : World} {B : Nat} {e : TypeId} {size : Nat} {v : Value} {n : Nat} {xs : List Value} {l : List Asrt} (h : Own w0 B l w) (hb : Below w.heap.size w w') (ho : w'.ownsRow w.heap.size e size v n xs) : Own w0 B (.row e size v n xs :: l) w' :=
  h.fresh hb ⟨fun k => v.ownBlock = some k, ⟨owns_base ho (Nat.zero_le _), fun _ => Iff.rfl⟩, fun k hk => (owns_block ho k hk).1⟩
/-- The box at the front is written. -/
theorem Own.setBox {w0 w w' : World} {B g : Nat} {o o' : Obj} {l : List Asrt} (h : Own w0 B (.box g o :: l) w) (hu : Upd (fun k => k = g) w w') (ho : w'.heap[g]? = some o') : Own w0 B (.box g o' :: l) w' :=
  let ⟨S, ⟨_, h2⟩, hf⟩ := h.front
  hf w' _ ⟨S, ⟨ho, h2⟩, hu.mono (fun k _ hk => (h2 k).2 hk), fun k _ hk => hk⟩

end Go.Proofs.Ytnfdcfagdidmhaa
