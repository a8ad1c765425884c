/-
  Parts: Mem, Ar, ArM, ArE, RF, ArW, ArS, ArT, ArU, ArV, RM.
-/
import Derived.WalkKit
import Derived.WalkSpells
import Derived.WalkLawsBesides
import Derived.Lib.Hide
import Derived.RangeFuncNested
import Derived.RangeFuncBound
import Derived.RangeFuncCalls
import Derived.RangeFuncLeaves

/- What lies in memory, and what a call leaves of it: no program here. -/
namespace Go.Proofs.YtnfdcfagdidmhaaGreatDoor
open Go.RowKit

/-- w' is w but for the blocks in F and for new blocks. -/
structure Upd (F : Nat → Prop) (w w' : World) : Prop where
  os : w'.os = w.os
  tape : w'.tape = w.tape
  output : w'.output = w.output
  size : w.heap.size ≤ w'.heap.size
  block : ∀ k, k < w.heap.size → ¬ F k → w'.heap[k]? = w.heap[k]?

theorem Upd.refl (F : Nat → Prop) (w : World) : Upd F w w := ⟨rfl, rfl, rfl, Nat.le_refl _, fun _ _ _ => rfl⟩
theorem Upd.trans {F : Nat → Prop} {a b c : World} (h : Upd F a b) (k : Upd F b c) : Upd F a c :=
  ⟨k.os.trans h.os, k.tape.trans h.tape, k.output.trans h.output, Nat.le_trans h.size k.size, fun i hi hf => (k.block i (Nat.lt_of_lt_of_le hi h.size) hf).trans (h.block i hi hf)⟩
theorem Upd.mono {F G : Nat → Prop} {w w' : World} (h : Upd F w w') (hs : ∀ k, k < w.heap.size → F k → G k) : Upd G w w' :=
  ⟨h.os, h.tape, h.output, h.size, fun k hk hg => h.block k hk (fun hf => hg (hs k hk hf))⟩
theorem Upd.below {F : Nat → Prop} {w w' : World} (h : Below w.heap.size w w') : Upd F w w' := ⟨h.os, h.tape, h.output, h.size, fun k hk _ => h.block k hk⟩
theorem Upd.toBelow {F : Nat → Prop} {w w' : World} (h : Upd F w w') (hF : ∀ k, k < w.heap.size → ¬ F k) : Below w.heap.size w w' := ⟨h.os, h.tape, h.output, h.size, fun k hk => h.block k hk (hF k hk)⟩
theorem Upd.drew {F : Nat → Prop} {a w : World} (h : Upd F a w) : Upd F a w.drew := ⟨h.os, h.tape, h.output, h.size, h.block⟩
theorem Upd.drewN {F : Nat → Prop} {a w : World} (h : Upd F a w) (n : Nat) : Upd F a (w.drewN n) := ⟨h.os, h.tape, h.output, h.size, h.block⟩
theorem Upd.alloc {F : Nat → Prop} {a w : World} (h : Upd F a w) (o : Obj) : Upd F a (w.alloc o) :=
  h.trans ⟨rfl, rfl, rfl, by simp, fun k hk _ => Below.heap_alloc _ _ _ hk⟩
theorem Upd.setCell {F : Nat → Prop} {a w : World} (h : Upd F a w) {p : Addr} (hp : a.heap.size ≤ p.block ∨ F p.block) (u : Value) : Upd F a (w.setCell p u) :=
  ⟨h.os, h.tape, h.output, by simpa using h.size, fun k hk hf => by
    rw [Below.heap_setCell _ _ _ _ (by intro e; subst e; exact hp.elim (fun hp => by omega) hf)]; exact h.block k hk hf⟩
theorem Upd.grown {F : Nat → Prop} {w w' : World} {row : Option Nat} (hg : w.grownBy w' row) (hr : ∀ k, row = some k → F k) : Upd F w w' :=
  ⟨hg.os, hg.tape, hg.output, hg.size, fun k hk hf => hg.block k hk (fun e => hf (hr k e.symm))⟩
theorem Upd.cell {F : Nat → Prop} {w w' : World} (h : Upd F w w') {p : Addr} {v : Value} (hv : w.cell? p = some v) (hp : ¬ F p.block) : w'.cell? p = some v :=
  (World.cell?_of_block (w := w) (h.block p.block (World.block_lt_of_cell? w _ hv) hp)).trans hv
theorem Upd.free {F : Nat → Prop} {w w' : World} (h : Upd F w w') {p : Addr} {x : Bool} (hlt : p.block < w.heap.size) (hv : w.frozen? p = x) (hp : ¬ F p.block) : w'.frozen? p = x :=
  (World.frozen?_of_block (w := w) (h.block p.block hlt hp)).trans hv
theorem Below.drewN {B : Nat} {a w : World} (h : Below B a w) (n : Nat) : Below B a (w.drewN n) := ⟨h.os, h.tape, h.output, h.size, h.block⟩
theorem Below.old {w w' : World} (h : Below w.heap.size w w') {p : Addr} {v : Value} (hv : w.cell? p = some v) : w'.cell? p = some v :=
  (h.cell (World.block_lt_of_cell? w _ hv)).trans hv
theorem Below.from0 {w a w' : World} (h : Below w.heap.size w a) (k : Below a.heap.size a w') : Below w.heap.size w w' := h.trans (k.mono h.size)

/-- The slice value v has n elements of 'size' cells each, and they read as xs. -/
def RCells (w : World) (v : Value) (n size : Nat) (xs : List Value) : Prop :=
  xs.length = n * size ∧ ∃ a c, v = .slice a n c ∧ n ≤ c ∧ c ≤ maxLen ∧ (0 < n → ∃ b o, a = some ⟨b, o, none⟩ ∧ ∀ j x, xs[j]? = some x → w.cell? ⟨b, o + j, none⟩ = some x)

theorem RCells.upd {F : Nat → Prop} {w w' : World} {v : Value} {n size : Nat} {xs : List Value} (h : RCells w v n size xs) (hb : Upd F w w') (hF : ∀ a m c, v = .slice (some a) m c → ¬ F a.block) : RCells w' v n size xs := by
  obtain ⟨h1, a, c, h2, h3, h4, h5⟩ := h
  refine ⟨h1, a, c, h2, h3, h4, fun hn => ?_⟩
  obtain ⟨b, o, h6, h7⟩ := h5 hn
  subst h6
  exact ⟨b, o, rfl, fun j x hx => hb.cell (h7 j x hx) (hF ⟨b, o, none⟩ _ _ h2)⟩
theorem RCells.below {w w' : World} {v : Value} {n size : Nat} {xs : List Value} (h : RCells w v n size xs) (hb : Below w.heap.size w w') : RCells w' v n size xs :=
  h.upd (F := fun _ => False) (Upd.below hb) (fun _ _ _ _ => id)

def intv (n : Int) : Value := .int .i64 n
abbrev AttrD := Int × ByteArray × ByteArray
def attrCells (a : AttrD) : List Value := [.int .i64 a.1, .string a.2.1, .string a.2.2]

/-- A slice of ints. -/
def RInts (w : World) (v : Value) (l : List Int) : Prop := RCells w v l.length 1 (l.map intv)
/-- A slice of attributes. -/
def RAttrs (w : World) (v : Value) (l : List AttrD) : Prop := RCells w v l.length 3 (l.flatMap attrCells)
theorem RInts.below {w w' : World} {v : Value} {l : List Int} (h : RInts w v l) (hb : Below w.heap.size w w') : RInts w' v l := RCells.below h hb
theorem RAttrs.below {w w' : World} {v : Value} {l : List AttrD} (h : RAttrs w v l) (hb : Below w.heap.size w w') : RAttrs w' v l := RCells.below h hb

theorem RInts.form {w : World} {v : Value} {l : List Int} (h : RInts w v l) : ∃ a c, v = .slice a l.length c ∧ l.length ≤ c ∧ c ≤ 9223372036854775807 ∧
    (0 < l.length → ∃ b o, a = some ⟨b, o, none⟩ ∧ ∀ j, j < l.length → w.cell? ⟨b, o + j, none⟩ = some (.int .i64 (l[j]?.getD 0))) := by
  obtain ⟨h1, a, c, h2, h3, h4, h5⟩ := h
  refine ⟨a, c, h2, h3, h4, fun hn => ?_⟩
  obtain ⟨b, o, h6, h7⟩ := h5 hn
  refine ⟨b, o, h6, fun j hj => h7 j _ ?_⟩
  simp [hj, intv]

theorem flatten_get {s : Nat} : ∀ {rows : List (List Value)}, (∀ r ∈ rows, r.length = s) → ∀ (i j : Nat), j < s → rows.flatten[s * i + j]? = (rows[i]?).bind (fun r => r[j]?)
  | [], _, i, j, _ => by simp
  | r :: rows, h, i, j, hj => by
    have hr : r.length = s := h r (by simp)
    cases i with
    | zero => simp [List.getElem?_append, hr, hj]
    | succ i =>
      have := flatten_get (rows := rows) (fun r hr => h r (by simp [hr])) i j hj
      rw [List.flatten_cons, List.getElem?_append_right (by rw [hr, Nat.mul_succ]; omega), hr, show s * (i + 1) + j - s = s * i + j from by rw [Nat.mul_succ]; omega, this]
      simp

theorem flatten_set {s : Nat} (v : Value) : ∀ {rows : List (List Value)}, (∀ r ∈ rows, r.length = s) → ∀ (i j : Nat), j < s → rows.flatten.set (s * i + j) v = (rows.modify i (fun r => r.set j v)).flatten
  | [], _, i, j, _ => by simp
  | r :: rows, h, i, j, hj => by
    have hr : r.length = s := h r (by simp)
    cases i with
    | zero => simp [hr, hj]
    | succ i =>
      have := flatten_set v (rows := rows) (fun r hr => h r (by simp [hr])) i j hj
      rw [List.flatten_cons, List.set_append_right _ _ (by rw [hr, Nat.mul_succ]; omega), hr, show s * (i + 1) + j - s = s * i + j from by rw [Nat.mul_succ]; omega, this]
      simp

theorem attr_rows (l : List AttrD) : l.flatMap attrCells = (l.map attrCells).flatten := by simp [List.flatMap]
theorem attr_get {l : List AttrD} {i : Nat} {a : AttrD} (h : l[i]? = some a) (j : Nat) (hj : j < 3) : (l.flatMap attrCells)[3 * i + j]? = (attrCells a)[j]? := by
  rw [attr_rows, flatten_get (by intro r hr; simp at hr; obtain ⟨x, y, z, _, rfl⟩ := hr; rfl) i j hj]
  simp [h]

theorem RAttrs.form {w : World} {v : Value} {l : List AttrD} (h : RAttrs w v l) : ∃ a c, v = .slice a l.length c ∧ l.length ≤ c ∧ c ≤ 9223372036854775807 ∧
    (0 < l.length → ∃ b o, a = some ⟨b, o, none⟩ ∧ ∀ j x, l[j]? = some x → w.cell? ⟨b, o + j * 3, none⟩ = some (.int .i64 x.1) ∧ w.cell? ⟨b, o + j * 3 + 1, none⟩ = some (.string x.2.1) ∧ w.cell? ⟨b, o + j * 3 + 2, none⟩ = some (.string x.2.2)) := by
  obtain ⟨h1, a, c, h2, h3, h4, h5⟩ := h
  refine ⟨a, c, h2, h3, h4, fun hn => ?_⟩
  obtain ⟨b, o, h6, h7⟩ := h5 hn
  refine ⟨b, o, h6, fun j x hx => ⟨?_, ?_, ?_⟩⟩
  · have := h7 (3 * j + 0) (.int .i64 x.1) (by rw [attr_get hx 0 (by omega)]; rfl)
    rwa [show o + (3 * j + 0) = o + j * 3 from by omega] at this
  · have := h7 (3 * j + 1) (.string x.2.1) (by rw [attr_get hx 1 (by omega)]; rfl)
    rwa [show o + (3 * j + 1) = o + j * 3 + 1 from by omega] at this
  · have := h7 (3 * j + 2) (.string x.2.2) (by rw [attr_get hx 2 (by omega)]; rfl)
    rwa [show o + (3 * j + 2) = o + j * 3 + 2 from by omega] at this

/-- A slice value that owns its row, whose block bears the role r. -/
def ROwn (w : World) (ρ : Nat → Nat) (r : Nat) (e : TypeId) (size : Nat) (v : Value) (n : Nat) (xs : List Value) : Prop :=
  w.ownsRow 0 e size v n xs ∧ ∀ g, v.ownBlock = some g → ρ g = r

theorem ROwn.reads {w : World} {ρ : Nat → Nat} {r : Nat} {e : TypeId} {size : Nat} {v : Value} {n : Nat} {xs : List Value} (h : ROwn w ρ r e size v n xs) : RCells w v n size xs := by
  obtain ⟨⟨h1, h2⟩, h3⟩ := h
  refine ⟨h1, ?_⟩
  rcases h2 with ⟨rfl, rfl⟩ | ⟨g, cap, cur, rfl, _, hg, hn, hc, hs, ht⟩
  · exact ⟨none, 0, rfl, Nat.le_refl _, Nat.zero_le _, fun h => absurd h (by simp)⟩
  · refine ⟨_, cap, rfl, hn, hc, fun _ => ⟨g, 0, rfl, fun j x hx => ?_⟩⟩
    rw [cell_of_row w g _ cur e (0, 0) hg]
    rw [← ht, List.getElem?_take] at hx
    split at hx
    · simpa using hx
    · simp at hx

theorem ROwn.upd {F : Nat → Prop} {w w' : World} {ρ : Nat → Nat} {r : Nat} {e : TypeId} {size : Nat} {v : Value} {n : Nat} {xs : List Value} (h : ROwn w ρ r e size v n xs) (hu : Upd F w w') (hF : ∀ k, ρ k = r → ¬ F k) : ROwn w' ρ r e size v n xs := by
  obtain ⟨⟨h1, h2⟩, h3⟩ := h
  refine ⟨⟨h1, ?_⟩, h3⟩
  rcases h2 with h2 | ⟨g, cap, cur, rfl, hb, hg, hr⟩
  · exact Or.inl h2
  · refine Or.inr ⟨g, cap, cur, rfl, hb, ?_, hr⟩
    rw [hu.block g (lt_of_block hg) (hF g (h3 g rfl))]; exact hg

/-- The roles of blocks stay, but for new blocks. -/
theorem ROwn.role {w : World} {ρ ρ' : Nat → Nat} {r : Nat} {e : TypeId} {size : Nat} {v : Value} {n : Nat} {xs : List Value} (h : ROwn w ρ r e size v n xs) (hr : ∀ k, k < w.heap.size → ρ' k = ρ k) : ROwn w ρ' r e size v n xs := by
  refine ⟨h.1, fun g hg => ?_⟩
  rw [hr g ?_]; exact h.2 g hg
  rcases h.1.2 with ⟨rfl, _⟩ | ⟨g', cap, cur, rfl, _, hg', _⟩
  · simp [Value.ownBlock] at hg
  · simp [Value.ownBlock] at hg; subst hg; exact lt_of_block hg'

/-- One description of a node, its slices apart. -/
structure Nd where
  kind : Int
  parent : Int
  kids : List Int
  doc : Int
  space : Int
  name : ByteArray
  attrs : List AttrD
  data : ByteArray
  pub : ByteArray
  sys : ByteArray
  quirks : Bool
  contents : Int
  host : Int

def Nd.cells (n : Nd) (kv av : Value) : List Value :=
  [.int .i64 n.kind, .int .i64 n.parent, kv, .int .i64 n.doc, .int .i64 n.space, .string n.name, av, .string n.data, .string n.pub, .string n.sys, .bool n.quirks, .int .i64 n.contents, .int .i64 n.host]
theorem Nd.cells_length (n : Nd) (kv av : Value) : (n.cells kv av).length = 13 := rfl

def zeroNd : Nd := ⟨0, 0, [], 0, 0, ByteArray.empty, [], ByteArray.empty, ByteArray.empty, ByteArray.empty, false, 0, 0⟩
instance : Inhabited Nd := ⟨zeroNd⟩

/-- A node as a value. -/
def RNode (w : World) (v : Value) (n : Nd) : Prop := ∃ kv av, v = .agg (n.cells kv av).toArray ∧ RInts w kv n.kids ∧ RAttrs w av n.attrs
theorem RNode.below {w w' : World} {v : Value} {n : Nd} (h : RNode w v n) (hb : Below w.heap.size w w') : RNode w' v n := by
  obtain ⟨kv, av, h1, h2, h3⟩ := h; exact ⟨kv, av, h1, h2.below hb, h3.below hb⟩

/-- Node number i of an arena: its row of cells, the arrays of its lists. -/
def NodeM (w : World) (ρ : Nat → Nat) (eA : TypeId) (i : Nat) (n : Nd) (r : List Value) : Prop :=
  ∃ kv av, r = n.cells kv av ∧ ROwn w ρ (2 * i + 4) 3 1 kv n.kids.length (n.kids.map intv) ∧ ROwn w ρ (2 * i + 5) eA 3 av n.attrs.length (n.attrs.flatMap attrCells)

/-- The slice value nv of nodes. -/
def NodesM (w : World) (ρ : Nat → Nat) (e eA : TypeId) (nv : Value) (ns : List Nd) : Prop :=
  ∃ rows : List (List Value), ROwn w ρ 2 e 13 nv ns.length rows.flatten ∧ rows.length = ns.length ∧ ∀ i n, ns[i]? = some n → ∃ r, rows[i]? = some r ∧ NodeM w ρ eA i n r

theorem NodeM.len {w : World} {ρ : Nat → Nat} {eA : TypeId} {i : Nat} {n : Nd} {r : List Value} (h : NodeM w ρ eA i n r) : r.length = 13 := by
  obtain ⟨kv, av, rfl, _⟩ := h; rfl
theorem NodeM.upd {F : Nat → Prop} {w w' : World} {ρ : Nat → Nat} {eA : TypeId} {i : Nat} {n : Nd} {r : List Value} (h : NodeM w ρ eA i n r) (hu : Upd F w w') (hF : ∀ k, ρ k = 2 * i + 4 ∨ ρ k = 2 * i + 5 → ¬ F k) : NodeM w' ρ eA i n r := by
  obtain ⟨kv, av, h1, h2, h3⟩ := h
  exact ⟨kv, av, h1, h2.upd hu (fun k hk => hF k (.inl hk)), h3.upd hu (fun k hk => hF k (.inr hk))⟩
theorem NodeM.role {w : World} {ρ ρ' : Nat → Nat} {eA : TypeId} {i : Nat} {n : Nd} {r : List Value} (h : NodeM w ρ eA i n r) (hr : ∀ k, k < w.heap.size → ρ' k = ρ k) : NodeM w ρ' eA i n r := by
  obtain ⟨kv, av, h1, h2, h3⟩ := h
  exact ⟨kv, av, h1, h2.role hr, h3.role hr⟩
theorem NodesM.rows13 {w : World} {ρ : Nat → Nat} {eA : TypeId} {ns : List Nd} {rows : List (List Value)} (hl : rows.length = ns.length) (h : ∀ i n, ns[i]? = some n → ∃ r, rows[i]? = some r ∧ NodeM w ρ eA i n r) : ∀ r ∈ rows, r.length = 13 := by
  intro r hr
  obtain ⟨i, hi, rfl⟩ := List.getElem_of_mem hr
  obtain ⟨r', h1, h2⟩ := h i (ns[i]'(by omega)) (List.getElem?_eq_getElem _)
  rw [List.getElem?_eq_getElem hi] at h1
  simp at h1; rw [h1]; exact h2.len
theorem NodesM.upd {F : Nat → Prop} {w w' : World} {ρ : Nat → Nat} {e eA : TypeId} {nv : Value} {ns : List Nd} (h : NodesM w ρ e eA nv ns) (hu : Upd F w w') (hF : ∀ k, ρ k ≠ 0 → ¬ F k) : NodesM w' ρ e eA nv ns := by
  obtain ⟨rows, h1, h2, h3⟩ := h
  refine ⟨rows, h1.upd hu (fun k hk => hF k (by omega)), h2, fun i n hn => ?_⟩
  obtain ⟨r, h4, h5⟩ := h3 i n hn
  exact ⟨r, h4, h5.upd hu (fun k hk => hF k (by omega))⟩
theorem NodesM.role {w : World} {ρ ρ' : Nat → Nat} {e eA : TypeId} {nv : Value} {ns : List Nd} (h : NodesM w ρ e eA nv ns) (hr : ∀ k, k < w.heap.size → ρ' k = ρ k) : NodesM w ρ' e eA nv ns := by
  obtain ⟨rows, h1, h2, h3⟩ := h
  refine ⟨rows, h1.role hr, h2, fun i n hn => ?_⟩
  obtain ⟨r, h4, h5⟩ := h3 i n hn
  exact ⟨r, h4, h5.role hr⟩

theorem RInts_new1 (w : World) (x : Int) (t : TypeId) : RInts (w.alloc (.cells #[.int .i64 x] t)) (.slice (some ⟨w.heap.size, 0, none⟩) 1 1) [x] := by
  refine ⟨rfl, _, 1, rfl, Nat.le_refl _, by unfold maxLen; omega, fun _ => ⟨_, _, rfl, fun j y hy => ?_⟩⟩
  rw [Nat.zero_add]
  match j, hy with
  | 0, hy => simp [intv] at hy; subst hy; simp
theorem RInts_new2 (w : World) (x y : Int) (t : TypeId) : RInts (w.alloc (.cells #[.int .i64 x, .int .i64 y] t)) (.slice (some ⟨w.heap.size, 0, none⟩) 2 2) [x, y] := by
  refine ⟨rfl, _, 2, rfl, Nat.le_refl _, by unfold maxLen; omega, fun _ => ⟨_, _, rfl, fun j z hz => ?_⟩⟩
  rw [Nat.zero_add]
  match j, hz with
  | 0, hz => simp [intv] at hz; subst hz; simp
  | 1, hz => simp [intv] at hz; subst hz; simp
theorem heap_old_alloc (w : World) (o : Obj) (i : Nat) (h : i < w.heap.size) : (w.alloc o).heap[i]? = w.heap[i]? := Below.heap_alloc _ _ _ h
theorem below_alloc (w : World) (o : Obj) : Below w.heap.size w (w.alloc o) := (Below.refl _ w).alloc (Nat.le_refl _) o

theorem str_inj {a b : ByteArray} (h : a.toList = b.toList) : a = b := by
  rw [Go.ByteArray.toList_eq, Go.ByteArray.toList_eq] at h
  exact ByteArray.ext (Array.toList_inj.1 h)
theorem str_beq (a b : ByteArray) : (a.toList == b.toList) = decide (a = b) := by
  rw [Bool.eq_iff_iff]; simp; exact ⟨str_inj, fun h => by rw [h]⟩

theorem RInts_new1' {w : World} {b : Nat} (x : Int) (t : TypeId) (hb : b = w.heap.size) : RInts (w.alloc (.cells #[.int .i64 x] t)) (.slice (some ⟨b, 0, none⟩) 1 1) [x] := by subst hb; exact RInts_new1 w x t
theorem RInts_new2' {w : World} {b : Nat} (x y : Int) (t : TypeId) (hb : b = w.heap.size) : RInts (w.alloc (.cells #[.int .i64 x, .int .i64 y] t)) (.slice (some ⟨b, 0, none⟩) 2 2) [x, y] := by subst hb; exact RInts_new2 w x y t
theorem cell_new' {w : World} {b j : Nat} {c : Array Value} {t : TypeId} {v : Value} (hb : b = w.heap.size) (hv : c[j]? = some v) : (w.alloc (.cells c t)).cell? ⟨b, j, none⟩ = some v := by
  subst hb; rw [World.cell?_alloc_new]; exact hv
theorem cell_old' {w : World} {a : Addr} {v : Value} (o : Obj) (h : w.cell? a = some v) : (w.alloc o).cell? a = some v := Below.old (below_alloc w o) h

theorem owns_below {w w' : World} {base : Nat} {e : TypeId} {size : Nat} {v : Value} {n : Nat} {xs : List Value} (h : w.ownsRow base e size v n xs) (hu : Below w.heap.size w w') : w'.ownsRow base e size v n xs := by
  refine ⟨h.1, ?_⟩
  rcases h.2 with h2 | ⟨g, cap, cur, rfl, hb, hg, hr⟩
  · exact Or.inl h2
  · exact Or.inr ⟨g, cap, cur, rfl, hb, by rw [hu.block g (lt_of_block hg)]; exact hg, hr⟩
theorem owns_base {w : World} {base base' : Nat} {e : TypeId} {size : Nat} {v : Value} {n : Nat} {xs : List Value} (h : w.ownsRow base e size v n xs) (hb : base' ≤ base) : w.ownsRow base' e size v n xs := by
  refine ⟨h.1, ?_⟩
  rcases h.2 with h2 | ⟨g, cap, cur, h3, hg, hr⟩
  · exact Or.inl h2
  · exact Or.inr ⟨g, cap, cur, h3, Nat.le_trans hb hg, hr⟩
theorem owns_block {w : World} {base : Nat} {e : TypeId} {size : Nat} {v : Value} {n : Nat} {xs : List Value} (h : w.ownsRow base e size v n xs) : ∀ k, v.ownBlock = some k → base ≤ k ∧ k < w.heap.size := by
  intro k hk
  rcases h.2 with ⟨rfl, _⟩ | ⟨g, cap, cur, rfl, hg, hb, _⟩
  · simp [Value.ownBlock] at hk
  · simp [Value.ownBlock] at hk; subst hk; exact ⟨hg, lt_of_block hb⟩

end Go.Proofs.YtnfdcfagdidmhaaGreatDoor

/- Arenas as plain data, and what the calls of the chapter do to them: no program here. -/
namespace Go.Proofs.YtnfdcfagdidmhaaGreatDoor

/-- Nodes (the one of handle h has the index h - 1), and the inert document of each handle, or 0 (the one of handle h has the index h). -/
structure Ar where
  ns : List Nd
  inert : List Int

def Ar.n (A : Ar) : Int := (A.ns.length : Int)
def Ar.has (A : Ar) (h : Int) : Prop := 1 ≤ h ∧ h ≤ A.n
instance (A : Ar) (h : Int) : Decidable (A.has h) := inferInstanceAs (Decidable (_ ∧ _))
def Ar.get (A : Ar) (h : Int) : Nd := A.ns[(h.toNat - 1)]?.getD zeroNd
def Ar.mod (A : Ar) (h : Int) (f : Nd → Nd) : Ar := { A with ns := A.ns.modify (h.toNat - 1) f }
def Ar.add (A : Ar) (n : Nd) : Ar := { ns := A.ns ++ [n], inert := A.inert ++ [0] }
def Ar.new : Ar := { ns := [], inert := [0] }

def Ar.document (A : Ar) (q : Bool) : Ar := A.add { zeroNd with kind := 1, quirks := q, doc := A.n + 1 }
/-- The error of creating a node for d. -/
def Ar.ofDoc (A : Ar) (d : Int) : Int := if ¬ A.has d then 3 else if (A.get d).kind ≠ 1 then 9 else 0
def Ar.make (A : Ar) (d : Int) (n : Nd) : (Int × Int) × Ar := if A.ofDoc d ≠ 0 then ((0, A.ofDoc d), A) else ((A.n + 1, 0), A.add { n with doc := d })
def Ar.inertAt (A : Ar) (d : Int) : Int := A.inert[d.toNat]?.getD 0
def Ar.inertOf (A : Ar) (d : Int) : Int × Ar :=
  if A.inertAt d ≠ 0 then (A.inertAt d, A)
  else (A.n + 1, { A.document false with inert := ((A.document false).inert.set d.toNat (A.n + 1)).set (A.n + 1).toNat (A.n + 1) })
def Ar.inertCall (A : Ar) (d : Int) : (Int × Int) × Ar := if A.ofDoc d ≠ 0 then ((0, A.ofDoc d), A) else (((A.inertOf d).1, 0), (A.inertOf d).2)

def inSpaces (s : Int) : Prop := 0 ≤ s ∧ s ≤ 7
instance (s : Int) : Decidable (inSpaces s) := inferInstanceAs (Decidable (_ ∧ _))
def attrSpaces (l : List AttrD) : Prop := ∀ a ∈ l, inSpaces a.1
instance (l : List AttrD) : Decidable (attrSpaces l) := inferInstanceAs (Decidable (∀ a ∈ l, _))
def sameName (a b : AttrD) : Bool := decide (a.1 = b.1 ∧ a.2.1 = b.2.1)
def onceStep (out : List AttrD) (x : AttrD) : List AttrD := if out.any (fun y => sameName x y) then out else out ++ [x]
def onceL (l : List AttrD) : List AttrD := l.foldl onceStep []
def templateL : List UInt8 := [116, 101, 109, 112, 108, 97, 116, 101]
def isTemplate (n : Nd) : Prop := n.kind = 4 ∧ n.space = 1 ∧ n.name.toList = templateL
instance (n : Nd) : Decidable (isTemplate n) := inferInstanceAs (Decidable (_ ∧ _ ∧ _))

/-- A new element: the node alone; behind it, for a template, the inert document (if there is none) and the contents. -/
def Ar.element (A : Ar) (d s : Int) (name : ByteArray) (l : List AttrD) : (Int × Int) × Ar :=
  if A.ofDoc d ≠ 0 then ((0, A.ofDoc d), A)
  else if ¬ (inSpaces s ∧ attrSpaces l) then ((0, 2), A)
  else
    let nd : Nd := { zeroNd with kind := 4, doc := d, space := s, name := name, attrs := onceL l }
    let A1 := A.add nd
    if isTemplate nd then
      let A2 := (A1.inertOf d).2
      let A3 := A2.add { zeroNd with kind := 2, host := A.n + 1, doc := (A1.inertOf d).1 }
      ((A.n + 1, 0), A3.mod (A.n + 1) (fun x => { x with contents := A2.n + 1 }))
    else ((A.n + 1, 0), A1)

/-- The parent of a node, or its host, or 0. -/
def Ar.up (A : Ar) (h : Int) : Int := if (A.get h).parent ≠ 0 then (A.get h).parent else (A.get h).host
/-- l is the way up from h. -/
def Ar.Way (A : Ar) (up : Int → Int) : Int → List Int → Prop
  | h, [] => h = 0
  | h, x :: l => x = h ∧ A.has h ∧ A.Way up (up h) l

def without (l : List Int) (k : Int) : List Int := l.filter (fun x => x ≠ k)
/-- The list with a node before another one, or last. -/
def putIn (l : List Int) (node before : Int) : List Int :=
  (l.flatMap fun x => if x = before then [node, x] else [x]) ++ (if before = 0 then [node] else [])

def Ar.cut (A : Ar) (h : Int) : Ar :=
  if (A.get h).parent = 0 then A
  else (A.mod (A.get h).parent (fun x => { x with kids := without x.kids h })).mod h (fun x => { x with parent := 0 })
def Ar.cutCall (A : Ar) (h : Int) : Int × Ar := if A.has h then (0, A.cut h) else (3, A)

/-- The error of Put; c tells whether the node contains the parent. -/
def Ar.allowed (A : Ar) (parent node before : Int) (c : Bool) : Int :=
  if ¬ A.has parent ∨ ¬ A.has node ∨ (before ≠ 0 ∧ ¬ A.has before) then 3
  else if ¬ ((A.get parent).kind = 1 ∨ (A.get parent).kind = 2 ∨ (A.get parent).kind = 4) then 4
  else if (A.get node).kind = 1 ∨ (A.get node).kind = 2 ∨ c = true then 4
  else if before ≠ 0 ∧ (before = node ∨ (A.get before).parent ≠ parent) then 5
  else 0
def Ar.place (A : Ar) (parent node before : Int) : Ar :=
  ((A.cut node).mod parent (fun x => { x with kids := putIn x.kids node before })).mod node (fun x => { x with parent := parent })

def Ar.setData (A : Ar) (h : Int) (s : ByteArray) : Int × Ar :=
  if ¬ A.has h then (3, A) else if ¬ ((A.get h).kind = 5 ∨ (A.get h).kind = 6) then (9, A) else (0, A.mod h (fun x => { x with data := s }))
def Ar.setAttrs (A : Ar) (h : Int) (l : List AttrD) : Int × Ar :=
  if ¬ A.has h then (3, A) else if (A.get h).kind ≠ 4 then (9, A) else if ¬ attrSpaces l then (2, A) else (0, A.mod h (fun x => { x with attrs := onceL l }))
def Ar.setQuirks (A : Ar) (h : Int) (q : Bool) : Int × Ar :=
  if ¬ A.has h then (3, A) else if (A.get h).kind ≠ 1 then (9, A) else (0, A.mod h (fun x => { x with quirks := q }))
def Ar.setDoc (A : Ar) (h d : Int) : Int × Ar :=
  if ¬ A.has h ∨ ¬ A.has d then (3, A) else if (A.get h).kind = 1 ∨ (A.get d).kind ≠ 1 then (9, A) else (0, A.mod h (fun x => { x with doc := d }))

end Go.Proofs.YtnfdcfagdidmhaaGreatDoor

/- How an arena lies in memory (the program's, the document's). -/
namespace Go.Proofs.YtnfdcfagdidmhaaGreatDoor
open Go.RowKit

def mapEs (L : List (Int × Int)) : Array MapEntry := (L.mapIdx (fun i p => { key := intv p.1, val := intv p.2, born := i })).toArray

/-- The map of the inert documents. -/
def IMapM (w : World) (ρ : Nat → Nat) (mv : Value) (I : List Int) : Prop :=
  ∃ L : List (Int × Int), (∀ k : Int, L.lookup k = if 1 ≤ k ∧ I[k.toNat]?.getD 0 ≠ 0 then some (I[k.toNat]?.getD 0) else none) ∧ (L.map Prod.fst).Nodup ∧
    ((mv = .map none ∧ L = []) ∨ ∃ mb, mv = .map (some mb) ∧ ρ mb = 3 ∧ w.heap[mb]? = some (.map (mapEs L) L.length))

/-- The program's arena, at the head of block b. -/
def AMem (w : World) (ρ : Nat → Nat) (b : Nat) (A : Ar) : Prop :=
  (∀ k, ρ k ≠ 0 → k < w.heap.size) ∧ ρ b = 1 ∧ A.inert.length = A.ns.length + 1 ∧
    ∃ nv mv, w.heap[b]? = some (.cells #[nv, mv] 51 (0, 0)) ∧ NodesM w ρ 83 123 nv A.ns ∧ IMapM w ρ mv A.inert

/-- The document's arena, at the head of block b. -/
def RMem (w : World) (ρ : Nat → Nat) (b : Nat) (A : Ar) : Prop :=
  (∀ k, ρ k ≠ 0 → k < w.heap.size) ∧ ρ b = 1 ∧ A.inert.length = A.ns.length + 1 ∧
    ∃ nv iv, w.heap[b]? = some (.cells #[nv, iv] 81 (0, 0)) ∧ NodesM w ρ 56 123 nv (zeroNd :: A.ns) ∧ ROwn w ρ 3 3 1 iv (A.ns.length + 1) (A.inert.map intv)

/-- What a call on an arena leaves: other blocks as they were; the roles of the old blocks. -/
structure Turn (ρ ρ' : Nat → Nat) (w w' : World) : Prop where
  upd : Upd (fun k => ρ k ≠ 0) w w'
  role : ∀ k, k < w.heap.size → ρ' k = ρ k

theorem Turn.refl (ρ : Nat → Nat) (w : World) : Turn ρ ρ w w := ⟨Upd.refl _ _, fun _ _ => rfl⟩
theorem Turn.trans {ρ ρ' ρ'' : Nat → Nat} {a b c : World} (h : Turn ρ ρ' a b) (k : Turn ρ' ρ'' b c) : Turn ρ ρ'' a c :=
  ⟨⟨k.upd.os.trans h.upd.os, k.upd.tape.trans h.upd.tape, k.upd.output.trans h.upd.output, Nat.le_trans h.upd.size k.upd.size, fun i hi hf =>
    (k.upd.block i (Nat.lt_of_lt_of_le hi h.upd.size) (by rw [h.role i hi]; exact hf)).trans (h.upd.block i hi hf)⟩,
   fun i hi => (k.role i (Nat.lt_of_lt_of_le hi h.upd.size)).trans (h.role i hi)⟩
theorem Turn.below {ρ : Nat → Nat} {w w' : World} (h : Below w.heap.size w w') : Turn ρ ρ w w' := ⟨Upd.below h, fun _ _ => rfl⟩

theorem IMapM.upd {F : Nat → Prop} {w w' : World} {ρ : Nat → Nat} {mv : Value} {I : List Int} (h : IMapM w ρ mv I) (hu : Upd F w w') (hF : ∀ k, ρ k = 3 → ¬ F k) : IMapM w' ρ mv I := by
  obtain ⟨L, h1, h2, h3⟩ := h
  refine ⟨L, h1, h2, ?_⟩
  rcases h3 with h3 | ⟨mb, h4, h5, h6⟩
  · exact .inl h3
  · exact .inr ⟨mb, h4, h5, by rw [hu.block mb (lt_of_block h6) (hF mb h5)]; exact h6⟩
theorem IMapM.role {w : World} {ρ ρ' : Nat → Nat} {mv : Value} {I : List Int} (h : IMapM w ρ mv I) (hr : ∀ k, k < w.heap.size → ρ' k = ρ k) : IMapM w ρ' mv I := by
  obtain ⟨L, h1, h2, h3⟩ := h
  refine ⟨L, h1, h2, ?_⟩
  rcases h3 with h3 | ⟨mb, h4, h5, h6⟩
  · exact .inl h3
  · exact .inr ⟨mb, h4, by rw [hr mb (lt_of_block h6)]; exact h5, h6⟩

theorem AMem.upd {F : Nat → Prop} {w w' : World} {ρ : Nat → Nat} {b : Nat} {A : Ar} (h : AMem w ρ b A) (hu : Upd F w w') (hF : ∀ k, ρ k ≠ 0 → ¬ F k) : AMem w' ρ b A := by
  obtain ⟨h1, h2, h3, nv, mv, h4, h5, h6⟩ := h
  exact ⟨fun k hk => Nat.lt_of_lt_of_le (h1 k hk) hu.size, h2, h3, nv, mv, by rw [hu.block b (lt_of_block h4) (hF b (by omega))]; exact h4, h5.upd hu hF, h6.upd hu (fun k hk => hF k (by omega))⟩
theorem AMem.below {w w' : World} {ρ : Nat → Nat} {b : Nat} {A : Ar} (h : AMem w ρ b A) (hu : Below w.heap.size w w') : AMem w' ρ b A := h.upd (F := fun _ => False) (Upd.below hu) (fun _ _ => id)
theorem RMem.upd {F : Nat → Prop} {w w' : World} {ρ : Nat → Nat} {b : Nat} {A : Ar} (h : RMem w ρ b A) (hu : Upd F w w') (hF : ∀ k, ρ k ≠ 0 → ¬ F k) : RMem w' ρ b A := by
  obtain ⟨h1, h2, h3, nv, mv, h4, h5, h6⟩ := h
  exact ⟨fun k hk => Nat.lt_of_lt_of_le (h1 k hk) hu.size, h2, h3, nv, mv, by rw [hu.block b (lt_of_block h4) (hF b (by omega))]; exact h4, h5.upd hu hF, h6.upd hu (fun k hk => hF k (by omega))⟩
theorem RMem.below {w w' : World} {ρ : Nat → Nat} {b : Nat} {A : Ar} (h : RMem w ρ b A) (hu : Below w.heap.size w w') : RMem w' ρ b A := h.upd (F := fun _ => False) (Upd.below hu) (fun _ _ => id)

/-- The cells of one node at an offset. -/
structure NodeF (w : World) (nb o : Nat) (n : Nd) (kv av : Value) : Prop where
  c0 : w.cell? ⟨nb, o, none⟩ = some (.int .i64 n.kind)
  c1 : w.cell? ⟨nb, o + 1, none⟩ = some (.int .i64 n.parent)
  c2 : w.cell? ⟨nb, o + 2, none⟩ = some kv
  c3 : w.cell? ⟨nb, o + 3, none⟩ = some (.int .i64 n.doc)
  c4 : w.cell? ⟨nb, o + 4, none⟩ = some (.int .i64 n.space)
  c5 : w.cell? ⟨nb, o + 5, none⟩ = some (.string n.name)
  c6 : w.cell? ⟨nb, o + 6, none⟩ = some av
  c7 : w.cell? ⟨nb, o + 7, none⟩ = some (.string n.data)
  c8 : w.cell? ⟨nb, o + 8, none⟩ = some (.string n.pub)
  c9 : w.cell? ⟨nb, o + 9, none⟩ = some (.string n.sys)
  c10 : w.cell? ⟨nb, o + 10, none⟩ = some (.bool n.quirks)
  c11 : w.cell? ⟨nb, o + 11, none⟩ = some (.int .i64 n.contents)
  c12 : w.cell? ⟨nb, o + 12, none⟩ = some (.int .i64 n.host)

theorem NodeF.upd {F : Nat → Prop} {w w' : World} {nb o : Nat} {n : Nd} {kv av : Value} (h : NodeF w nb o n kv av) (hu : Upd F w w') (hF : ¬ F nb) : NodeF w' nb o n kv av :=
  ⟨hu.cell h.c0 hF, hu.cell h.c1 hF, hu.cell h.c2 hF, hu.cell h.c3 hF, hu.cell h.c4 hF, hu.cell h.c5 hF, hu.cell h.c6 hF, hu.cell h.c7 hF, hu.cell h.c8 hF, hu.cell h.c9 hF, hu.cell h.c10 hF, hu.cell h.c11 hF, hu.cell h.c12 hF⟩
theorem NodeF.below {w w' : World} {nb o : Nat} {n : Nd} {kv av : Value} (h : NodeF w nb o n kv av) (hu : Below w.heap.size w w') : NodeF w' nb o n kv av :=
  h.upd (F := fun _ => False) (Upd.below hu) id

theorem NodesM.head {w : World} {ρ : Nat → Nat} {e eA : TypeId} {nv : Value} {ns : List Nd} (h : NodesM w ρ e eA nv ns) : ∃ a c, nv = .slice a ns.length c ∧ ns.length ≤ c ∧ c ≤ 9223372036854775807 ∧
    (0 < ns.length → ∃ nb, a = some ⟨nb, 0, none⟩ ∧ ρ nb = 2 ∧ nb < w.heap.size ∧ (∀ j, w.frozen? ⟨nb, j, none⟩ = false) ∧
      ∀ i n, ns[i]? = some n → ∃ kv av, NodeF w nb (i * 13) n kv av ∧ ROwn w ρ (2 * i + 4) 3 1 kv n.kids.length (n.kids.map intv) ∧ ROwn w ρ (2 * i + 5) eA 3 av n.attrs.length (n.attrs.flatMap attrCells)) := by
  obtain ⟨rows, h1, h2, h3⟩ := h
  have h13 := NodesM.rows13 h2 h3
  obtain ⟨⟨h4, h5⟩, h6⟩ := h1
  rcases h5 with ⟨h7, h8⟩ | ⟨g, cap, cur, h7, _, hg, hn, hc, hs, ht⟩
  · exact ⟨none, 0, by rw [h7, h8], by omega, by omega, fun h => by omega⟩
  · refine ⟨_, cap, h7, hn, hc, fun _ => ⟨g, rfl, h6 g (by rw [h7]; rfl), lt_of_block hg, fun j => frozen_of_row w g j cur e hg, fun i n hi => ?_⟩⟩
    obtain ⟨r, hr, kv, av, hrc, hk, ha⟩ := h3 i n hi
    have key : ∀ j v, j < 13 → (n.cells kv av)[j]? = some v → w.cell? ⟨g, i * 13 + j, none⟩ = some v := fun j v hj hv => by
      rw [cell_of_row w g _ cur e (0, 0) hg]
      have hlt : 13 * i + j < rows.flatten.length := by
        have h0 := flatten_get h13 i j hj
        rw [hr, hrc] at h0
        simp only [Option.bind_some, hv] at h0
        exact (List.getElem?_eq_some_iff.1 h0).1
      have h0 := flatten_get h13 i j hj
      rw [hr, hrc, Option.bind_some, hv, ← ht, List.getElem?_take] at h0
      split at h0
      · rw [show i * 13 + j = 13 * i + j from by omega]; simpa using h0
      · simp at h0
    exact ⟨kv, av, ⟨key 0 _ (by omega) rfl, key 1 _ (by omega) rfl, key 2 _ (by omega) rfl, key 3 _ (by omega) rfl, key 4 _ (by omega) rfl, key 5 _ (by omega) rfl, key 6 _ (by omega) rfl, key 7 _ (by omega) rfl, key 8 _ (by omega) rfl, key 9 _ (by omega) rfl, key 10 _ (by omega) rfl, key 11 _ (by omega) rfl, key 12 _ (by omega) rfl⟩, hk, ha⟩

theorem Ar.get_some {A : Ar} {h : Int} (hh : A.has h) : A.ns[(h.toNat - 1)]? = some (A.get h) := by
  obtain ⟨h1, h2⟩ := hh
  unfold Ar.n at h2
  have : (h.toNat - 1) < A.ns.length := by omega
  simp [Ar.get, this]

/-- What a walk reads of the program's arena: its header. -/
theorem AMem.head {w : World} {ρ : Nat → Nat} {b : Nat} {A : Ar} (h : AMem w ρ b A) : ∃ a c mv, w.cell? ⟨b, 0, none⟩ = some (.slice a A.ns.length c) ∧ w.cell? ⟨b, 1, none⟩ = some mv ∧ (∀ j, w.frozen? ⟨b, j, none⟩ = false) ∧ b < w.heap.size ∧ (A.ns.length : Int) ≤ 9223372036854775807 ∧
    (0 < A.ns.length → ∃ nb, a = some ⟨nb, 0, none⟩ ∧ ρ nb = 2 ∧ nb < w.heap.size ∧ (∀ j, w.frozen? ⟨nb, j, none⟩ = false) ∧
      ∀ x, A.has x → ∃ kv av, NodeF w nb ((x.toNat - 1) * 13) (A.get x) kv av ∧ ROwn w ρ (2 * (x.toNat - 1) + 4) 3 1 kv (A.get x).kids.length ((A.get x).kids.map intv) ∧ ROwn w ρ (2 * (x.toNat - 1) + 5) 123 3 av (A.get x).attrs.length ((A.get x).attrs.flatMap attrCells)) := by
  obtain ⟨h1, h2, h3, nv, mv, h4, h5, h6⟩ := h
  obtain ⟨a, c, rfl, h7, h8, h9⟩ := h5.head
  refine ⟨a, c, mv, ?_, ?_, fun j => frozen_of_row w b j _ _ h4, lt_of_block h4, by omega, fun hp => ?_⟩
  · rw [cell_of_row w b _ _ _ _ h4]; rfl
  · rw [cell_of_row w b _ _ _ _ h4]; rfl
  · obtain ⟨nb, ha, hr, hl, hf, hN⟩ := h9 hp
    exact ⟨nb, ha, hr, hl, hf, fun x hx => hN _ _ (Ar.get_some hx)⟩

end Go.Proofs.YtnfdcfagdidmhaaGreatDoor

/- What becomes of an arena in memory when its blocks are written: no program here. -/
namespace Go.Proofs.YtnfdcfagdidmhaaGreatDoor
open Go.RowKit

theorem heap_set_other (w : World) (a : Addr) (v : Value) (k : Nat) (h : k ≠ a.block) : (w.setCell a v).heap[k]? = w.heap[k]? := Below.heap_setCell w a v k h
theorem heap_set2 {w : World} {b : Nat} {x y z : Value} {t : TypeId} (h : w.heap[b]? = some (.cells #[x, y] t (0, 0))) : (w.setCell ⟨b, 0, none⟩ z).heap[b]? = some (.cells #[z, y] t (0, 0)) := by
  simp [World.setCell, Array.getElem?_modify, h]
theorem heap_set2' {w : World} {b : Nat} {x y z : Value} {t : TypeId} (h : w.heap[b]? = some (.cells #[x, y] t (0, 0))) : (w.setCell ⟨b, 1, none⟩ z).heap[b]? = some (.cells #[x, z] t (0, 0)) := by
  simp [World.setCell, Array.getElem?_modify, h]

theorem owns_upd {F : Nat → Prop} {w w' : World} {base : Nat} {e : TypeId} {size : Nat} {v : Value} {n : Nat} {xs : List Value} (h : w.ownsRow base e size v n xs) (hu : Upd F w w') (hF : ∀ k, v.ownBlock = some k → ¬ F k) : w'.ownsRow base e size v n xs := by
  refine ⟨h.1, ?_⟩
  rcases h.2 with h2 | ⟨g, cap, cur, rfl, hb, hg, hr⟩
  · exact Or.inl h2
  · exact Or.inr ⟨g, cap, cur, rfl, hb, by rw [hu.block g (lt_of_block hg) (hF g rfl)]; exact hg, hr⟩

/-- A new role for a block that has none. -/
theorem AMem.newRole {w : World} {ρ : Nat → Nat} {b : Nat} {A : Ar} (h : AMem w ρ b A) (g r : Nat) (hg : ρ g = 0) (hlt : g < w.heap.size) : AMem w (fun k => if k = g then r else ρ k) b A := by
  have key : ∀ k r', r' ≠ 0 → ρ k = r' → (if k = g then r else ρ k) = r' := fun k r' hr' hk => by
    rw [if_neg (by intro e; subst e; omega)]; exact hk
  have hown : ∀ {r' e size v n xs}, r' ≠ 0 → ROwn w ρ r' e size v n xs → ROwn w (fun k => if k = g then r else ρ k) r' e size v n xs :=
    fun hr' ho => ⟨ho.1, fun k hk => key k _ hr' (ho.2 k hk)⟩
  obtain ⟨h1, h2, h3, nv, mv, h4, ⟨rows, h5, h6, h7⟩, L, h8, h9, h10⟩ := h
  refine ⟨fun k hk => ?_, key b 1 (by omega) h2, h3, nv, mv, h4, ⟨rows, hown (by omega) h5, h6, fun i n hn => ?_⟩, L, h8, h9, ?_⟩
  · dsimp only at hk
    split at hk
    · rename_i e; rw [e]; exact hlt
    · exact h1 k hk
  · obtain ⟨r', hr', kv, av, hrc, hk, ha⟩ := h7 i n hn
    exact ⟨r', hr', kv, av, hrc, hown (by omega) hk, hown (by omega) ha⟩
  · rcases h10 with h10 | ⟨mb, h11, h12, h13⟩
    · exact .inl h10
    · exact .inr ⟨mb, h11, key mb 3 (by omega) h12, h13⟩

/-- A node is added: the slice of nodes has grown to the block gg. -/
theorem AMem.added {w w1 w' : World} {ρ : Nat → Nat} {b : Nat} {A : Ar} {n : Nd} {nv mv av : Value} {rows : List (List Value)} {gg cap : Nat}
    (h1 : ∀ k, ρ k ≠ 0 → k < w.heap.size) (h2 : ρ b = 1) (h3 : A.inert.length = A.ns.length + 1) (h4 : w.heap[b]? = some (.cells #[nv, mv] 51 (0, 0)))
    (hrole : ∀ g, nv.ownBlock = some g → ρ g = 2) (hrl : rows.length = A.ns.length) (hrows : ∀ i n, A.ns[i]? = some n → ∃ r, rows[i]? = some r ∧ NodeM w ρ 123 i n r) (hmap : IMapM w ρ mv A.inert)
    (hk : n.kids = []) (hav : ROwn w ρ (2 * A.ns.length + 5) 123 3 av n.attrs.length (n.attrs.flatMap attrCells))
    (hU : Upd (fun k => nv.ownBlock = some k) w w1) (hown : w1.ownsRow 0 83 13 (.slice (some ⟨gg, 0, none⟩) (A.ns.length + 1) cap) (A.ns.length + 1) (rows.flatten ++ n.cells (.slice none 0 0) av))
    (hat : nv.ownBlock = some gg ∨ w.heap.size ≤ gg) (hgl : gg < w1.heap.size) (hw' : w'.heap = (w1.setCell ⟨b, 0, none⟩ (.slice (some ⟨gg, 0, none⟩) (A.ns.length + 1) cap)).heap) (hos : w'.os = w1.os) (htp : w'.tape = w1.tape) (hout : w'.output = w1.output) :
    ∃ ρ', AMem w' ρ' b (A.add n) ∧ Turn ρ ρ' w w' := by
  have hbl := lt_of_block h4
  have hgb : gg ≠ b := by
    intro e; subst e
    rcases hat with hat | hat
    · have := hrole _ hat; omega
    · omega
  have hnb : nv.ownBlock ≠ some b := fun e => by have := hrole b e; omega
  have hU' : Upd (fun k => k = b ∨ ρ k = 2) w w' := by
    refine ⟨hos.trans hU.os, htp.trans hU.tape, hout.trans hU.output, by rw [hw']; simpa using hU.size, fun k hk hf => ?_⟩
    rw [hw', heap_set_other _ _ _ _ (fun e => hf (.inl e))]
    exact hU.block k hk (fun e => hf (.inr (hrole k e)))
  have hr' : ∀ k, k < w.heap.size → (if k = gg then 2 else ρ k) = ρ k := fun k hk => by
    split
    · rename_i e; subst e
      rcases hat with hat | hat
      · exact (hrole _ hat).symm
      · omega
    · rfl
  have hF : ∀ k r, (fun k => if k = gg then 2 else ρ k) k = r → 3 ≤ r → ¬ (k = b ∨ ρ k = 2) := by
    intro k r hr h3 hf
    dsimp only at hr
    rcases hf with rfl | q4
    · rw [if_neg (Ne.symm hgb)] at hr; omega
    · split at hr <;> omega
  refine ⟨fun k => if k = gg then 2 else ρ k, ⟨fun k hk => ?_, ?_, by simp [Ar.add, h3], .slice (some ⟨gg, 0, none⟩) (A.ns.length + 1) cap, mv, ?_, ⟨rows ++ [n.cells (.slice none 0 0) av], ⟨?_, ?_⟩, by simp [Ar.add, hrl], ?_⟩, ?_⟩, ⟨hU'.mono (fun k _ hf => ?_), hr'⟩⟩
  · dsimp only at hk
    split at hk
    · rename_i e; rw [e, hw']; simpa using hgl
    · exact Nat.lt_of_lt_of_le (h1 k hk) hU'.size
  · exact (hr' b hbl).trans h2
  · rw [hw']; exact heap_set2 ((hU.block b hbl (fun e => hnb e)).trans h4)
  · have : w'.ownsRow 0 83 13 (.slice (some ⟨gg, 0, none⟩) (A.ns.length + 1) cap) (A.ns.length + 1) (rows.flatten ++ n.cells (.slice none 0 0) av) := by
      refine ⟨hown.1, ?_⟩
      rcases hown.2 with ⟨h, _⟩ | ⟨g, c', cur, hv, hb, hg, hrest⟩
      · simp at h
      · refine .inr ⟨g, c', cur, hv, hb, ?_, hrest⟩
        simp at hv
        rw [hw', heap_set_other _ _ _ _ (by rw [← hv.1]; exact hgb)]; exact hg
    simpa [Ar.add, List.flatten_append] using this
  · intro g hg
    simp [Value.ownBlock] at hg
    simp [hg]
  · intro i m hm
    simp only [Ar.add, List.getElem?_append] at hm
    split at hm
    · rename_i hi
      obtain ⟨r, hr, hM⟩ := hrows i m hm
      exact ⟨r, by rw [List.getElem?_append_left (by omega)]; exact hr, (hM.role hr').upd hU' (fun k hk => by rcases hk with hk | hk <;> exact hF k _ hk (by omega))⟩
    · rename_i hi
      have hi' : i = A.ns.length := by
        have := (List.getElem?_eq_some_iff.1 hm).1; simp at this; omega
      subst hi'
      simp at hm
      subst hm
      refine ⟨n.cells (.slice none 0 0) av, by rw [← hrl]; simp, .slice none 0 0, av, rfl, by rw [hk]; exact ⟨World.ownsRow_nil _ _ _ _, fun g hg => by simp [Value.ownBlock] at hg⟩, (hav.role hr').upd hU' (fun k hk => hF k _ hk (by omega))⟩
  · obtain ⟨L, m1, m2, m3⟩ := (hmap.role hr').upd hU' (fun k hk => hF k _ hk (by omega))
    refine ⟨L, fun k => ?_, m2, m3⟩
    rw [m1 k]
    have : (A.add n).inert[k.toNat]?.getD 0 = A.inert[k.toNat]?.getD 0 := by
      simp only [Ar.add, List.getElem?_append]
      split
      · rfl
      · rename_i hge
        rw [List.getElem?_eq_none (l := A.inert) (by omega)]
        cases h : [(0 : Int)][k.toNat - A.inert.length]? with
        | none => rfl
        | some x => have := List.mem_of_getElem? h; simp at this; simp [this]
    rw [this]
  · rcases hf with rfl | hf <;> omega

theorem owns_set {w : World} {base : Nat} {e : TypeId} {size : Nat} {g n cap : Nat} {xs : List Value} (h : w.ownsRow base e size (.slice (some ⟨g, 0, none⟩) n cap) n xs) (j : Nat) (v : Value) : (w.setCell ⟨g, j, none⟩ v).ownsRow base e size (.slice (some ⟨g, 0, none⟩) n cap) n (xs.set j v) := by
  refine ⟨by simpa using h.1, ?_⟩
  rcases h.2 with ⟨h2, _⟩ | ⟨g', cap', cur, hv, hb, hg, hn, hc, hs, ht⟩
  · simp at h2
  · simp at hv
    obtain ⟨rfl, rfl⟩ := hv
    refine .inr ⟨g, cap, cur.setIfInBounds j v, rfl, hb, ?_, hn, hc, by simpa using hs, ?_⟩
    · simp [World.setCell, Array.getElem?_modify, hg]
    · rw [Array.toList_setIfInBounds, List.take_set, ht]

/-- A store into a field of a node; the arrays of its lists may have been written ahead of it. -/
theorem AMem.store {w w1 : World} {ρ ρ' : Nat → Nat} {b : Nat} {A : Ar} {x : Int} {f : Nd → Nd} {j nb c : Nat} {v : Value} (hA : AMem w ρ b A) (hx : A.has x)
    (hc0 : w.cell? ⟨b, 0, none⟩ = some (.slice (some ⟨nb, 0, none⟩) A.ns.length c)) (hU : Upd (fun k => ρ k = 2 * (x.toNat - 1) + 4 ∨ ρ k = 2 * (x.toNat - 1) + 5) w w1)
    (hr : ∀ k, k < w.heap.size → ρ' k = ρ k) (hb : ∀ k, ρ' k ≠ 0 → k < w1.heap.size) (hj : j < 13)
    (hM : ∀ kv av, ROwn w ρ (2 * (x.toNat - 1) + 4) 3 1 kv (A.get x).kids.length ((A.get x).kids.map intv) → ROwn w ρ (2 * (x.toNat - 1) + 5) 123 3 av (A.get x).attrs.length ((A.get x).attrs.flatMap attrCells) →
      w.cell? ⟨nb, (x.toNat - 1) * 13 + 2, none⟩ = some kv → w.cell? ⟨nb, (x.toNat - 1) * 13 + 6, none⟩ = some av →
      NodeM w1 ρ' 123 (x.toNat - 1) (f (A.get x)) (((A.get x).cells kv av).set j v)) :
    AMem (w1.setCell ⟨nb, (x.toNat - 1) * 13 + j, none⟩ v) ρ' b (A.mod x f) := by
  have hget := Ar.get_some hx
  have hilt : x.toNat - 1 < A.ns.length := (List.getElem?_eq_some_iff.1 hget).1
  obtain ⟨h1, h2, h3, nv, mv, h4, ⟨rows, ⟨h5, h6⟩, h7, h8⟩, hmap⟩ := hA
  rw [cell_of_row w b _ _ _ _ h4] at hc0
  simp at hc0
  subst hc0
  have hnb : ρ nb = 2 := h6 nb rfl
  have hbl := lt_of_block h4
  have hnbl : nb < w.heap.size := (owns_block h5 nb rfl).2
  have hbn : nb ≠ b := by intro e; rw [e] at hnb; omega
  have h13 := NodesM.rows13 h7 h8
  have hU2 : Upd (fun k => ρ' k = 2 * (x.toNat - 1) + 4 ∨ ρ' k = 2 * (x.toNat - 1) + 5 ∨ k = nb) w (w1.setCell ⟨nb, (x.toNat - 1) * 13 + j, none⟩ v) := by
    refine ⟨hU.os, hU.tape, hU.output, by simpa using hU.size, fun k hk hf => ?_⟩
    rw [heap_set_other _ _ _ _ (fun e => hf (.inr (.inr e)))]
    exact hU.block k hk (fun e => hf (by rw [hr k hk]; rcases e with e | e; exact .inl e; exact .inr (.inl e)))
  have hsz : w.heap.size ≤ w1.heap.size := hU.size
  refine ⟨fun k hk => by simpa using hb k hk, (hr b hbl).trans h2, by simp [Ar.mod, h3], .slice (some ⟨nb, 0, none⟩) A.ns.length c, mv, ?_, ⟨rows.modify (x.toNat - 1) (fun r => r.set j v), ⟨?_, ?_⟩, by simp [Ar.mod, h7], ?_⟩, ?_⟩
  · rw [heap_set_other _ _ _ _ (Ne.symm hbn), hU.block b hbl (by omega)]; exact h4
  · have := owns_set (owns_upd h5 hU (fun k hk => by simp [Value.ownBlock] at hk; subst hk; omega)) ((x.toNat - 1) * 13 + j) v
    rw [show (x.toNat - 1) * 13 + j = 13 * (x.toNat - 1) + j from by omega, flatten_set v h13 _ _ hj] at this
    rw [show (x.toNat - 1) * 13 + j = 13 * (x.toNat - 1) + j from by omega]
    simpa [Ar.mod] using this
  · intro g hg
    simp [Value.ownBlock] at hg
    subst hg
    rw [hr _ hnbl]; exact hnb
  · intro i n hn
    have hF : ∀ k, ρ' k = 2 * i + 4 ∨ ρ' k = 2 * i + 5 → i ≠ x.toNat - 1 → ¬ (ρ' k = 2 * (x.toNat - 1) + 4 ∨ ρ' k = 2 * (x.toNat - 1) + 5 ∨ k = nb) := by
      intro k hk hi hf
      rcases hf with hf | hf | hf
      · omega
      · omega
      · rw [hf, hr nb hnbl] at hk; omega
    simp only [Ar.mod, List.getElem?_modify] at hn
    by_cases hi : x.toNat - 1 = i
    · subst hi
      obtain ⟨r, hr1, kv, av, hrc, hk, ha⟩ := h8 _ _ hget
      rw [hget] at hn
      simp at hn
      subst hn
      have hc : ∀ jj vv, jj < 13 → ((A.get x).cells kv av)[jj]? = some vv → w.cell? ⟨nb, (x.toNat - 1) * 13 + jj, none⟩ = some vv := by
        intro jj vv hjj hvv
        rcases h5.2 with ⟨hq, _⟩ | ⟨g, cap, cur, hv, _, hg, hnn, hcc, hss, htt⟩
        · simp at hq
        · simp at hv
          obtain ⟨rfl, rfl⟩ := hv
          rw [cell_of_row w nb _ cur _ (0, 0) hg]
          have h0 := flatten_get h13 (x.toNat - 1) jj hjj
          rw [hr1, hrc, Option.bind_some, hvv, ← htt, List.getElem?_take] at h0
          split at h0
          · rw [show (x.toNat - 1) * 13 + jj = 13 * (x.toNat - 1) + jj from by omega]; simpa using h0
          · simp at h0
      refine ⟨((A.get x).cells kv av).set j v, by rw [List.getElem?_modify, hr1, hrc]; simp, ?_⟩
      refine (hM kv av hk ha (hc 2 _ (by omega) rfl) (hc 6 _ (by omega) rfl)).upd (F := fun k => k = nb) ⟨rfl, rfl, rfl, by simp, fun k hk hf => heap_set_other _ _ _ _ hf⟩ ?_
      rintro k hk rfl
      rw [hr k hnbl] at hk; omega
    · obtain ⟨r, hr1, hMi⟩ := h8 i n (by simpa [hi] using hn)
      exact ⟨r, by rw [List.getElem?_modify, hr1]; simp [hi], (hMi.role hr).upd hU2 (fun k hk => hF k hk (Ne.symm hi))⟩
  · refine (hmap.role hr).upd hU2 ?_
    rintro k hk (e | e | rfl)
    · omega
    · omega
    · rw [hr k hnbl] at hk; omega

end Go.Proofs.YtnfdcfagdidmhaaGreatDoor

/- A range over a function: a law for iterators that keep state in cells of their own. No program here. -/
namespace Go.Proofs.YtnfdcfagdidmhaaGreatDoor
open Go.RowKit

section
variable {F : Fence} {n : Nat} {P : Program}

/-- The iterator g, which writes to the blocks Bs and to new blocks; a round that goes on writes to the blocks Cs and to blocks that are new since the loop began. -/
def SeqU {α : Type} (F : Fence) (n : Nat) (P : Program) (g : Nat) (lb : Array Value) (encs : α → Array Value) (Bs Cs : Nat → Prop) (S Sp : List α → Prop) (w : World) : Prop :=
  ∀ (l : Nat) (J Jx : List α → World → Prop) (W : World), Below w.heap.size w W →
    (∀ s A B, J s A → Upd (fun k => Bs k ∨ W.heap.size ≤ k) A B → J s B) → (∀ s A B, Jx s A → Upd (fun k => Bs k ∨ W.heap.size ≤ k) A B → Jx s B) →
    (∀ pre x W1, J pre W1 → YieldAt F (n - 1) P l (encs x) W1 fun e W' =>
      (e = .returned (.bool true) ∧ J (pre ++ [x]) W' ∧ Upd (fun k => Cs k ∨ (w.heap.size ≤ k ∧ k < W.heap.size)) W1 W') ∨ (e = .returned (.bool false) ∧ Jx (pre ++ [x]) W')) →
    J [] W →
    CallsIn F n P g (#[.func (.yield l) #[] #[]] ++ lb) W fun e W' => (∃ v, e = .returned v) ∧ ((∃ xs, S xs ∧ J xs W') ∨ (∃ pre, Sp pre ∧ Jx pre W'))

/-- How the body of a round may be left: it goes on, or it returns. -/
def postU {α : Type} (Cs : Nat → Prop) (I Ix : List α → World → Prop) (xs : List α) (W : World) : Exit → Act → World → Prop
  | .normal, _, W' => Upd Cs W W' ∧ I xs W'
  | .ret, _, W' => Upd Cs W W' ∧ Ix xs W'
  | _, _, _ => False

theorem upd_put {F : Nat → Prop} {W : World} {l : Nat} (o : Obj) (hF : F l) : Upd F W (W.putObj l o) :=
  ⟨rfl, rfl, rfl, by simp, fun k _ hf => World.putObj_heap_other (fun e => hf (by rw [e]; exact hF))⟩

theorem wpIn_rangeFunc_U {α : Type} {g : Operand} {ps : Array Tmp} {assign body : Code} {Q : Exit → Act → World → Prop} {a : Act} {w : World}
    (hro : F.round = none) (h1 : 1 ≤ n) {gf : Nat} {lb : Array Value} (hg : a.eval g = .func (.func gf) #[] lb) (hFg : F.fn gf) (eg : ∀ args w, (callFunc gf args).run P w = .ok (.enter gf args) w)
    {encs : α → Array Value} {Bs Cs : Nat → Prop} {S Sp : List α → Prop} (hseq : SeqU F (n - 1) P gf lb encs Bs Cs S Sp w)
    (hBs : ∀ k, Bs k → k < w.heap.size) (hCs : ∀ k, Cs k → k < w.heap.size) (hps : ∀ x, (encs x).size = ps.size)
    (I Ix : List α → World → Prop) (hI : ∀ s A B, I s A → Upd (fun k => Bs k ∨ w.heap.size ≤ k) A B → I s B) (hIx : ∀ s A B, Ix s A → Upd (fun k => Bs k ∨ w.heap.size ≤ k) A B → Ix s B) (h0 : I [] w) (a₁ : α → Act)
    (hassign : ∀ (l : Nat) (x : α) (W : World) (K : Act → World → Prop), K (a₁ x) W →
      assign.wpIn (F.inRound l) (n - 1 - 1) P (Exit.then K (fun _ _ _ => False)) { tmps := (ps.zip (encs x)).foldl (fun t (p, v) => t.setIfInBounds p v) a.tmps, defers := [] } W)
    (hbody : ∀ (l : Nat) (pre : List α) (x : α) (W : World), I pre W → body.wpIn (F.inRound l) (n - 1 - 1) P (postU Cs I Ix (pre ++ [x]) W) (a₁ x) W)
    (hdone : ∀ (D : Nat) (xs : List α) (W : World), S xs → I xs W → w.heap.size ≤ D → W.heap[D]? = some (.deferred (some [])) → Q .normal { a with defers := { target := .collected D, args := #[] } :: a.defers } W)
    (hstop : ∀ (D : Nat) (pre : List α) (W : World), Sp pre → Ix pre W → w.heap.size ≤ D → W.heap[D]? = some (.deferred (some [])) → Q .ret { a with defers := { target := .collected D, args := #[] } :: a.defers } W) :
    (Code.rangeFunc g ps assign body).wpIn F n P Q a w := by
  refine wpIn_rangeFunc ?_
  intro fn hfn
  rw [hro]
  obtain ⟨rec, hrec⟩ : ∃ rec : LoopState → Option Code → Loop, rec = fun st pe => { state := st, pending := pe, fn, tmps := a.tmps, params := ps, assign, body, defers := w.heap.size } := ⟨_, rfl⟩
  obtain ⟨W1, hW1⟩ : ∃ W1, (w.alloc (.deferred (some []))).alloc (.loop (rec .ready none)) = W1 := ⟨_, rfl⟩
  have hsz1 : W1.heap.size = w.heap.size + 2 := by rw [← hW1]; simp
  have hL1 : W1.heap[w.heap.size + 1]? = some (.loop (rec .ready none)) := by
    rw [← hW1]; have := World.alloc_heap_new (w.alloc (.deferred (some []))) (.loop (rec .ready none)); rwa [World.size_alloc] at this
  have hK1 : W1.heap[w.heap.size]? = some (.deferred (some [])) := by
    rw [← hW1]; exact (Below.heap_alloc _ _ _ (by simp)).trans (World.alloc_heap_new w _)
  have hU1 : Upd (fun k => Bs k ∨ w.heap.size ≤ k) w W1 := by rw [← hW1]; exact ((Upd.refl _ w).alloc _).alloc _
  have hI1 : I [] W1 := hI _ _ _ h0 hU1
  have hb1 : Below w.heap.size w W1 := by
    rw [← hW1]; exact ((Below.refl _ w).alloc (Nat.le_refl _) _).alloc (by simp) _
  refine ⟨w.heap.size + 1, [{ target := .collected w.heap.size, args := #[] }], W1, { target := .fn (.func gf) lb, args := #[.func (.yield (w.heap.size + 1)) #[] #[]] }, W1, gf,
    #[.func (.yield (w.heap.size + 1)) #[] #[]] ++ lb, W1, ?_, ?_, ?_, ?_, fun _ => h1, ?_⟩
  · rw [← hW1, hrec]; exact run_enterLoop_outer _ _ _ _ _
  · simp only [resolve, hg]
    simp [go_sem]
  · intro f' hf'; simp [Target.leads] at hf'; subst hf'; exact hFg
  · simp [invoke, go_sem, eg]
  · have keepAt : ∀ {A B : World} {k : Nat}, w.heap.size ≤ k → k < W1.heap.size → k < A.heap.size → Upd (fun k => Bs k ∨ W1.heap.size ≤ k) A B → B.heap[k]? = A.heap[k]? := fun h1 h2 h3 hu =>
      hu.block _ h3 (fun hf => hf.elim (fun hf => by have := hBs _ hf; omega) (fun hf => by omega))
    have updI : ∀ {A B : World}, Upd (fun k => Bs k ∨ W1.heap.size ≤ k) A B → Upd (fun k => Bs k ∨ w.heap.size ≤ k) A B := fun hu => hu.mono (fun k _ hk => hk.imp id (fun hk => by omega))
    refine (hseq (w.heap.size + 1)
      (fun pre W => I pre W ∧ W.heap[w.heap.size + 1]? = some (.loop (rec .ready none)) ∧ W.heap[w.heap.size]? = some (.deferred (some [])))
      (fun pre W => Ix pre W ∧ W.heap[w.heap.size + 1]? = some (.loop (rec .done (some .ret))) ∧ W.heap[w.heap.size]? = some (.deferred (some [])))
      W1 hb1
      (fun s A B hs hu => ⟨hI s A B hs.1 (updI hu), (keepAt (by omega) (by omega) (lt_of_block hs.2.1) hu).trans hs.2.1, (keepAt (by omega) (by omega) (lt_of_block hs.2.2) hu).trans hs.2.2⟩)
      (fun s A B hs hu => ⟨hIx s A B hs.1 (updI hu), (keepAt (by omega) (by omega) (lt_of_block hs.2.1) hu).trans hs.2.1, (keepAt (by omega) (by omega) (lt_of_block hs.2.2) hu).trans hs.2.2⟩)
      ?_ ⟨hI1, hL1, hK1⟩).mono ?_
    · rintro pre x W ⟨hi, hl, hk⟩
      have hlt : w.heap.size + 1 < W.heap.size := lt_of_block hl
      have hy := run_yield (P := P) (args := encs x) hl (by rw [hrec]; exact hps x)
      rw [hrec] at hy
      refine ⟨fn, _, assign, body, hy, roundIn_of_wpIn hfn (hassign _ x W _ ⟨_, run_beginRound hl (by rw [hrec]), ?_⟩)⟩
      have hl2 : (W.putObj (w.heap.size + 1) (.loop { rec .ready none with state := .busy })).heap[w.heap.size + 1]? = some (.loop { rec .ready none with state := .busy }) := World.putObj_heap_same hlt
      have hk2 : (W.putObj (w.heap.size + 1) (.loop { rec .ready none with state := .busy })).heap[w.heap.size]? = some (.deferred (some [])) := (World.putObj_heap_other (by omega)).trans hk
      have hp2 : Upd (fun k => Bs k ∨ w.heap.size ≤ k) W (W.putObj (w.heap.size + 1) (.loop { rec .ready none with state := .busy })) := upd_put _ (.inr (by omega))
      have hq2 : Upd (fun k => Cs k ∨ (w.heap.size ≤ k ∧ k < W1.heap.size)) W (W.putObj (w.heap.size + 1) (.loop { rec .ready none with state := .busy })) := upd_put _ (.inr (by omega))
      refine wpIn_mono (hbody _ pre x _ (hI _ _ _ hi hp2)) ?_
      have fin : ∀ (jump : Option Code) (W3 : World), Upd Cs (W.putObj (w.heap.size + 1) (.loop { rec .ready none with state := .busy })) W3 →
          (Instr.endRound (w.heap.size + 1) jump).run P W3 = .ok (.bool jump.isNone) (W3.putObj (w.heap.size + 1) (.loop (rec (if jump.isNone then .ready else .done) jump))) ∧
          (W3.putObj (w.heap.size + 1) (.loop (rec (if jump.isNone then .ready else .done) jump))).heap[w.heap.size + 1]? = some (.loop (rec (if jump.isNone then .ready else .done) jump)) ∧
          (W3.putObj (w.heap.size + 1) (.loop (rec (if jump.isNone then .ready else .done) jump))).heap[w.heap.size]? = some (.deferred (some [])) := fun jump W3 hk3 => by
        have hl3 := (hk3.block (w.heap.size + 1) (lt_of_block hl2) (fun hf => by have := hCs _ hf; omega)).trans hl2
        have hk3' := (hk3.block w.heap.size (lt_of_block hk2) (fun hf => by have := hCs _ hf; omega)).trans hk2
        have := run_endRound (P := P) jump hl3
        rw [hrec] at this ⊢
        exact ⟨this, World.putObj_heap_same (lt_of_block hl3), (World.putObj_heap_other (by omega)).trans hk3'⟩
      rintro e a3 W3 hp
      cases e with
      | normal =>
        obtain ⟨hu3, hi3⟩ := hp
        obtain ⟨hr, hl4, hk4⟩ := fin none W3 hu3
        refine ⟨_, _, hr, .inl ⟨rfl, ⟨hI _ _ _ hi3 (upd_put _ (.inr (by omega))), hl4, hk4⟩, (hq2.trans (hu3.mono (fun k _ hk => .inl hk))).trans (upd_put _ (.inr (by omega)))⟩⟩
      | ret =>
        obtain ⟨hu3, hi3⟩ := hp
        obtain ⟨hr, hl4, hk4⟩ := fin (some .ret) W3 hu3
        exact ⟨_, _, hr, .inr ⟨rfl, hIx _ _ _ hi3 (upd_put _ (.inr (by omega))), hl4, hk4⟩⟩
      | exit id => exact hp.elim
      | goto t => exact hp.elim
      | panic ch => exact hp.elim
      | outgrown => exact hp.elim
    · rintro e W2 ⟨⟨v, rfl⟩, (⟨xs, hS, hi, hl, hk⟩ | ⟨pre, hSp, hi, hl, hk⟩)⟩
      · exact ⟨none, _, by have := run_endLoop (P := P) hl (by rw [hrec]; simp); rw [hrec] at this; exact this, hdone _ xs _ hS (hI _ _ _ hi (upd_put _ (.inr (by omega)))) (Nat.le_refl _) ((World.putObj_heap_other (by omega)).trans hk)⟩
      · exact ⟨some .ret, _, by have := run_endLoop (P := P) hl (by rw [hrec]; simp); rw [hrec] at this; exact this, wpIn_ret (hstop _ pre _ hSp (hIx _ _ _ hi (upd_put _ (.inr (Nat.le_succ _)))) (Nat.le_refl _) ((World.putObj_heap_other (by omega)).trans hk))⟩
end

end Go.Proofs.YtnfdcfagdidmhaaGreatDoor

/- What holds of every arena: links agree. No program here. -/
namespace Go.Proofs.YtnfdcfagdidmhaaGreatDoor

/-- The parent of a node has it among its children, once. -/
def Ar.LinkOK (A : Ar) (h : Int) : Prop := (A.get h).parent ≠ 0 → A.has (A.get h).parent ∧ h ∈ (A.get (A.get h).parent).kids ∧ (A.get (A.get h).parent).kids.Nodup

/-- The step of 'up'. -/
def upStep (A : Ar) (hosts : Bool) (h : Int) : Int := if hosts then A.up h else (A.get h).parent

structure Ar.WF (A : Ar) : Prop where
  link : ∀ h, A.has h → A.LinkOK h
  kids : ∀ p, A.has p → ∀ k ∈ (A.get p).kids, A.has k ∧ (A.get k).parent = p
  nodup : ∀ p, A.has p → (A.get p).kids.Nodup
  way : ∀ h, A.has h → ∃ path, A.Way (upStep A true) h path
  inert : A.inert.length = A.ns.length + 1

theorem Ar.get_of {A : Ar} {h : Int} (hh : A.has h) : ∃ hi : h.toNat - 1 < A.ns.length, A.get h = A.ns[h.toNat - 1] := by
  obtain ⟨h1, h2⟩ := hh
  unfold Ar.n at h2
  exact ⟨by omega, by simp [Ar.get, show h.toNat - 1 < A.ns.length from by omega]⟩
theorem Ar.mod_n (A : Ar) (x : Int) (f : Nd → Nd) : (A.mod x f).n = A.n := by simp [Ar.mod, Ar.n]
theorem Ar.mod_has (A : Ar) (x : Int) (f : Nd → Nd) (h : Int) : (A.mod x f).has h ↔ A.has h := by unfold Ar.has; rw [Ar.mod_n]
theorem Ar.mod_get {A : Ar} {x h : Int} (f : Nd → Nd) (hx : A.has x) (hh : A.has h) : (A.mod x f).get h = if h = x then f (A.get x) else A.get h := by
  obtain ⟨hi, e⟩ := Ar.get_of hh
  obtain ⟨hj, e'⟩ := Ar.get_of hx
  have h1 := hh.1; have h2 := hx.1
  by_cases hxh : h = x
  · subst hxh
    rw [if_pos rfl]
    simp [Ar.mod, Ar.get, hi]
  · rw [if_neg hxh]
    have : x.toNat - 1 ≠ h.toNat - 1 := by omega
    simp [Ar.mod, Ar.get, this]

theorem Ar.cut_n (A : Ar) (h : Int) : (A.cut h).n = A.n := by
  unfold Ar.cut
  split
  · rfl
  · rw [Ar.mod_n, Ar.mod_n]
theorem Ar.cut_has (A : Ar) (h x : Int) : (A.cut h).has x ↔ A.has x := by unfold Ar.has; rw [Ar.cut_n]
theorem Ar.cut_ns (A : Ar) (h : Int) : (A.cut h).ns.length = A.ns.length := by have := Ar.cut_n A h; unfold Ar.n at this; omega

theorem Ar.cut_kids {A : Ar} (hW : A.WF) {h p : Int} (hh : A.has h) (hp : A.has p) : ((A.cut h).get p).kids = if p = (A.get h).parent then without (A.get p).kids h else (A.get p).kids := by
  unfold Ar.cut
  by_cases hz : (A.get h).parent = 0
  · rw [if_pos hz, if_neg]
    have := hp.1; omega
  · rw [if_neg hz]
    have hpp := (hW.link h hh hz).1
    rw [Ar.mod_get _ ((Ar.mod_has _ _ _ _).2 hh) ((Ar.mod_has _ _ _ _).2 hp), Ar.mod_get _ hpp hp, Ar.mod_get _ hpp hh]
    by_cases h1 : p = h
    · subst h1
      rw [if_pos rfl]
      dsimp only
      by_cases h2 : p = (A.get p).parent
      · rw [if_pos h2, if_pos h2]
        rw [← h2]
      · rw [if_neg h2, if_neg h2]
    · rw [if_neg h1]
      by_cases h2 : p = (A.get h).parent
      · rw [if_pos h2, if_pos h2, h2]
      · rw [if_neg h2, if_neg h2]

/-- A list without repetitions of numbers from 1 to n has at most n elements. -/
theorem len_le_of_nodup : ∀ (n : Nat) (l : List Int), l.Nodup → (∀ x ∈ l, 1 ≤ x ∧ x ≤ (n : Int)) → l.length ≤ n
  | 0, l, _, h => by
    cases l with
    | nil => simp
    | cons x l => have := h x (by simp); omega
  | n + 1, l, hn, h => by
    have h1 := len_le_of_nodup n (l.erase ((n : Int) + 1)) (hn.erase _) (fun x hx => by
      have h2 := h x (List.mem_of_mem_erase hx)
      have h3 : x ≠ (n : Int) + 1 := fun e => by subst e; exact (List.Nodup.not_mem_erase hn) hx
      push_cast at h2; omega)
    have h4 : l.length ≤ (l.erase ((n : Int) + 1)).length + 1 := by rw [List.length_erase]; split <;> omega
    omega

theorem Ar.kids_len {A : Ar} (hW : A.WF) {p : Int} (hp : A.has p) : (A.get p).kids.length ≤ A.ns.length :=
  len_le_of_nodup _ _ (hW.nodup p hp) (fun x hx => (hW.kids p hp x hx).1)

theorem without_length (l : List Int) (h : Int) : (without l h).length ≤ l.length := List.length_filter_le _ _

theorem putIn_zero {l : List Int} {node : Int} (h : (0 : Int) ∉ l) : putIn l node 0 = l ++ [node] := by
  unfold putIn
  rw [if_pos rfl]
  congr 1
  induction l with
  | nil => rfl
  | cons a l ih =>
    simp at h
    simp only [List.flatMap_cons]
    rw [if_neg (fun e => h.1 e.symm), ih h.2]; rfl
theorem putIn_at {l : List Int} {node before : Int} {i : Nat} (hb : before ≠ 0) (hn : l.Nodup) (hi : l[i]? = some before) : putIn l node before = l.take i ++ node :: l.drop i := by
  unfold putIn
  rw [if_neg hb, List.append_nil]
  have hno : ∀ l : List Int, before ∉ l → (l.flatMap fun x => if x = before then [node, x] else [x]) = l := by
    intro l hl
    induction l with
    | nil => rfl
    | cons a l ih =>
      simp at hl
      simp only [List.flatMap_cons]
      rw [if_neg (fun e => hl.1 e.symm), ih hl.2]; rfl
  induction l generalizing i with
  | nil => simp at hi
  | cons a l ih =>
    rw [List.nodup_cons] at hn
    cases i with
    | zero =>
      simp at hi
      subst hi
      simp only [List.flatMap_cons]
      rw [hno l hn.1]; simp
    | succ i =>
      simp at hi
      have ha : a ≠ before := fun e => by subst e; exact hn.1 (List.mem_of_getElem? hi)
      simp only [List.flatMap_cons]
      rw [if_neg ha, ih hn.2 hi]; rfl

/-- What 'Put' finds behind the cut. -/
theorem Ar.put_facts {A : Ar} (hW : A.WF) {parent node before : Int} (hp : A.has parent) (hn : A.has node) (hb : before ≠ 0 → A.has before ∧ before ≠ node ∧ (A.get before).parent = parent) :
    ((A.cut node).get parent).kids.length ≤ A.ns.length ∧ (before ≠ 0 → before ∈ ((A.cut node).get parent).kids) ∧
    (∀ i : Nat, before ≠ 0 → ((A.cut node).get parent).kids[i]? = some before → putIn ((A.cut node).get parent).kids node before = ((A.cut node).get parent).kids.take i ++ node :: ((A.cut node).get parent).kids.drop i) ∧
    (before = 0 → putIn ((A.cut node).get parent).kids node before = ((A.cut node).get parent).kids ++ [node]) := by
  rw [Ar.cut_kids hW hn hp]
  have hlen := Ar.kids_len hW hp
  have hnd := hW.nodup parent hp
  have hz : (0 : Int) ∉ (A.get parent).kids := fun h0 => by have := (hW.kids parent hp 0 h0).1.1; omega
  have hbm : before ≠ 0 → before ∈ (A.get parent).kids := fun h => by
    obtain ⟨h1, _, h3⟩ := hb h
    have := (hW.link before h1 (by rw [h3]; have := hp.1; omega)).2.1
    rwa [h3] at this
  by_cases he : parent = (A.get node).parent
  · rw [if_pos he]
    refine ⟨Nat.le_trans (without_length _ _) hlen, fun h => ?_, fun i h hi => putIn_at h (hnd.filter _) hi, fun h => ?_⟩
    · exact List.mem_filter.2 ⟨hbm h, by simpa using (hb h).2.1⟩
    · subst h; exact putIn_zero (fun h0 => hz ((List.mem_filter.1 h0).1))
  · rw [if_neg he]
    exact ⟨hlen, hbm, fun i h hi => putIn_at h hnd hi, fun h => by subst h; exact putIn_zero hz⟩

theorem way_unique {A : Ar} {up : Int → Int} : ∀ {l l' : List Int} {h : Int}, A.Way up h l → A.Way up h l' → l = l'
  | [], [], _, _, _ => rfl
  | [], x :: l', h, h1, h2 => by
    have e : h = 0 := h1
    obtain ⟨rfl, hh, _⟩ := h2
    have := hh.1; omega
  | x :: l, [], h, h1, h2 => by
    have e : h = 0 := h2
    obtain ⟨rfl, hh, _⟩ := h1
    have := hh.1; omega
  | x :: l, y :: l', h, h1, h2 => by
    obtain ⟨rfl, _, h3⟩ := h1
    obtain ⟨rfl, _, h4⟩ := h2
    rw [way_unique h3 h4]
theorem way_tail {A : Ar} {up : Int → Int} : ∀ {l1 l2 : List Int} {h x : Int}, A.Way up h (l1 ++ x :: l2) → A.Way up x (x :: l2)
  | [], l2, h, x, hw => by obtain ⟨rfl, h1, h2⟩ := hw; exact ⟨rfl, h1, h2⟩
  | y :: l1, l2, h, x, hw => by obtain ⟨_, _, h2⟩ := hw; exact way_tail h2
theorem way_nodup {A : Ar} {up : Int → Int} : ∀ {l : List Int} {h : Int}, A.Way up h l → l.Nodup
  | [], _, _ => List.nodup_nil
  | x :: l, h, hw => by
    obtain ⟨rfl, h1, h2⟩ := hw
    refine List.nodup_cons.2 ⟨fun hm => ?_, way_nodup h2⟩
    obtain ⟨l1, l2, rfl⟩ := List.append_of_mem hm
    have h3 := way_unique (way_tail h2) (show A.Way up x (x :: (l1 ++ x :: l2)) from ⟨rfl, h1, h2⟩)
    have h4 := congrArg List.length h3
    simp at h4
    omega
theorem way_has {A : Ar} {up : Int → Int} : ∀ {l : List Int} {h : Int}, A.Way up h l → ∀ x ∈ l, A.has x
  | [], _, _, x, hx => by simp at hx
  | y :: l, h, hw, x, hx => by
    obtain ⟨rfl, h1, h2⟩ := hw
    rcases List.mem_cons.1 hx with rfl | hx
    · exact h1
    · exact way_has h2 x hx
theorem way_len {A : Ar} {up : Int → Int} {l : List Int} {h : Int} (hw : A.Way up h l) : l.length ≤ A.ns.length :=
  len_le_of_nodup _ _ (way_nodup hw) (fun x hx => way_has hw x hx)

/-- The way up, with fuel. -/
def wayF (A : Ar) (up : Int → Int) : Nat → Int → List Int
  | 0, _ => []
  | n + 1, h => if A.has h then h :: wayF A up n (up h) else []
theorem wayF_eq {A : Ar} {up : Int → Int} : ∀ {n : Nat} {l : List Int} {h : Int}, A.Way up h l → l.length ≤ n → wayF A up n h = l
  | 0, [], _, _, _ => rfl
  | 0, x :: l, _, _, hn => by simp at hn
  | n + 1, [], h, hw, _ => by
    have e : h = 0 := hw
    rw [wayF, if_neg (by subst e; exact fun hh => by have := hh.1; omega)]
  | n + 1, x :: l, h, hw, hn => by
    obtain ⟨rfl, h1, h2⟩ := hw
    rw [wayF, if_pos h1, wayF_eq h2 (by simpa using hn)]
def Ar.waySt (A : Ar) (hosts : Bool) (h : Int) : List Int := wayF A (upStep A hosts) A.ns.length h
theorem Ar.WF.wayOf {A : Ar} (hW : A.WF) {h : Int} (hh : A.has h) : A.Way (upStep A true) h (A.waySt true h) := by
  obtain ⟨l, hl⟩ := hW.way h hh
  rw [Ar.waySt, wayF_eq hl (way_len hl)]; exact hl
def Ar.contains (A : Ar) (top h : Int) : Bool := decide (A.has top ∧ A.has h ∧ top ∈ A.waySt true h)

def Ar.put (A : Ar) (parent node before : Int) : Int × Ar :=
  if A.allowed parent node before (A.contains node parent) ≠ 0 then (A.allowed parent node before (A.contains node parent), A) else (0, A.place parent node before)

end Go.Proofs.YtnfdcfagdidmhaaGreatDoor

/- What holds of every arena that calls have made. No program here. -/
namespace Go.Proofs.YtnfdcfagdidmhaaGreatDoor
set_option linter.unusedVariables false

/-- What holds of a node by itself. -/
structure Nd.Local (n : Nd) : Prop where
  k1 : 1 ≤ n.kind
  k6 : n.kind ≤ 6
  sp : inSpaces n.space
  at1 : attrSpaces n.attrs
  at2 : onceL n.attrs = n.attrs
  at3 : n.attrs.length ≤ 1000
  el : n.kind ≠ 4 → n.space = 0 ∧ n.attrs = []
  nm : n.kind ≠ 4 → n.kind ≠ 3 → n.name = ByteArray.empty
  ps : n.kind ≠ 3 → n.pub = ByteArray.empty ∧ n.sys = ByteArray.empty
  da : n.kind ≠ 5 → n.kind ≠ 6 → n.data = ByteArray.empty
  qu : n.kind ≠ 1 → n.quirks = false

/-- The invariant; the contents of the node ex may be missing. -/
structure Ar.InvX (A : Ar) (ex : Int) : Prop where
  wf : A.WF
  loc : ∀ h, A.has h → (A.get h).Local
  host : ∀ h, A.has h → (A.get h).host ≠ 0 → (A.get h).kind = 2 ∧ A.has (A.get h).host ∧ isTemplate (A.get (A.get h).host) ∧ (A.get (A.get h).host).contents = h
  cont : ∀ h, A.has h → h ≠ ex → isTemplate (A.get h) → A.has (A.get h).contents ∧ (A.get (A.get h).contents).kind = 2 ∧ (A.get (A.get h).contents).host = h
  nocont : ∀ h, A.has h → h = ex ∨ ¬ isTemplate (A.get h) → (A.get h).contents = 0
  par : ∀ h, A.has h → (A.get h).parent ≠ 0 → (A.get h).kind ≠ 1 ∧ (A.get h).kind ≠ 2
  kidk : ∀ h, A.has h → (A.get h).kids ≠ [] → (A.get h).kind = 1 ∨ (A.get h).kind = 2 ∨ (A.get h).kind = 4
  docK : ∀ h, A.has h → A.has (A.get h).doc ∧ (A.get (A.get h).doc).kind = 1
  docS : ∀ h, A.has h → (A.get h).kind = 1 → (A.get h).doc = h
  inert0 : A.inert[0]? = some 0
  inert : ∀ d : Int, A.inertAt d ≠ 0 → A.has d ∧ A.has (A.inertAt d) ∧ (A.get (A.inertAt d)).kind = 1 ∧ A.inertAt (A.inertAt d) = A.inertAt d
def Ar.Inv (A : Ar) : Prop := A.InvX 0

theorem has_zero (A : Ar) : ¬ A.has 0 := fun h => by have := h.1; omega
theorem Ar.add_n (A : Ar) (n : Nd) : (A.add n).n = A.n + 1 := by simp [Ar.add, Ar.n]
theorem Ar.add_has (A : Ar) (n : Nd) (h : Int) : (A.add n).has h ↔ A.has h ∨ h = A.n + 1 := by
  unfold Ar.has; rw [Ar.add_n]
  have : 0 ≤ A.n := by unfold Ar.n; omega
  constructor
  · intro q; omega
  · intro q; omega
theorem Ar.add_new (A : Ar) (n : Nd) : (A.add n).get (A.n + 1) = n := by
  have : (A.n + 1).toNat - 1 = A.ns.length := by unfold Ar.n; omega
  simp [Ar.get, Ar.add, this]
theorem Ar.add_old {A : Ar} (n : Nd) {h : Int} (hh : A.has h) : (A.add n).get h = A.get h := by
  obtain ⟨hi, _⟩ := Ar.get_of hh
  simp [Ar.get, Ar.add, List.getElem?_append, hi]
theorem Ar.new_no (A : Ar) : ¬ A.has (A.n + 1) := fun h => by have := h.2; omega

theorem way_mono {A A' : Ar} {up up' : Int → Int} (h : ∀ x, A.has x → A'.has x ∧ up' x = up x) : ∀ {l : List Int} {y : Int}, A.Way up y l → A'.Way up' y l
  | [], _, hw => hw
  | x :: l, y, hw => by
    obtain ⟨rfl, h1, h2⟩ := hw
    obtain ⟨h3, h4⟩ := h x h1
    exact ⟨rfl, h3, by rw [h4]; exact way_mono h h2⟩

/-- The way up after the link of one node has changed. -/
theorem way_relink {A A' : Ar} {up up' : Int → Int} {node p : Int} {lp : List Int} (hhas : ∀ x, A.has x → A'.has x) (hup : ∀ x, A.has x → x ≠ node → up' x = up x) (hp : up' node = p) (hlp : A.Way up p lp) (hno : node ∉ lp) :
    ∀ {l : List Int} {y : Int}, A.Way up y l → ∃ l', A'.Way up' y l'
  | [], y, hw => ⟨[], hw⟩
  | x :: l, y, hw => by
    obtain ⟨rfl, h1, h2⟩ := hw
    by_cases hx : x = node
    · refine ⟨x :: lp, rfl, hhas x h1, ?_⟩
      rw [hx, hp]
      have key : ∀ {lp : List Int} {q : Int}, A.Way up q lp → node ∉ lp → A'.Way up' q lp := by
        intro lp
        induction lp with
        | nil => intro q h _; exact h
        | cons z lp ih =>
          intro q h hn
          obtain ⟨rfl, h3, h4⟩ := h
          simp at hn
          refine ⟨rfl, hhas _ h3, ?_⟩
          rw [hup _ h3 (fun e => hn.1 e.symm)]
          exact ih h4 hn.2
      exact key hlp hno
    · obtain ⟨l', hl'⟩ := way_relink hhas hup hp hlp hno h2
      exact ⟨x :: l', rfl, hhas x h1, by rw [hup x h1 hx]; exact hl'⟩

/-- A change of fields that are no links. -/
theorem Ar.WF.fields {A A' : Ar} (hW : A.WF) (hn : A'.n = A.n) (hi : A'.inert.length = A.inert.length) (h : ∀ x, A.has x → (A'.get x).parent = (A.get x).parent ∧ (A'.get x).kids = (A.get x).kids ∧ (A'.get x).host = (A.get x).host) : A'.WF := by
  have hh : ∀ x, A'.has x ↔ A.has x := fun x => by unfold Ar.has; rw [hn]
  have hl : A'.ns.length = A.ns.length := by unfold Ar.n at hn; omega
  refine ⟨fun x hx hp => ?_, fun p hp k hk => ?_, fun p hp => ?_, fun x hx => ?_, by rw [hi, hl]; exact hW.inert⟩
  · have hx' := (hh x).1 hx
    rw [(h x hx').1] at hp ⊢
    obtain ⟨q1, q2, q3⟩ := hW.link x hx' hp
    exact ⟨(hh _).2 q1, by rw [(h _ q1).2.1]; exact q2, by rw [(h _ q1).2.1]; exact q3⟩
  · have hp' := (hh p).1 hp
    rw [(h p hp').2.1] at hk
    obtain ⟨q1, q2⟩ := hW.kids p hp' k hk
    exact ⟨(hh _).2 q1, by rw [(h _ q1).1]; exact q2⟩
  · have hp' := (hh p).1 hp
    rw [(h p hp').2.1]; exact hW.nodup p hp'
  · obtain ⟨l, hl⟩ := hW.way x ((hh x).1 hx)
    exact ⟨l, way_mono (fun y hy => ⟨(hh y).2 hy, by simp [upStep, Ar.up, (h y hy).1, (h y hy).2.2]⟩) hl⟩

/-- A node is added that has no children and no parent; its host, if it has one, is there. -/
theorem Ar.WF.added {A : Ar} (hW : A.WF) {n : Nd} (hk : n.kids = []) (hp : n.parent = 0) (hh : n.host ≠ 0 → A.has n.host) : (A.add n).WF := by
  have hold : ∀ {x}, A.has x → (A.add n).get x = A.get x := fun hx => Ar.add_old n hx
  have hhas : ∀ {x}, A.has x → (A.add n).has x := fun hx => (Ar.add_has A n _).2 (.inl hx)
  have hway : ∀ {l : List Int} {y : Int}, A.Way (upStep A true) y l → (A.add n).Way (upStep (A.add n) true) y l := fun h =>
    way_mono (fun y hy => ⟨hhas hy, by simp [upStep, Ar.up, hold hy]⟩) h
  refine ⟨fun x hx hpx => ?_, fun p hpp k hkk => ?_, fun p hpp => ?_, fun x hx => ?_, by simp [Ar.add, hW.inert]⟩
  · rcases (Ar.add_has A n x).1 hx with hx | rfl
    · rw [hold hx] at hpx ⊢
      obtain ⟨q1, q2, q3⟩ := hW.link x hx hpx
      exact ⟨hhas q1, by rw [hold q1]; exact q2, by rw [hold q1]; exact q3⟩
    · rw [Ar.add_new] at hpx; exact absurd hp hpx
  · rcases (Ar.add_has A n p).1 hpp with hx | rfl
    · rw [hold hx] at hkk
      obtain ⟨q1, q2⟩ := hW.kids p hx k hkk
      exact ⟨hhas q1, by rw [hold q1]; exact q2⟩
    · rw [Ar.add_new, hk] at hkk; simp at hkk
  · rcases (Ar.add_has A n p).1 hpp with hx | rfl
    · rw [hold hx]; exact hW.nodup p hx
    · rw [Ar.add_new, hk]; exact List.nodup_nil
  · rcases (Ar.add_has A n x).1 hx with hx | rfl
    · obtain ⟨l, hl⟩ := hW.way x hx
      exact ⟨l, hway hl⟩
    · have hu : upStep (A.add n) true (A.n + 1) = n.host := by simp [upStep, Ar.up, Ar.add_new, hp]
      by_cases h0 : n.host = 0
      · exact ⟨[A.n + 1], rfl, hx, by rw [hu, h0]; rfl⟩
      · obtain ⟨l, hl⟩ := hW.way n.host (hh h0)
        exact ⟨(A.n + 1) :: l, rfl, hx, by rw [hu]; exact hway hl⟩

end Go.Proofs.YtnfdcfagdidmhaaGreatDoor

/- The invariant is kept by the calls that create and by those that set fields. No program here. -/
namespace Go.Proofs.YtnfdcfagdidmhaaGreatDoor
set_option linter.unusedVariables false

theorem Ar.add_inertAt {A : Ar} (hl : A.inert.length = A.ns.length + 1) (n : Nd) (d : Int) : (A.add n).inertAt d = A.inertAt d := by
  unfold Ar.inertAt Ar.add
  simp only [List.getElem?_append]
  split
  · rfl
  · rename_i hge
    rw [List.getElem?_eq_none (l := A.inert) (by omega)]
    cases h : [(0 : Int)][d.toNat - A.inert.length]? with
    | none => rfl
    | some x => have := List.mem_of_getElem? h; simp at this; simp [this]

/-- A node is added that has no children, parent, host, contents. -/
theorem Ar.InvX.added {A : Ar} {ex ex' : Int} (hI : A.InvX ex) {n : Nd} (hk : n.kids = []) (hp : n.parent = 0) (hh : n.host = 0) (hc : n.contents = 0) (hl : n.Local)
    (hd : (A.has n.doc ∧ (A.get n.doc).kind = 1 ∧ n.kind ≠ 1) ∨ (n.doc = A.n + 1 ∧ n.kind = 1)) (hex : (ex' = ex ∧ ¬ isTemplate n) ∨ (ex = 0 ∧ ex' = A.n + 1)) : (A.add n).InvX ex' := by
  have hold : ∀ {x}, A.has x → (A.add n).get x = A.get x := fun hx => Ar.add_old n hx
  have hhas : ∀ {x}, A.has x → (A.add n).has x := fun hx => (Ar.add_has A n _).2 (.inl hx)
  have hnew : (A.add n).has (A.n + 1) := (Ar.add_has A n _).2 (.inr rfl)
  have hne : ∀ x, A.has x → x ≠ ex' → x ≠ ex := fun x hx hn e => by
    rcases hex with ⟨h, _⟩ | ⟨h, _⟩
    · exact hn (by rw [e, h])
    · exact has_zero A (by rw [← h, ← e]; exact hx)
  have hcase : ∀ x, (A.add n).has x → A.has x ∨ x = A.n + 1 := fun x hx => (Ar.add_has A n x).1 hx
  refine ⟨hI.wf.added hk hp (fun h => absurd hh h), fun x hx => ?_, fun x hx h0 => ?_, fun x hx hxe ht => ?_, fun x hx hxe => ?_, fun x hx h0 => ?_, fun x hx h0 => ?_, fun x hx => ?_, fun x hx h1 => ?_, ?_, fun d h0 => ?_⟩
  · rcases hcase x hx with hx | rfl
    · rw [hold hx]; exact hI.loc x hx
    · rw [Ar.add_new]; exact hl
  · rcases hcase x hx with hx | rfl
    · rw [hold hx] at h0 ⊢
      obtain ⟨q1, q2, q3, q4⟩ := hI.host x hx h0
      exact ⟨q1, hhas q2, by rw [hold q2]; exact q3, by rw [hold q2]; exact q4⟩
    · rw [Ar.add_new] at h0; exact absurd hh h0
  · rcases hcase x hx with hx | rfl
    · rw [hold hx] at ht ⊢
      obtain ⟨q1, q2, q3⟩ := hI.cont x hx (hne x hx hxe) ht
      exact ⟨hhas q1, by rw [hold q1]; exact q2, by rw [hold q1]; exact q3⟩
    · rw [Ar.add_new] at ht
      rcases hex with ⟨_, h⟩ | ⟨_, h⟩
      · exact absurd ht h
      · exact absurd h.symm hxe
  · rcases hcase x hx with hx | rfl
    · rw [hold hx] at hxe ⊢
      refine hI.nocont x hx ?_
      rcases hxe with e | e
      · rcases hex with ⟨h, _⟩ | ⟨_, h⟩
        · exact .inl (by rw [e, h])
        · exact absurd (by rw [e, h] at hx; exact hx) (Ar.new_no A)
      · exact .inr e
    · rw [Ar.add_new]; exact hc
  · rcases hcase x hx with hx | rfl
    · rw [hold hx] at h0 ⊢; exact hI.par x hx h0
    · rw [Ar.add_new] at h0; exact absurd hp h0
  · rcases hcase x hx with hx | rfl
    · rw [hold hx] at h0 ⊢; exact hI.kidk x hx h0
    · rw [Ar.add_new] at h0; exact absurd hk h0
  · rcases hcase x hx with hx | rfl
    · obtain ⟨q1, q2⟩ := hI.docK x hx
      rw [hold hx]; exact ⟨hhas q1, by rw [hold q1]; exact q2⟩
    · rw [Ar.add_new]
      rcases hd with ⟨q1, q2, _⟩ | ⟨q1, q2⟩
      · exact ⟨hhas q1, by rw [hold q1]; exact q2⟩
      · rw [q1, Ar.add_new]; exact ⟨hnew, q2⟩
  · rcases hcase x hx with hx | rfl
    · rw [hold hx] at h1 ⊢; exact hI.docS x hx h1
    · rw [Ar.add_new] at h1 ⊢
      rcases hd with ⟨_, _, q⟩ | ⟨q1, _⟩
      · exact absurd h1 q
      · exact q1
  · have := hI.inert0
    have h0 : 0 < A.inert.length := (List.getElem?_eq_some_iff.1 this).1
    simp only [Ar.add, List.getElem?_append, h0, if_true]; exact this
  · rw [Ar.add_inertAt hI.wf.inert] at h0 ⊢
    obtain ⟨q1, q2, q3, q4⟩ := hI.inert d h0
    exact ⟨hhas q1, hhas q2, by rw [hold q2]; exact q3, by rw [Ar.add_inertAt hI.wf.inert]; exact q4⟩

/-- A change of fields that are no links, at one node. -/
theorem Ar.InvX.fields {A A' : Ar} {ex : Int} (hI : A.InvX ex) (hn : A'.n = A.n) (hi : A'.inert = A.inert)
    (h : ∀ x, A.has x → (A'.get x).parent = (A.get x).parent ∧ (A'.get x).kids = (A.get x).kids ∧ (A'.get x).host = (A.get x).host ∧ (A'.get x).contents = (A.get x).contents ∧ (A'.get x).kind = (A.get x).kind ∧ (A'.get x).space = (A.get x).space ∧ (A'.get x).name = (A.get x).name ∧ (A'.get x).Local ∧
      ((A'.get x).doc = (A.get x).doc ∨ (A.has (A'.get x).doc ∧ (A.get (A'.get x).doc).kind = 1 ∧ (A.get x).kind ≠ 1))) : A'.InvX ex := by
  have hh : ∀ x, A'.has x ↔ A.has x := fun x => by unfold Ar.has; rw [hn]
  have ht : ∀ x, A.has x → (isTemplate (A'.get x) ↔ isTemplate (A.get x)) := fun x hx => by
    obtain ⟨_, _, _, _, h5, h6, h7, _⟩ := h x hx
    unfold isTemplate; rw [h5, h6, h7]
  have hin : ∀ d, A'.inertAt d = A.inertAt d := fun d => by unfold Ar.inertAt; rw [hi]
  refine ⟨hI.wf.fields hn (by rw [hi]) (fun x hx => ⟨(h x hx).1, (h x hx).2.1, (h x hx).2.2.1⟩), fun x hx => ?_, fun x hx h0 => ?_, fun x hx hxe h0 => ?_, fun x hx hxe => ?_, fun x hx h0 => ?_, fun x hx h0 => ?_, fun x hx => ?_, fun x hx h1 => ?_, by rw [hi]; exact hI.inert0, fun d h0 => ?_⟩
  all_goals try have hx' := (hh x).1 hx
  · exact (h x hx').2.2.2.2.2.2.2.1
  · obtain ⟨g1, g2, g3, g4, g5, g6, g7, g8, g9⟩ := h x hx'
    rw [g3] at h0 ⊢
    obtain ⟨q1, q2, q3, q4⟩ := hI.host x hx' h0
    exact ⟨by rw [g5]; exact q1, (hh _).2 q2, (ht _ q2).2 q3, by rw [(h _ q2).2.2.2.1]; exact q4⟩
  · obtain ⟨g1, g2, g3, g4, g5, g6, g7, g8, g9⟩ := h x hx'
    rw [g4]
    obtain ⟨q1, q2, q3⟩ := hI.cont x hx' hxe ((ht x hx').1 h0)
    exact ⟨(hh _).2 q1, by rw [(h _ q1).2.2.2.2.1]; exact q2, by rw [(h _ q1).2.2.1]; exact q3⟩
  · rw [(h x hx').2.2.2.1]
    exact hI.nocont x hx' (hxe.imp id (fun e q => e ((ht x hx').2 q)))
  · obtain ⟨g1, g2, g3, g4, g5, g6, g7, g8, g9⟩ := h x hx'
    rw [g1] at h0; rw [g5]; exact hI.par x hx' h0
  · obtain ⟨g1, g2, g3, g4, g5, g6, g7, g8, g9⟩ := h x hx'
    rw [g2] at h0; rw [g5]; exact hI.kidk x hx' h0
  · obtain ⟨g1, g2, g3, g4, g5, g6, g7, g8, g9⟩ := h x hx'
    rcases g9 with g9 | ⟨g9, g10, _⟩
    · obtain ⟨q1, q2⟩ := hI.docK x hx'
      rw [g9]; exact ⟨(hh _).2 q1, by rw [(h _ q1).2.2.2.2.1]; exact q2⟩
    · exact ⟨(hh _).2 g9, by rw [(h _ g9).2.2.2.2.1]; exact g10⟩
  · obtain ⟨g1, g2, g3, g4, g5, g6, g7, g8, g9⟩ := h x hx'
    rw [g5] at h1
    rcases g9 with g9 | ⟨_, _, g9⟩
    · rw [g9]; exact hI.docS x hx' h1
    · exact absurd h1 g9
  · rw [hin] at h0 ⊢
    obtain ⟨q1, q2, q3, q4⟩ := hI.inert d h0
    exact ⟨(hh _).2 q1, (hh _).2 q2, by rw [(h _ q2).2.2.2.2.1]; exact q3, by rw [hin]; exact q4⟩

/-- The same at 'mod'. -/
theorem Ar.InvX.modF {A : Ar} {ex : Int} (hI : A.InvX ex) {x : Int} (hx : A.has x) (f : Nd → Nd) (hf : (f (A.get x)).parent = (A.get x).parent ∧ (f (A.get x)).kids = (A.get x).kids ∧ (f (A.get x)).host = (A.get x).host ∧ (f (A.get x)).contents = (A.get x).contents ∧ (f (A.get x)).kind = (A.get x).kind ∧ (f (A.get x)).space = (A.get x).space ∧ (f (A.get x)).name = (A.get x).name)
    (hl : (f (A.get x)).Local) (hd : (f (A.get x)).doc = (A.get x).doc ∨ (A.has (f (A.get x)).doc ∧ (A.get (f (A.get x)).doc).kind = 1 ∧ (A.get x).kind ≠ 1)) : (A.mod x f).InvX ex := by
  refine hI.fields (Ar.mod_n _ _ _) rfl (fun y hy => ?_)
  rw [Ar.mod_get f hx hy]
  by_cases e : y = x
  · subst e; rw [if_pos rfl]
    exact ⟨hf.1, hf.2.1, hf.2.2.1, hf.2.2.2.1, hf.2.2.2.2.1, hf.2.2.2.2.2.1, hf.2.2.2.2.2.2, hl, hd⟩
  · rw [if_neg e]
    exact ⟨rfl, rfl, rfl, rfl, rfl, rfl, rfl, hI.loc y hy, .inl rfl⟩

theorem local_doc (q : Bool) (d : Int) : Nd.Local { zeroNd with kind := 1, quirks := q, doc := d } :=
  ⟨by simp, by simp, by simp [inSpaces, zeroNd], by simp [attrSpaces, zeroNd], rfl, by simp [zeroNd], fun _ => ⟨rfl, rfl⟩, fun _ _ => rfl, fun _ => ⟨rfl, rfl⟩, fun _ _ => rfl, fun h => absurd rfl h⟩

theorem Ar.InvX.document {A : Ar} {ex : Int} (hI : A.InvX ex) (q : Bool) : (A.document q).InvX ex := by
  refine hI.added rfl rfl rfl rfl (local_doc q _) (.inr ⟨rfl, rfl⟩) (.inl ⟨rfl, ?_⟩)
  exact fun h => absurd h.1 (by simp)

theorem set2_get {l : List Int} {i j k : Nat} {v u : Int} (hi : i < l.length) (hj : j < l.length) : ((l.set i v).set j u)[k]?.getD 0 = if k = j then u else if k = i then v else l[k]?.getD 0 := by
  simp only [List.getElem?_set, List.length_set]
  by_cases h1 : j = k
  · subst h1; simp [hj]
  · rw [if_neg h1, if_neg (Ne.symm h1)]
    by_cases h2 : i = k
    · subst h2; simp [hi]
    · rw [if_neg h2, if_neg (Ne.symm h2)]

theorem Ar.InvX.inertOf {A : Ar} {ex d : Int} (hI : A.InvX ex) (hd : A.has d) : (A.inertOf d).2.InvX ex := by
  unfold Ar.inertOf
  by_cases h0 : A.inertAt d ≠ 0
  · rw [if_pos h0]; exact hI
  · rw [if_neg h0]
    have hD := hI.document false
    have hg : ∀ x, ({ A.document false with inert := ((A.document false).inert.set d.toNat (A.n + 1)).set (A.n + 1).toNat (A.n + 1) } : Ar).get x = (A.document false).get x := fun x => rfl
    have hlen : (A.document false).inert.length = A.ns.length + 2 := by simp [Ar.document, Ar.add, hI.wf.inert]
    have hdl : d.toNat < (A.document false).inert.length := by have := hd.2; unfold Ar.n at this; omega
    have hnl : (A.n + 1).toNat < (A.document false).inert.length := by unfold Ar.n; omega
    have hin : ∀ e : Int, ({ A.document false with inert := ((A.document false).inert.set d.toNat (A.n + 1)).set (A.n + 1).toNat (A.n + 1) } : Ar).inertAt e = if e.toNat = (A.n + 1).toNat then A.n + 1 else if e.toNat = d.toNat then A.n + 1 else (A.document false).inertAt e := fun e => set2_get hdl hnl
    have hn0 : 0 ≤ A.n := by unfold Ar.n; omega
    have hd1 := hd.1
    have hnewhas : (A.document false).has (A.n + 1) := (Ar.add_has _ _ _).2 (.inr rfl)
    have hdhas : (A.document false).has d := (Ar.add_has _ _ _).2 (.inl hd)
    have hnewk : ((A.document false).get (A.n + 1)).kind = 1 := by rw [Ar.document, Ar.add_new]
    refine ⟨hD.wf.fields rfl (by simp) (fun x _ => ⟨rfl, rfl, rfl⟩), hD.loc, hD.host, hD.cont, hD.nocont, hD.par, hD.kidk, hD.docK, hD.docS, ?_, fun e he => ?_⟩
    · have := hD.inert0
      simp only [List.getElem?_set, List.length_set]
      rw [if_neg (by omega), if_neg (by omega)]; exact this
    · rw [hin] at he ⊢
      by_cases e1 : e.toNat = (A.n + 1).toNat
      · rw [if_pos e1]
        have : e = A.n + 1 := by omega
        subst this
        exact ⟨hnewhas, hnewhas, hnewk, by rw [hin, if_pos rfl]⟩
      · rw [if_neg e1] at he ⊢
        by_cases e2 : e.toNat = d.toNat
        · rw [if_pos e2]
          have : e = d := by omega
          subst this
          exact ⟨hdhas, hnewhas, hnewk, by rw [hin, if_pos rfl]⟩
        · rw [if_neg e2] at he ⊢
          obtain ⟨q1, q2, q3, q4⟩ := hD.inert e he
          refine ⟨q1, q2, q3, ?_⟩
          rw [hin]
          by_cases e3 : ((A.document false).inertAt e).toNat = (A.n + 1).toNat
          · rw [if_pos e3]; have := q2.1; omega
          · rw [if_neg e3]
            by_cases e4 : ((A.document false).inertAt e).toNat = d.toNat
            · exfalso
              have hde : (A.document false).inertAt e = d := by have := q2.1; omega
              rw [hde] at q4
              rw [Ar.document, Ar.add_inertAt hI.wf.inert] at q4
              apply h0; rw [q4]; omega
            · rw [if_neg e4]; exact q4

end Go.Proofs.YtnfdcfagdidmhaaGreatDoor

/- The invariant is kept by cut, put and by the creation of an element. No program here. -/
namespace Go.Proofs.YtnfdcfagdidmhaaGreatDoor
set_option linter.unusedVariables false

/-- A node with other links. -/
abbrev Nd.re (n : Nd) (ks : List Int) (p : Int) : Nd := { n with kids := ks, parent := p }

theorem Ar.cut_get {A : Ar} {ex : Int} (hI : A.InvX ex) {h p : Int} (hh : A.has h) (hp : A.has p) :
    (A.cut h).get p = (A.get p).re (if p = (A.get h).parent then without (A.get p).kids h else (A.get p).kids) (if p = h then 0 else (A.get p).parent) := by
  by_cases hz : (A.get h).parent = 0
  · have hc : A.cut h = A := by unfold Ar.cut; rw [if_pos hz]
    have e1 : (if p = (A.get h).parent then without (A.get p).kids h else (A.get p).kids) = (A.get p).kids := if_neg (by rw [hz]; intro e; rw [e] at hp; exact has_zero A hp)
    have e2 : (if p = h then 0 else (A.get p).parent) = (A.get p).parent := by
      by_cases e : p = h
      · rw [if_pos e, e, hz]
      · rw [if_neg e]
    rw [hc, e1, e2]
  · have hpp := (hI.wf.link h hh hz).1
    have hne : (A.get h).parent ≠ h := fun e => by
      obtain ⟨l, hl⟩ := hI.wf.way h hh
      cases l with
      | nil => exact has_zero A (by have e0 : h = 0 := hl; rw [← e0]; exact hh)
      | cons y l =>
        have hl0 := hl
        have h2 := hl.2.2
        have hup : upStep A true h = h := by simp only [upStep, Ar.up, if_true]; rw [if_pos hz, e]
        rw [hup] at h2
        have := way_unique h2 hl0
        have := congrArg List.length this
        simp at this
    unfold Ar.cut
    rw [if_neg hz, Ar.mod_get _ ((Ar.mod_has _ _ _ _).2 hh) ((Ar.mod_has _ _ _ _).2 hp), Ar.mod_get _ hpp hp, Ar.mod_get _ hpp hh]
    by_cases e1 : p = h
    · subst e1
      rw [if_pos rfl, if_pos rfl, if_neg (Ne.symm hne), if_neg (Ne.symm hne)]
    · rw [if_neg e1, if_neg e1]
      by_cases e2 : p = (A.get h).parent
      · subst e2; rw [if_pos rfl, if_pos rfl]
      · rw [if_neg e2, if_neg e2]

theorem Ar.cut_inert (A : Ar) (h : Int) : (A.cut h).inert = A.inert := by
  unfold Ar.cut; split <;> rfl

/-- A change of links: what is left to show. -/
theorem Ar.InvX.links {A A' : Ar} {ex : Int} (hI : A.InvX ex) (hw : A'.WF) (hn : A'.n = A.n) (hi : A'.inert = A.inert)
    (h : ∀ x, A.has x → ∃ ks p, A'.get x = (A.get x).re ks p ∧ (p ≠ 0 → (A.get x).kind ≠ 1 ∧ (A.get x).kind ≠ 2) ∧ (ks ≠ [] → (A.get x).kind = 1 ∨ (A.get x).kind = 2 ∨ (A.get x).kind = 4)) : A'.InvX ex := by
  have hh : ∀ x, A'.has x ↔ A.has x := fun x => by unfold Ar.has; rw [hn]
  have hin : ∀ d, A'.inertAt d = A.inertAt d := fun d => by unfold Ar.inertAt; rw [hi]
  have hkind : ∀ x, A.has x → (A'.get x).kind = (A.get x).kind := fun x hx => by obtain ⟨ks, p, e, _⟩ := h x hx; rw [e]
  have hcont : ∀ x, A.has x → (A'.get x).contents = (A.get x).contents := fun x hx => by obtain ⟨ks, p, e, _⟩ := h x hx; rw [e]
  have hhost : ∀ x, A.has x → (A'.get x).host = (A.get x).host := fun x hx => by obtain ⟨ks, p, e, _⟩ := h x hx; rw [e]
  have hdoc : ∀ x, A.has x → (A'.get x).doc = (A.get x).doc := fun x hx => by obtain ⟨ks, p, e, _⟩ := h x hx; rw [e]
  have ht : ∀ x, A.has x → (isTemplate (A'.get x) ↔ isTemplate (A.get x)) := fun x hx => by
    obtain ⟨ks, p, e, _⟩ := h x hx
    rw [e]; rfl
  refine ⟨hw, fun x hx => ?_, fun x hx h0 => ?_, fun x hx hxe h0 => ?_, fun x hx hxe => ?_, fun x hx h0 => ?_, fun x hx h0 => ?_, fun x hx => ?_, fun x hx h1 => ?_, by rw [hi]; exact hI.inert0, fun d h0 => ?_⟩
  all_goals try have hx' := (hh x).1 hx
  · obtain ⟨ks, p, e, _⟩ := h x hx'
    have := hI.loc x hx'
    rw [e]; exact ⟨this.k1, this.k6, this.sp, this.at1, this.at2, this.at3, this.el, this.nm, this.ps, this.da, this.qu⟩
  · rw [hhost x hx'] at h0 ⊢
    obtain ⟨q1, q2, q3, q4⟩ := hI.host x hx' h0
    exact ⟨by rw [hkind x hx']; exact q1, (hh _).2 q2, (ht _ q2).2 q3, by rw [hcont _ q2]; exact q4⟩
  · rw [hcont x hx']
    obtain ⟨q1, q2, q3⟩ := hI.cont x hx' hxe ((ht x hx').1 h0)
    exact ⟨(hh _).2 q1, by rw [hkind _ q1]; exact q2, by rw [hhost _ q1]; exact q3⟩
  · rw [hcont x hx']
    exact hI.nocont x hx' (hxe.imp id (fun e q => e ((ht x hx').2 q)))
  · obtain ⟨ks, p, e, h1, _⟩ := h x hx'
    rw [e] at h0 ⊢; exact h1 h0
  · obtain ⟨ks, p, e, _, h2⟩ := h x hx'
    rw [e] at h0 ⊢; exact h2 h0
  · obtain ⟨q1, q2⟩ := hI.docK x hx'
    rw [hdoc x hx']; exact ⟨(hh _).2 q1, by rw [hkind _ q1]; exact q2⟩
  · rw [hkind x hx'] at h1
    rw [hdoc x hx']; exact hI.docS x hx' h1
  · rw [hin] at h0 ⊢
    obtain ⟨q1, q2, q3, q4⟩ := hI.inert d h0
    exact ⟨(hh _).2 q1, (hh _).2 q2, by rw [hkind _ q2]; exact q3, by rw [hin]; exact q4⟩

theorem Ar.InvX.cut {A : Ar} {ex : Int} (hI : A.InvX ex) {h : Int} (hh : A.has h) : (A.cut h).InvX ex := by
  by_cases hz : (A.get h).parent = 0
  · have hc : A.cut h = A := by unfold Ar.cut; rw [if_pos hz]
    rw [hc]; exact hI
  have hg : ∀ {p}, A.has p → _ := fun {p} hp => Ar.cut_get hI hh hp
  have hhas : ∀ x, (A.cut h).has x ↔ A.has x := Ar.cut_has A h
  have hhost : (A.get h).host = 0 := by
    by_cases e : (A.get h).host = 0
    · exact e
    · exact absurd (hI.host h hh e).1 (hI.par h hh hz).2
  refine hI.links ⟨fun x hx hp => ?_, fun p hp k hk => ?_, fun p hp => ?_, fun x hx => ?_, ?_⟩ (Ar.cut_n A h) (Ar.cut_inert A h) (fun x hx => ?_)
  · have hx' := (hhas x).1 hx
    rw [hg hx'] at hp ⊢
    dsimp only [Nd.re] at hp ⊢
    by_cases e : x = h
    · rw [if_pos e] at hp; exact absurd rfl hp
    · rw [if_neg e] at hp ⊢
      obtain ⟨q1, q2, q3⟩ := hI.wf.link x hx' hp
      refine ⟨(hhas _).2 q1, ?_, ?_⟩
      · rw [hg q1]; dsimp only [Nd.re]
        split
        · exact List.mem_filter.2 ⟨q2, by simpa using e⟩
        · exact q2
      · rw [hg q1]; dsimp only [Nd.re]
        split
        · exact q3.filter _
        · exact q3
  · have hp' := (hhas p).1 hp
    rw [hg hp'] at hk
    dsimp only [Nd.re] at hk
    by_cases e : p = (A.get h).parent
    · rw [if_pos e] at hk
      obtain ⟨k1, k2⟩ := List.mem_filter.1 hk
      obtain ⟨q1, q2⟩ := hI.wf.kids p hp' k k1
      exact ⟨(hhas _).2 q1, by rw [hg q1]; dsimp only [Nd.re]; rw [if_neg (by simpa using k2)]; exact q2⟩
    · rw [if_neg e] at hk
      obtain ⟨q1, q2⟩ := hI.wf.kids p hp' k hk
      exact ⟨(hhas _).2 q1, by rw [hg q1]; dsimp only [Nd.re]; rw [if_neg (fun e2 => e (by rw [← q2, e2]))]; exact q2⟩
  · have hp' := (hhas p).1 hp
    rw [hg hp']
    dsimp only [Nd.re]
    split
    · exact (hI.wf.nodup p hp').filter _
    · exact hI.wf.nodup p hp'
  · obtain ⟨l, hl⟩ := hI.wf.way x ((hhas x).1 hx)
    refine way_relink (node := h) (p := 0) (lp := []) (fun y hy => (hhas y).2 hy) (fun y hy hn => ?_) ?_ rfl (by simp) hl
    · simp [upStep, Ar.up, hg hy, hn, Nd.re]
    · simp [upStep, Ar.up, hg hh, hhost, Nd.re]
  · rw [Ar.cut_inert, Ar.cut_ns]; exact hI.wf.inert
  · refine ⟨_, _, hg hx, fun hp => ?_, fun hk => ?_⟩
    · by_cases e : x = h
      · rw [if_pos e] at hp; exact absurd rfl hp
      · rw [if_neg e] at hp; exact hI.par x hx hp
    · refine hI.kidk x hx (fun e => hk ?_)
      rw [e]; split <;> rfl

theorem putIn_perm {l : List Int} {node before : Int} (hn : l.Nodup) (hb : (before = 0 ∧ (0 : Int) ∉ l) ∨ (before ≠ 0 ∧ before ∈ l)) : (putIn l node before).Perm (node :: l) := by
  rcases hb with ⟨rfl, h0⟩ | ⟨h0, hm⟩
  · rw [putIn_zero h0]; exact (List.perm_append_comm).trans (by simp)
  · obtain ⟨i, hi, e⟩ := List.getElem_of_mem hm
    rw [putIn_at h0 hn (i := i) (by rw [List.getElem?_eq_getElem hi, e])]
    have := @List.perm_middle _ node (l.take i) (l.drop i)
    rwa [List.take_append_drop] at this

theorem way_head {A : Ar} {up : Int → Int} {l : List Int} {h : Int} (hw : A.Way up h l) (hh : A.has h) : h ∈ l := by
  cases l with
  | nil => have e : h = 0 := hw; rw [e] at hh; exact absurd hh (has_zero A)
  | cons x l => rw [hw.1]; simp

theorem Ar.place_get {A : Ar} {parent node before p : Int} (hpar : A.has parent) (hnode : A.has node) (hp : A.has p) (hne : parent ≠ node) :
    (A.place parent node before).get p = ((A.cut node).get p).re (if p = parent then putIn ((A.cut node).get p).kids node before else ((A.cut node).get p).kids) (if p = node then parent else ((A.cut node).get p).parent) := by
  unfold Ar.place
  rw [Ar.mod_get _ ((Ar.mod_has _ _ _ _).2 ((Ar.cut_has _ _ _).2 hnode)) ((Ar.mod_has _ _ _ _).2 ((Ar.cut_has _ _ _).2 hp)), Ar.mod_get _ ((Ar.cut_has _ _ _).2 hpar) ((Ar.cut_has _ _ _).2 hp), Ar.mod_get _ ((Ar.cut_has _ _ _).2 hpar) ((Ar.cut_has _ _ _).2 hnode)]
  by_cases e1 : p = node
  · subst e1
    rw [if_pos rfl, if_pos rfl, if_neg (Ne.symm hne), if_neg (Ne.symm hne)]
  · rw [if_neg e1, if_neg e1]
    by_cases e2 : p = parent
    · subst e2; rw [if_pos rfl, if_pos rfl]
    · rw [if_neg e2, if_neg e2]
theorem Ar.place_n (A : Ar) (parent node before : Int) : (A.place parent node before).n = A.n := by unfold Ar.place; rw [Ar.mod_n, Ar.mod_n, Ar.cut_n]
theorem Ar.place_inert (A : Ar) (parent node before : Int) : (A.place parent node before).inert = A.inert := by show (A.cut node).inert = _; exact Ar.cut_inert A node

theorem Ar.InvX.place {A : Ar} {ex : Int} (hI : A.InvX ex) {parent node before : Int} (hpar : A.has parent) (hnode : A.has node) (hb : before ≠ 0 → A.has before ∧ before ≠ node ∧ (A.get before).parent = parent)
    (hk : (A.get parent).kind = 1 ∨ (A.get parent).kind = 2 ∨ (A.get parent).kind = 4) (hkn : (A.get node).kind ≠ 1 ∧ (A.get node).kind ≠ 2) (hc : A.contains node parent = false) : (A.place parent node before).InvX ex := by
  have hno : node ∉ A.waySt true parent := fun h => by simp [Ar.contains, hpar, hnode, h] at hc
  have hlp := hI.wf.wayOf hpar
  have hne : parent ≠ node := fun e => hno (by rw [← e]; exact way_head hlp hpar)
  have hB := hI.cut hnode
  have hbh : ∀ x, (A.cut node).has x ↔ A.has x := Ar.cut_has A node
  have hgB : ∀ {p}, A.has p → _ := fun {p} hp => Ar.cut_get hI hnode hp
  have hg : ∀ {p}, A.has p → _ := fun {p} hp => Ar.place_get (before := before) hpar hnode hp hne
  have hhas : ∀ x, (A.place parent node before).has x ↔ A.has x := fun x => by unfold Ar.has; rw [Ar.place_n]
  have hBp : ((A.cut node).get node).parent = 0 := by rw [hgB hnode]; simp
  have hBpo : ∀ {x}, A.has x → x ≠ node → ((A.cut node).get x).parent = (A.get x).parent := fun hx e => by rw [hgB hx]; simp [e]
  have hnd := hB.wf.nodup parent ((hbh _).2 hpar)
  have hnot : ∀ p, A.has p → node ∉ ((A.cut node).get p).kids := fun p hp hm => by
    have := (hB.wf.kids p ((hbh _).2 hp) node hm).2
    rw [hBp] at this; rw [← this] at hp; exact has_zero A hp
  have hperm : (putIn ((A.cut node).get parent).kids node before).Perm (node :: ((A.cut node).get parent).kids) := by
    refine putIn_perm hnd ?_
    by_cases h0 : before = 0
    · exact .inl ⟨h0, fun hm => has_zero A ((hbh _).1 (hB.wf.kids parent ((hbh _).2 hpar) 0 hm).1)⟩
    · obtain ⟨q1, q2, q3⟩ := hb h0
      refine .inr ⟨h0, ?_⟩
      have h4 := (hB.wf.link before ((hbh _).2 q1) (by rw [hBpo q1 q2, q3]; intro e; rw [e] at hpar; exact has_zero A hpar)).2.1
      rwa [hBpo q1 q2, q3] at h4
  have hpz : parent ≠ 0 := fun e => by rw [e] at hpar; exact has_zero A hpar
  have hhost : (A.get node).host = 0 := by
    by_cases e : (A.get node).host = 0
    · exact e
    · exact absurd (hI.host node hnode e).1 hkn.2
  refine hB.links (A' := A.place parent node before) ⟨fun x hx hp => ?_, fun p hp k hkk => ?_, fun p hp => ?_, fun x hx => ?_, ?_⟩ (by rw [Ar.place_n, Ar.cut_n]) (by rw [Ar.place_inert, Ar.cut_inert]) (fun x hx => ?_)
  · have hx' := (hhas x).1 hx
    rw [hg hx'] at hp ⊢
    dsimp only [Nd.re] at hp ⊢
    by_cases e : x = node
    · rw [if_pos e] at hp ⊢
      refine ⟨(hhas _).2 hpar, ?_, ?_⟩
      · rw [hg hpar, e]; dsimp only [Nd.re]; rw [if_pos rfl]; exact hperm.mem_iff.2 (by simp)
      · rw [hg hpar]; dsimp only [Nd.re]; rw [if_pos rfl]; exact hperm.nodup_iff.2 (List.nodup_cons.2 ⟨hnot parent hpar, hnd⟩)
    · rw [if_neg e] at hp ⊢
      obtain ⟨q1, q2, q3⟩ := hB.wf.link x ((hbh _).2 hx') hp
      have q1' := (hbh _).1 q1
      refine ⟨(hhas _).2 q1', ?_, ?_⟩
      · rw [hg q1']; dsimp only [Nd.re]
        split
        · rename_i e2; rw [e2] at q2 ⊢; exact hperm.mem_iff.2 (List.mem_cons_of_mem _ q2)
        · exact q2
      · rw [hg q1']; dsimp only [Nd.re]
        split
        · rename_i e2; rw [e2]; exact hperm.nodup_iff.2 (List.nodup_cons.2 ⟨hnot parent hpar, hnd⟩)
        · exact q3
  · have hp' := (hhas p).1 hp
    rw [hg hp'] at hkk
    dsimp only [Nd.re] at hkk
    have hold : k ∈ ((A.cut node).get p).kids → (A.place parent node before).has k ∧ ((A.place parent node before).get k).parent = p := fun hm => by
      obtain ⟨q1, q2⟩ := hB.wf.kids p ((hbh _).2 hp') k hm
      have q1' := (hbh _).1 q1
      refine ⟨(hhas _).2 q1', ?_⟩
      rw [hg q1']; dsimp only [Nd.re]
      rw [if_neg (fun e => hnot p hp' (by have hm' := hm; rw [e] at hm'; exact hm'))]; exact q2
    by_cases e : p = parent
    · rw [if_pos e] at hkk
      subst e
      rcases List.mem_cons.1 (hperm.mem_iff.1 hkk) with e2 | hm
      · rw [e2]
        refine ⟨(hhas _).2 hnode, ?_⟩
        rw [hg hnode]; simp
      · exact hold hm
    · rw [if_neg e] at hkk; exact hold hkk
  · have hp' := (hhas p).1 hp
    rw [hg hp']
    dsimp only [Nd.re]
    split
    · rename_i e; rw [e]; exact hperm.nodup_iff.2 (List.nodup_cons.2 ⟨hnot parent hpar, hnd⟩)
    · exact hB.wf.nodup p ((hbh _).2 hp')
  · obtain ⟨l, hl⟩ := hI.wf.way x ((hhas x).1 hx)
    refine way_relink (node := node) (p := parent) (lp := A.waySt true parent) (fun y hy => (hhas y).2 hy) (fun y hy hn => ?_) ?_ hlp hno hl
    · simp only [upStep, Ar.up, hg hy, hgB hy, hn, Nd.re]; simp
    · simp [upStep, Ar.up, hg hnode, hpz, Nd.re]
  · have := Ar.place_n A parent node before
    unfold Ar.n at this
    rw [Ar.place_inert, hI.wf.inert]; omega
  · have hx' := (hbh _).1 hx
    refine ⟨_, _, hg hx', fun hp => ?_, fun hkk => ?_⟩
    · by_cases e : x = node
      · rw [e, hgB hnode]; exact hkn
      · rw [if_neg e] at hp; exact hB.par x hx hp
    · by_cases e : x = parent
      · rw [e, hgB hpar]; exact hk
      · rw [if_neg e] at hkk; exact hB.kidk x hx hkk

end Go.Proofs.YtnfdcfagdidmhaaGreatDoor

/- The invariant is kept by every call. No program here. -/
namespace Go.Proofs.YtnfdcfagdidmhaaGreatDoor
set_option linter.unusedVariables false

theorem onceStep_mem {out : List AttrD} {x y : AttrD} (h : y ∈ onceStep out x) : y ∈ out ∨ y = x := by
  unfold onceStep at h
  split at h
  · exact .inl h
  · rcases List.mem_append.1 h with h | h
    · exact .inl h
    · exact .inr (by simpa using h)
theorem onceF_mem : ∀ {l out : List AttrD} {y : AttrD}, y ∈ l.foldl onceStep out → y ∈ out ∨ y ∈ l
  | [], out, y, h => .inl h
  | x :: l, out, y, h => by
    rcases onceF_mem (l := l) h with h | h
    · rcases onceStep_mem h with h | h
      · exact .inl h
      · exact .inr (by simp [h])
    · exact .inr (by simp [h])
theorem onceL_mem {l : List AttrD} {y : AttrD} (h : y ∈ onceL l) : y ∈ l := by
  rcases onceF_mem h with h | h
  · simp at h
  · exact h
theorem onceF_len : ∀ (l acc : List AttrD), (l.foldl onceStep acc).length ≤ acc.length + l.length
  | [], acc => by simp
  | x :: l, acc => by
    have := onceF_len l (onceStep acc x)
    have h2 : (onceStep acc x).length ≤ acc.length + 1 := by unfold onceStep; split <;> simp
    simp only [List.foldl_cons, List.length_cons]; omega
theorem onceL_len (l : List AttrD) : (onceL l).length ≤ l.length := by have := onceF_len l []; simpa [onceL] using this

/-- No name twice. -/
def NoTwice (l : List AttrD) : Prop := l.Pairwise (fun a b => sameName b a = false)
theorem onceF_no : ∀ {l acc : List AttrD}, NoTwice acc → NoTwice (l.foldl onceStep acc)
  | [], acc, h => h
  | x :: l, acc, h => by
    refine onceF_no (l := l) ?_
    unfold onceStep
    split
    · exact h
    · rename_i hn
      refine List.pairwise_append.2 ⟨h, by simp, fun a ha b hb => ?_⟩
      simp at hb hn
      subst hb
      have := hn a.1 a.2.1 a.2.2 ha
      simpa using this
theorem onceF_id : ∀ {l acc : List AttrD}, NoTwice (acc ++ l) → l.foldl onceStep acc = acc ++ l
  | [], acc, _ => by simp
  | x :: l, acc, h => by
    have h1 : onceStep acc x = acc ++ [x] := by
      unfold onceStep
      rw [if_neg]
      simp only [List.any_eq_true, not_exists, not_and, Bool.not_eq_true]
      intro a ha
      exact (List.pairwise_append.1 h).2.2 a ha x (by simp)
    rw [List.foldl_cons, h1, onceF_id (by simpa using h)]
    simp
theorem onceL_idem (l : List AttrD) : onceL (onceL l) = onceL l := by
  have h : NoTwice (onceL l) := onceF_no (l := l) (acc := []) List.Pairwise.nil
  have := onceF_id (l := onceL l) (acc := []) (by simpa using h)
  simpa [onceL] using this

theorem Ar.inertOf_get {A : Ar} {d x : Int} (hx : A.has x) : (A.inertOf d).2.get x = A.get x ∧ (A.inertOf d).2.has x := by
  unfold Ar.inertOf
  split
  · exact ⟨rfl, hx⟩
  · exact ⟨Ar.add_old _ hx, (Ar.add_has _ _ _).2 (.inl hx)⟩
theorem Ar.InvX.inertVal {A : Ar} {ex d : Int} (hI : A.InvX ex) (hd : A.has d) : (A.inertOf d).2.has (A.inertOf d).1 ∧ ((A.inertOf d).2.get (A.inertOf d).1).kind = 1 := by
  unfold Ar.inertOf
  split
  · rename_i h
    obtain ⟨_, q2, q3, _⟩ := hI.inert d h
    exact ⟨q2, q3⟩
  · exact ⟨(Ar.add_has _ _ _).2 (.inr rfl), by show ((A.document false).get (A.n + 1)).kind = 1; rw [Ar.document, Ar.add_new]⟩

theorem local_elem {d s : Int} {name : ByteArray} {l : List AttrD} (hs : inSpaces s) (ha : attrSpaces l) (hl : l.length ≤ 1000) : Nd.Local { zeroNd with kind := 4, doc := d, space := s, name := name, attrs := onceL l } :=
  ⟨by simp, by simp, hs, fun a h => ha a (onceL_mem h), onceL_idem l, Nat.le_trans (onceL_len l) hl, fun h => absurd rfl h, fun h => absurd rfl h, fun _ => ⟨rfl, rfl⟩, fun _ _ => rfl, fun _ => rfl⟩
theorem local_frag {d h : Int} : Nd.Local { zeroNd with kind := 2, host := h, doc := d } :=
  ⟨by simp, by simp, by simp [inSpaces, zeroNd], by simp [attrSpaces, zeroNd], rfl, by simp [zeroNd], fun _ => ⟨rfl, rfl⟩, fun _ _ => rfl, fun _ => ⟨rfl, rfl⟩, fun _ _ => rfl, fun _ => rfl⟩

/-- The contents of a new template. -/
theorem Ar.InvX.contents {A : Ar} {ex i : Int} (hI : A.InvX ex) (hh : A.has ex) (ht : isTemplate (A.get ex)) (hi : A.has i) (hik : (A.get i).kind = 1) :
    ((A.add { zeroNd with kind := 2, host := ex, doc := i }).mod ex (fun x => { x with contents := A.n + 1 })).Inv := by
  obtain ⟨c, hc⟩ : ∃ c : Nd, c = { zeroNd with kind := 2, host := ex, doc := i } := ⟨_, rfl⟩
  rw [← hc]
  have hck : c.kids = [] := by rw [hc]; rfl
  have hcp : c.parent = 0 := by rw [hc]; rfl
  have hch : c.host = ex := by rw [hc]
  have hckind : c.kind = 2 := by rw [hc]
  have hcd : c.doc = i := by rw [hc]
  have hcc : c.contents = 0 := by rw [hc]; rfl
  have hcl : c.Local := by rw [hc]; exact local_frag
  have hnt : ¬ isTemplate c := fun h => by have := h.1; rw [hckind] at this; omega
  have hold : ∀ {x}, A.has x → (A.add c).get x = A.get x := fun hx => Ar.add_old c hx
  have hexh : (A.add c).has ex := (Ar.add_has _ _ _).2 (.inl hh)
  have hex0 : ex ≠ 0 := fun e => by rw [e] at hh; exact has_zero A hh
  have hne : A.n + 1 ≠ ex := fun e => by rw [← e] at hh; exact Ar.new_no A hh
  have hW := hI.wf.added (n := c) hck hcp (fun _ => by rw [hch]; exact hh)
  have hmh : ∀ x, ((A.add c).mod ex (fun x => { x with contents := A.n + 1 })).has x ↔ A.has x ∨ x = A.n + 1 := fun x => by rw [Ar.mod_has, Ar.add_has]
  have hgold : ∀ {x}, A.has x → x ≠ ex → ((A.add c).mod ex (fun x => { x with contents := A.n + 1 })).get x = A.get x := fun {x} hx e => by
    rw [Ar.mod_get _ hexh ((Ar.add_has _ _ _).2 (.inl hx)), if_neg e, hold hx]
  have hgex : ((A.add c).mod ex (fun x => { x with contents := A.n + 1 })).get ex = { A.get ex with contents := A.n + 1 } := by
    rw [Ar.mod_get _ hexh hexh, if_pos rfl, hold hh]
  have hgnew : ((A.add c).mod ex (fun x => { x with contents := A.n + 1 })).get (A.n + 1) = c := by
    rw [Ar.mod_get _ hexh ((Ar.add_has _ _ _).2 (.inr rfl)), if_neg hne, Ar.add_new]
  have hin : ∀ d, ((A.add c).mod ex (fun x => { x with contents := A.n + 1 })).inertAt d = A.inertAt d := fun d => Ar.add_inertAt hI.wf.inert c d
  have hkind : ∀ {x}, A.has x → (((A.add c).mod ex (fun x => { x with contents := A.n + 1 })).get x).kind = (A.get x).kind := fun {x} hx => by
    by_cases e : x = ex
    · rw [e, hgex]
    · rw [hgold hx e]
  have hT : ∀ {x}, A.has x → (isTemplate (((A.add c).mod ex (fun x => { x with contents := A.n + 1 })).get x) ↔ isTemplate (A.get x)) := fun {x} hx => by
    by_cases e : x = ex
    · rw [e, hgex]; exact Iff.rfl
    · rw [hgold hx e]
  have hWm : ((A.add c).mod ex (fun x => { x with contents := A.n + 1 })).WF := hW.fields (Ar.mod_n _ _ _) rfl (fun x hx => by
    rw [Ar.mod_get _ hexh hx]
    split
    · rename_i e; rw [e]; exact ⟨rfl, rfl, rfl⟩
    · exact ⟨rfl, rfl, rfl⟩)
  have hi0 := hI.inert0
  generalize hB : (A.add c).mod ex (fun x => { x with contents := A.n + 1 }) = B at *
  have hBi : B.inert[0]? = some 0 := by
    rw [← hB]
    have h0 : 0 < A.inert.length := (List.getElem?_eq_some_iff.1 hi0).1
    simp only [Ar.mod, Ar.add, List.getElem?_append, h0, if_true]; exact hi0
  clear hB
  refine ⟨hWm, fun x hx => ?_, fun x hx h0 => ?_, fun x hx hxe htx => ?_, fun x hx hxe => ?_, fun x hx h0 => ?_, fun x hx h0 => ?_, fun x hx => ?_, fun x hx h1 => ?_, hBi, fun d h0 => ?_⟩
  · rcases (hmh x).1 hx with hx' | rfl
    · by_cases e : x = ex
      · subst e; rw [hgex]
        have := hI.loc x hx'
        exact ⟨this.k1, this.k6, this.sp, this.at1, this.at2, this.at3, this.el, this.nm, this.ps, this.da, this.qu⟩
      · rw [hgold hx' e]; exact hI.loc x hx'
    · rw [hgnew]; exact hcl
  · rcases (hmh x).1 hx with hx' | rfl
    · have hhx : (B.get x).host = (A.get x).host := by
        by_cases e : x = ex
        · subst e; rw [hgex]
        · rw [hgold hx' e]
      rw [hhx] at h0 ⊢
      obtain ⟨q1, q2, q3, q4⟩ := hI.host x hx' h0
      have hn : (A.get x).host ≠ ex := fun e => by
        rw [e, hI.nocont ex hh (.inl rfl)] at q4
        rw [← q4] at hx'; exact has_zero A hx'
      exact ⟨by rw [hkind hx']; exact q1, (hmh _).2 (.inl q2), (hT q2).2 q3, by rw [hgold q2 hn]; exact q4⟩
    · rw [hgnew, hch]
      exact ⟨hckind, (hmh _).2 (.inl hh), (hT hh).2 ht, by rw [hgex]⟩
  · rcases (hmh x).1 hx with hx' | rfl
    · by_cases e : x = ex
      · subst e; rw [hgex]
        dsimp only
        exact ⟨(hmh _).2 (.inr rfl), by rw [hgnew]; exact hckind, by rw [hgnew]; exact hch⟩
      · rw [hgold hx' e]
        obtain ⟨q1, q2, q3⟩ := hI.cont x hx' e ((hT hx').1 htx)
        have hnc : (A.get x).contents ≠ ex := fun e2 => by
          rw [e2] at q2; have := ht.1; omega
        exact ⟨(hmh _).2 (.inl q1), by rw [hgold q1 hnc]; exact q2, by rw [hgold q1 hnc]; exact q3⟩
    · rw [hgnew] at htx; exact absurd htx hnt
  · rcases (hmh x).1 hx with hx' | rfl
    · have hxe' : ¬ isTemplate (A.get x) := by
        rcases hxe with e | e
        · rw [e] at hx'; exact absurd hx' (has_zero A)
        · exact fun q => e ((hT hx').2 q)
      have e : x ≠ ex := fun e => hxe' (by rw [e]; exact ht)
      rw [hgold hx' e]; exact hI.nocont x hx' (.inr hxe')
    · rw [hgnew]; exact hcc
  · rcases (hmh x).1 hx with hx' | rfl
    · rw [hkind hx']
      refine hI.par x hx' (fun e => h0 ?_)
      by_cases e2 : x = ex
      · subst e2; rw [hgex]; exact e
      · rw [hgold hx' e2]; exact e
    · rw [hgnew] at h0; exact absurd hcp h0
  · rcases (hmh x).1 hx with hx' | rfl
    · rw [hkind hx']
      refine hI.kidk x hx' (fun e => h0 ?_)
      by_cases e2 : x = ex
      · subst e2; rw [hgex]; exact e
      · rw [hgold hx' e2]; exact e
    · rw [hgnew] at h0; exact absurd hck h0
  · rcases (hmh x).1 hx with hx' | rfl
    · have hdx : (B.get x).doc = (A.get x).doc := by
        by_cases e : x = ex
        · subst e; rw [hgex]
        · rw [hgold hx' e]
      obtain ⟨q1, q2⟩ := hI.docK x hx'
      rw [hdx]; exact ⟨(hmh _).2 (.inl q1), by rw [hkind q1]; exact q2⟩
    · rw [hgnew, hcd]; exact ⟨(hmh _).2 (.inl hi), by rw [hkind hi]; exact hik⟩
  · rcases (hmh x).1 hx with hx' | rfl
    · have hdx : (B.get x).doc = (A.get x).doc := by
        by_cases e : x = ex
        · subst e; rw [hgex]
        · rw [hgold hx' e]
      rw [hkind hx'] at h1
      rw [hdx]; exact hI.docS x hx' h1
    · rw [hgnew] at h1; omega
  · rw [hin] at h0 ⊢
    obtain ⟨q1, q2, q3, q4⟩ := hI.inert d h0
    exact ⟨(hmh _).2 (.inl q1), (hmh _).2 (.inl q2), by rw [hkind q2]; exact q3, by rw [hin]; exact q4⟩

end Go.Proofs.YtnfdcfagdidmhaaGreatDoor

/- The document's arena in memory: what it reads, what stores do. No program here. -/
namespace Go.Proofs.YtnfdcfagdidmhaaGreatDoor
open Go.RowKit
set_option linter.unusedVariables false

/-- A list of nodes gains one: its row has grown to the block gg. -/
theorem NodesM.added {w w1 : World} {ρ : Nat → Nat} {e eA : TypeId} {nv av : Value} {ns : List Nd} {rows : List (List Value)} {n : Nd} {gg cap : Nat}
    (hl : ∀ k, ρ k ≠ 0 → k < w.heap.size) (hrole : ∀ g, nv.ownBlock = some g → ρ g = 2) (hrl : rows.length = ns.length) (hrows : ∀ i n, ns[i]? = some n → ∃ r, rows[i]? = some r ∧ NodeM w ρ eA i n r)
    (hk : n.kids = []) (hav : ROwn w ρ (2 * ns.length + 5) eA 3 av n.attrs.length (n.attrs.flatMap attrCells))
    (hU : Upd (fun k => nv.ownBlock = some k) w w1) (hown : w1.ownsRow 0 e 13 (.slice (some ⟨gg, 0, none⟩) (ns.length + 1) cap) (ns.length + 1) (rows.flatten ++ n.cells (.slice none 0 0) av))
    (hat : nv.ownBlock = some gg ∨ w.heap.size ≤ gg) :
    (∀ k, k < w.heap.size → (if k = gg then 2 else ρ k) = ρ k) ∧ NodesM w1 (fun k => if k = gg then 2 else ρ k) e eA (.slice (some ⟨gg, 0, none⟩) (ns.length + 1) cap) (ns ++ [n]) := by
  have hr' : ∀ k, k < w.heap.size → (if k = gg then 2 else ρ k) = ρ k := fun k hk => by
    split
    · rename_i e; subst e
      rcases hat with hat | hat
      · exact (hrole _ hat).symm
      · omega
    · rfl
  have hF : ∀ k r, (fun k => if k = gg then 2 else ρ k) k = r → 3 ≤ r → ¬ (nv.ownBlock = some k) := by
    intro k r hr h3 hf
    dsimp only at hr
    have := hrole k hf
    split at hr <;> omega
  refine ⟨hr', rows ++ [n.cells (.slice none 0 0) av], ⟨by simpa [List.flatten_append] using hown, ?_⟩, by simp [hrl], ?_⟩
  · intro g hg
    simp [Value.ownBlock] at hg
    simp [hg]
  · intro i m hm
    rw [List.getElem?_append] at hm
    split at hm
    · rename_i hi
      obtain ⟨r, hr, hM⟩ := hrows i m hm
      exact ⟨r, by rw [List.getElem?_append_left (by omega)]; exact hr, (hM.role hr').upd hU (fun k hk => by rcases hk with hk | hk <;> exact hF k _ hk (by omega))⟩
    · rename_i hi
      have hi' : i = ns.length := by
        have := (List.getElem?_eq_some_iff.1 hm).1; simp at this; omega
      subst hi'
      simp at hm
      subst hm
      refine ⟨n.cells (.slice none 0 0) av, by rw [← hrl]; simp, .slice none 0 0, av, rfl, by rw [hk]; exact ⟨World.ownsRow_nil _ _ _ _, fun g hg => by simp [Value.ownBlock] at hg⟩, (hav.role hr').upd hU (fun k hk => hF k _ hk (by omega))⟩

/-- A store into a field of node i; the arrays of its lists may have been written ahead of it. -/
theorem NodesM.store {w w1 : World} {ρ ρ' : Nat → Nat} {e eA : TypeId} {ns : List Nd} {i : Nat} {n : Nd} {f : Nd → Nd} {j nb c : Nat} {v : Value} (hA : NodesM w ρ e eA (.slice (some ⟨nb, 0, none⟩) ns.length c) ns) (hx : ns[i]? = some n)
    (hU : Upd (fun k => ρ k = 2 * i + 4 ∨ ρ k = 2 * i + 5) w w1) (hr : ∀ k, k < w.heap.size → ρ' k = ρ k) (hj : j < 13)
    (hM : ∀ kv av, ROwn w ρ (2 * i + 4) 3 1 kv n.kids.length (n.kids.map intv) → ROwn w ρ (2 * i + 5) eA 3 av n.attrs.length (n.attrs.flatMap attrCells) →
      w.cell? ⟨nb, i * 13 + 2, none⟩ = some kv → w.cell? ⟨nb, i * 13 + 6, none⟩ = some av → NodeM w1 ρ' eA i (f n) ((n.cells kv av).set j v)) :
    NodesM (w1.setCell ⟨nb, i * 13 + j, none⟩ v) ρ' e eA (.slice (some ⟨nb, 0, none⟩) ns.length c) (ns.modify i f) := by
  obtain ⟨rows, ⟨h5, h6⟩, h7, h8⟩ := hA
  have hnb : ρ nb = 2 := h6 nb rfl
  have hnbl : nb < w.heap.size := (owns_block h5 nb rfl).2
  have h13 := NodesM.rows13 h7 h8
  have hU2 : Upd (fun k => ρ' k = 2 * i + 4 ∨ ρ' k = 2 * i + 5 ∨ k = nb) w (w1.setCell ⟨nb, i * 13 + j, none⟩ v) := by
    refine ⟨hU.os, hU.tape, hU.output, by simpa using hU.size, fun k hk hf => ?_⟩
    rw [heap_set_other _ _ _ _ (fun e => hf (.inr (.inr e)))]
    exact hU.block k hk (fun e => hf (by rw [hr k hk]; rcases e with e | e; exact .inl e; exact .inr (.inl e)))
  refine ⟨rows.modify i (fun r => r.set j v), ⟨?_, ?_⟩, by simp [h7], ?_⟩
  · have := owns_set (owns_upd h5 hU (fun k hk => by simp [Value.ownBlock] at hk; subst hk; omega)) (i * 13 + j) v
    rw [show i * 13 + j = 13 * i + j from by omega, flatten_set v h13 _ _ hj] at this
    rw [show i * 13 + j = 13 * i + j from by omega]
    simpa using this
  · intro g hg
    simp [Value.ownBlock] at hg
    subst hg
    rw [hr _ hnbl]; exact hnb
  · intro i' m hm
    have hF : ∀ k, ρ' k = 2 * i' + 4 ∨ ρ' k = 2 * i' + 5 → i' ≠ i → ¬ (ρ' k = 2 * i + 4 ∨ ρ' k = 2 * i + 5 ∨ k = nb) := by
      intro k hk hi hf
      rcases hf with hf | hf | hf
      · omega
      · omega
      · rw [hf, hr nb hnbl] at hk; omega
    simp only [List.getElem?_modify] at hm
    by_cases hi : i = i'
    · subst hi
      obtain ⟨r, hr1, kv, av, hrc, hk, ha⟩ := h8 _ _ hx
      rw [hx] at hm
      simp at hm
      subst hm
      have hc : ∀ jj vv, jj < 13 → (n.cells kv av)[jj]? = some vv → w.cell? ⟨nb, i * 13 + jj, none⟩ = some vv := by
        intro jj vv hjj hvv
        rcases h5.2 with ⟨hq, _⟩ | ⟨g, cap, cur, hv, _, hg, hnn, hcc, hss, htt⟩
        · simp at hq
        · simp at hv
          obtain ⟨rfl, rfl⟩ := hv
          rw [cell_of_row w nb _ cur _ (0, 0) hg]
          have h0 := flatten_get h13 i jj hjj
          rw [hr1, hrc, Option.bind_some, hvv, ← htt, List.getElem?_take] at h0
          split at h0
          · rw [show i * 13 + jj = 13 * i + jj from by omega]; simpa using h0
          · simp at h0
      refine ⟨(n.cells kv av).set j v, by rw [List.getElem?_modify, hr1, hrc]; simp, ?_⟩
      refine (hM kv av hk ha (hc 2 _ (by omega) rfl) (hc 6 _ (by omega) rfl)).upd (F := fun k => k = nb) ⟨rfl, rfl, rfl, by simp, fun k hk hf => heap_set_other _ _ _ _ hf⟩ ?_
      rintro k hk rfl
      rw [hr k hnbl] at hk; omega
    · obtain ⟨r, hr1, hMi⟩ := h8 i' m (by simpa [hi] using hm)
      exact ⟨r, by rw [List.getElem?_modify, hr1]; simp [hi], (hMi.role hr).upd hU2 (fun k hk => hF k hk (Ne.symm hi))⟩

theorem RMem.get_some {A : Ar} {h : Int} (hh : A.has h) : (zeroNd :: A.ns)[h.toNat]? = some (A.get h) := by
  have h1 := Ar.get_some hh
  obtain ⟨h2, h3⟩ := hh
  obtain ⟨m, hm⟩ : ∃ m, h.toNat = m + 1 := ⟨h.toNat - 1, by omega⟩
  rw [hm, List.getElem?_cons_succ]
  rw [hm] at h1
  simpa using h1

/-- What a walk reads of the document's arena. -/
theorem RMem.head {w : World} {ρ : Nat → Nat} {b : Nat} {A : Ar} (h : RMem w ρ b A) : ∃ nb c ib ic, w.cell? ⟨b, 0, none⟩ = some (.slice (some ⟨nb, 0, none⟩) (A.ns.length + 1) c) ∧ w.cell? ⟨b, 1, none⟩ = some (.slice (some ⟨ib, 0, none⟩) (A.ns.length + 1) ic) ∧
    (∀ j, w.frozen? ⟨b, j, none⟩ = false) ∧ b < w.heap.size ∧ ((A.ns.length : Int) + 1 ≤ 9223372036854775807) ∧ A.ns.length + 1 ≤ c ∧ A.ns.length + 1 ≤ ic ∧ ρ nb = 2 ∧ ρ ib = 3 ∧ nb < w.heap.size ∧ ib < w.heap.size ∧ (∀ j, w.frozen? ⟨nb, j, none⟩ = false) ∧ (∀ j, w.frozen? ⟨ib, j, none⟩ = false) ∧
    (∀ x : Int, 0 ≤ x → x ≤ A.n → w.cell? ⟨ib, x.toNat, none⟩ = some (.int .i64 (A.inertAt x))) ∧
    (∃ kv av, NodeF w nb 0 zeroNd kv av) ∧
      ∀ x, A.has x → ∃ kv av, NodeF w nb (x.toNat * 13) (A.get x) kv av ∧ ROwn w ρ (2 * x.toNat + 4) 3 1 kv (A.get x).kids.length ((A.get x).kids.map intv) ∧ ROwn w ρ (2 * x.toNat + 5) 123 3 av (A.get x).attrs.length ((A.get x).attrs.flatMap attrCells) := by
  obtain ⟨h1, h2, h3, nv, iv, h4, h5, h6⟩ := h
  obtain ⟨a, c, rfl, h7, h8, h9⟩ := h5.head
  obtain ⟨nb, rfl, hr, hl, hf, hN⟩ := h9 (by simp)
  obtain ⟨⟨g1, g2⟩, g3⟩ := h6
  rcases g2 with ⟨g4, g5⟩ | ⟨ib, ic, cur, rfl, _, hg, hn, hc, hs, ht⟩
  · omega
  simp only [List.length_cons] at h7 h8
  refine ⟨nb, c, ib, ic, ?_, ?_, fun j => frozen_of_row w b j _ _ h4, lt_of_block h4, by omega, h7, hn, hr, g3 ib rfl, hl, lt_of_block hg, hf, fun j => frozen_of_row w ib j cur _ hg, fun x hx0 hx1 => ?_, ?_, fun x hx => hN _ _ (RMem.get_some hx)⟩
  · rw [cell_of_row w b _ _ _ _ h4]; rfl
  · rw [cell_of_row w b _ _ _ _ h4]; rfl
  · rw [cell_of_row w ib _ cur _ (0, 0) hg]
    unfold Ar.n at hx1
    have hlt : x.toNat < A.inert.length := by omega
    have h0 : (List.map intv A.inert)[x.toNat]? = some (intv (A.inertAt x)) := by
      rw [List.getElem?_map]
      unfold Ar.inertAt
      simp [hlt]
    rw [← ht, List.getElem?_take] at h0
    split at h0
    · simpa [intv] using h0
    · simp at h0
  · obtain ⟨kv, av, F, _⟩ := hN 0 zeroNd (by simp)
    exact ⟨kv, av, by simpa using F⟩

/-- A field of a node of the document's arena is stored. -/
theorem RMem.store {w w1 : World} {ρ ρ' : Nat → Nat} {b : Nat} {A : Ar} {x : Int} {f : Nd → Nd} {j nb c : Nat} {v : Value} (hA : RMem w ρ b A) (hx : A.has x)
    (hc0 : w.cell? ⟨b, 0, none⟩ = some (.slice (some ⟨nb, 0, none⟩) (A.ns.length + 1) c)) (hU : Upd (fun k => ρ k = 2 * x.toNat + 4 ∨ ρ k = 2 * x.toNat + 5) w w1)
    (hr : ∀ k, k < w.heap.size → ρ' k = ρ k) (hb : ∀ k, ρ' k ≠ 0 → k < w1.heap.size) (hj : j < 13)
    (hM : ∀ kv av, ROwn w ρ (2 * x.toNat + 4) 3 1 kv (A.get x).kids.length ((A.get x).kids.map intv) → ROwn w ρ (2 * x.toNat + 5) 123 3 av (A.get x).attrs.length ((A.get x).attrs.flatMap attrCells) →
      w.cell? ⟨nb, x.toNat * 13 + 2, none⟩ = some kv → w.cell? ⟨nb, x.toNat * 13 + 6, none⟩ = some av → NodeM w1 ρ' 123 x.toNat (f (A.get x)) (((A.get x).cells kv av).set j v)) :
    RMem (w1.setCell ⟨nb, x.toNat * 13 + j, none⟩ v) ρ' b (A.mod x f) ∧ Turn ρ ρ' w (w1.setCell ⟨nb, x.toNat * 13 + j, none⟩ v) := by
  obtain ⟨h1, h2, h3, nv, iv, h4, h5, h6⟩ := hA
  rw [cell_of_row w b _ _ _ _ h4] at hc0
  simp at hc0
  subst hc0
  have hnb : ρ nb = 2 := by obtain ⟨rows, ⟨_, q⟩, _⟩ := h5; exact q nb rfl
  have hnbl : nb < w.heap.size := h1 nb (by omega)
  have hbl := lt_of_block h4
  have hbn : nb ≠ b := by intro e; rw [e] at hnb; omega
  have hp := hx.1
  have hU2 : Upd (fun k => ρ k = 2 * x.toNat + 4 ∨ ρ k = 2 * x.toNat + 5 ∨ k = nb) w (w1.setCell ⟨nb, x.toNat * 13 + j, none⟩ v) := by
    refine ⟨hU.os, hU.tape, hU.output, by simpa using hU.size, fun k hk hf => ?_⟩
    rw [heap_set_other _ _ _ _ (fun e => hf (.inr (.inr e)))]
    exact hU.block k hk (fun e => hf (by rcases e with e | e; exact .inl e; exact .inr (.inl e)))
  have hst := NodesM.store (f := f) (w1 := w1) (ρ' := ρ') (v := v) (j := j) (c := c) (nb := nb) h5 (RMem.get_some hx) hU hr hj hM
  refine ⟨⟨fun k hk => by simpa using hb k hk, (hr b hbl).trans h2, by simp [Ar.mod, h3], .slice (some ⟨nb, 0, none⟩) (A.ns.length + 1) c, iv, ?_, ?_, ?_⟩, ⟨hU2.mono (fun k _ hk => ?_), hr⟩⟩
  · rw [heap_set_other _ _ _ _ (Ne.symm hbn), hU.block b hbl (by omega)]; exact h4
  · have e : (zeroNd :: A.ns).modify x.toNat f = zeroNd :: (A.mod x f).ns := by
      obtain ⟨m, hm⟩ : ∃ m, x.toNat = m + 1 := ⟨x.toNat - 1, by omega⟩
      simp [Ar.mod, hm]
    rw [e] at hst
    simpa using hst
  · have : ROwn (w1.setCell ⟨nb, x.toNat * 13 + j, none⟩ v) ρ' 3 3 1 iv (A.ns.length + 1) (A.inert.map intv) := by
      refine (h6.role hr).upd hU2 ?_
      rintro k hk (e | e | rfl)
      · by_cases hkl : k < w.heap.size
        · rw [hr k hkl] at hk; omega
        · have := h1 k (by omega); omega
      · by_cases hkl : k < w.heap.size
        · rw [hr k hkl] at hk; omega
        · have := h1 k (by omega); omega
      · rw [hr k hnbl] at hk; omega
    simpa [Ar.mod] using this
  · rcases hk with hk | hk | hk
    · omega
    · omega
    · rw [hk]; omega

end Go.Proofs.YtnfdcfagdidmhaaGreatDoor
