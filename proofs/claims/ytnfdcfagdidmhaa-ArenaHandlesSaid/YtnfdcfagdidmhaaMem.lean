/-
  What lies in memory, and what a call leaves of it: no program here.
-/
import Derived.WalkKit
import Derived.WalkSpells
import Derived.WalkLawsBesides
import Derived.Lib.Hide
namespace Go.Proofs.Ytnfdcfagdidmhaa
open Go.RowKit

/-- w' is w but for the blocks in F and for new blocks. -/
structure Upd (F : Nat → Prop) (w w' : World) : Prop where
  os : w'.os = w.os
  tape : w'.tape = w.tape
  output : w'.output = w.output
  size : w.heap.size ≤ w'.heap.size
  block : ∀ k, k < w.heap.size → ¬ F k → w'.heap[k]? = w.heap[k]?

theorem Upd.refl (F : Nat → Prop) (w : World) : Upd F w w := ⟨rfl, rfl, rfl, Nat.le_refl _, fun _ _ _ => rfl⟩
theorem Upd.trans {F : Nat → Prop} {a b c : World} (h : Upd F a b) (k : Upd F b c) : Upd F a c :=
  ⟨k.os.trans h.os, k.tape.trans h.tape, k.output.trans h.output, Nat.le_trans h.size k.size, fun i hi hf => (k.block i (Nat.lt_of_lt_of_le hi h.size) hf).trans (h.block i hi hf)⟩
theorem Upd.mono {F G : Nat → Prop} {w w' : World} (h : Upd F w w') (hs : ∀ k, k < w.heap.size → F k → G k) : Upd G w w' :=
  ⟨h.os, h.tape, h.output, h.size, fun k hk hg => h.block k hk (fun hf => hg (hs k hk hf))⟩
theorem Upd.below {F : Nat → Prop} {w w' : World} (h : Below w.heap.size w w') : Upd F w w' := ⟨h.os, h.tape, h.output, h.size, fun k hk _ => h.block k hk⟩
theorem Upd.toBelow {F : Nat → Prop} {w w' : World} (h : Upd F w w') (hF : ∀ k, k < w.heap.size → ¬ F k) : Below w.heap.size w w' := ⟨h.os, h.tape, h.output, h.size, fun k hk => h.block k hk (hF k hk)⟩
theorem Upd.drew {F : Nat → Prop} {a w : World} (h : Upd F a w) : Upd F a w.drew := ⟨h.os, h.tape, h.output, h.size, h.block⟩
theorem Upd.drewN {F : Nat → Prop} {a w : World} (h : Upd F a w) (n : Nat) : Upd F a (w.drewN n) := ⟨h.os, h.tape, h.output, h.size, h.block⟩
theorem Upd.alloc {F : Nat → Prop} {a w : World} (h : Upd F a w) (o : Obj) : Upd F a (w.alloc o) :=
  h.trans ⟨rfl, rfl, rfl, by simp, fun k hk _ => Below.heap_alloc _ _ _ hk⟩
theorem Upd.setCell {F : Nat → Prop} {a w : World} (h : Upd F a w) {p : Addr} (hp : a.heap.size ≤ p.block ∨ F p.block) (u : Value) : Upd F a (w.setCell p u) :=
  ⟨h.os, h.tape, h.output, by simpa using h.size, fun k hk hf => by
    rw [Below.heap_setCell _ _ _ _ (by intro e; subst e; exact hp.elim (fun hp => by omega) hf)]; exact h.block k hk hf⟩
theorem Upd.grown {F : Nat → Prop} {w w' : World} {row : Option Nat} (hg : w.grownBy w' row) (hr : ∀ k, row = some k → F k) : Upd F w w' :=
  ⟨hg.os, hg.tape, hg.output, hg.size, fun k hk hf => hg.block k hk (fun e => hf (hr k e.symm))⟩
theorem Upd.cell {F : Nat → Prop} {w w' : World} (h : Upd F w w') {p : Addr} {v : Value} (hv : w.cell? p = some v) (hp : ¬ F p.block) : w'.cell? p = some v :=
  (World.cell?_of_block (w := w) (h.block p.block (World.block_lt_of_cell? w _ hv) hp)).trans hv
theorem Upd.free {F : Nat → Prop} {w w' : World} (h : Upd F w w') {p : Addr} {x : Bool} (hlt : p.block < w.heap.size) (hv : w.frozen? p = x) (hp : ¬ F p.block) : w'.frozen? p = x :=
  (World.frozen?_of_block (w := w) (h.block p.block hlt hp)).trans hv
theorem Below.drewN {B : Nat} {a w : World} (h : Below B a w) (n : Nat) : Below B a (w.drewN n) := ⟨h.os, h.tape, h.output, h.size, h.block⟩
theorem Below.old {w w' : World} (h : Below w.heap.size w w') {p : Addr} {v : Value} (hv : w.cell? p = some v) : w'.cell? p = some v :=
  (h.cell (World.block_lt_of_cell? w _ hv)).trans hv
theorem Below.from0 {w a w' : World} (h : Below w.heap.size w a) (k : Below a.heap.size a w') : Below w.heap.size w w' := h.trans (k.mono h.size)

/-- The slice value v has n elements of 'size' cells each, and they read as xs. -/
def RCells (w : World) (v : Value) (n size : Nat) (xs : List Value) : Prop :=
  xs.length = n * size ∧ ∃ a c, v = .slice a n c ∧ n ≤ c ∧ c ≤ maxLen ∧ (0 < n → ∃ b o, a = some ⟨b, o, none⟩ ∧ ∀ j x, xs[j]? = some x → w.cell? ⟨b, o + j, none⟩ = some x)

theorem RCells.upd {F : Nat → Prop} {w w' : World} {v : Value} {n size : Nat} {xs : List Value} (h : RCells w v n size xs) (hb : Upd F w w') (hF : ∀ a m c, v = .slice (some a) m c → ¬ F a.block) : RCells w' v n size xs := by
  obtain ⟨h1, a, c, h2, h3, h4, h5⟩ := h
  refine ⟨h1, a, c, h2, h3, h4, fun hn => ?_⟩
  obtain ⟨b, o, h6, h7⟩ := h5 hn
  subst h6
  exact ⟨b, o, rfl, fun j x hx => hb.cell (h7 j x hx) (hF ⟨b, o, none⟩ _ _ h2)⟩
theorem RCells.below {w w' : World} {v : Value} {n size : Nat} {xs : List Value} (h : RCells w v n size xs) (hb : Below w.heap.size w w') : RCells w' v n size xs :=
  h.upd (F := fun _ => False) (Upd.below hb) (fun _ _ _ _ => id)

def intv (n : Int) : Value := .int .i64 n
abbrev AttrD := Int × ByteArray × ByteArray
def attrCells (a : AttrD) : List Value := [.int .i64 a.1, .string a.2.1, .string a.2.2]

/-- A slice of ints. -/
def RInts (w : World) (v : Value) (l : List Int) : Prop := RCells w v l.length 1 (l.map intv)
/-- A slice of attributes. -/
def RAttrs (w : World) (v : Value) (l : List AttrD) : Prop := RCells w v l.length 3 (l.flatMap attrCells)
theorem RInts.below {w w' : World} {v : Value} {l : List Int} (h : RInts w v l) (hb : Below w.heap.size w w') : RInts w' v l := RCells.below h hb
theorem RAttrs.below {w w' : World} {v : Value} {l : List AttrD} (h : RAttrs w v l) (hb : Below w.heap.size w w') : RAttrs w' v l := RCells.below h hb

theorem RInts.form {w : World} {v : Value} {l : List Int} (h : RInts w v l) : ∃ a c, v = .slice a l.length c ∧ l.length ≤ c ∧ c ≤ 9223372036854775807 ∧
    (0 < l.length → ∃ b o, a = some ⟨b, o, none⟩ ∧ ∀ j, j < l.length → w.cell? ⟨b, o + j, none⟩ = some (.int .i64 (l[j]?.getD 0))) := by
  obtain ⟨h1, a, c, h2, h3, h4, h5⟩ := h
  refine ⟨a, c, h2, h3, h4, fun hn => ?_⟩
  obtain ⟨b, o, h6, h7⟩ := h5 hn
  refine ⟨b, o, h6, fun j hj => h7 j _ ?_⟩
  simp [hj, intv]

theorem flatten_get {s : Nat} : ∀ {rows : List (List Value)}, (∀ r ∈ rows, r.length = s) → ∀ (i j : Nat), j < s → rows.flatten[s * i + j]? = (rows[i]?).bind (fun r => r[j]?)
  | [], _, i, j, _ => by simp
  | r :: rows, h, i, j, hj => by
    have hr : r.length = s := h r (by simp)
    cases i with
    | zero => simp [List.getElem?_append, hr, hj]
    | succ i =>
      have := flatten_get (rows := rows) (fun r hr => h r (by simp [hr])) i j hj
      rw [List.flatten_cons, List.getElem?_append_right (by rw [hr, Nat.mul_succ]; omega), hr, show s * (i + 1) + j - s = s * i + j from by rw [Nat.mul_succ]; omega, this]
      simp

theorem flatten_set {s : Nat} (v : Value) : ∀ {rows : List (List Value)}, (∀ r ∈ rows, r.length = s) → ∀ (i j : Nat), j < s → rows.flatten.set (s * i + j) v = (rows.modify i (fun r => r.set j v)).flatten
  | [], _, i, j, _ => by simp
  | r :: rows, h, i, j, hj => by
    have hr : r.length = s := h r (by simp)
    cases i with
    | zero => simp [hr, hj]
    | succ i =>
      have := flatten_set v (rows := rows) (fun r hr => h r (by simp [hr])) i j hj
      rw [List.flatten_cons, List.set_append_right _ _ (by rw [hr, Nat.mul_succ]; omega), hr, show s * (i + 1) + j - s = s * i + j from by rw [Nat.mul_succ]; omega, this]
      simp

theorem attr_rows (l : List AttrD) : l.flatMap attrCells = (l.map attrCells).flatten := by simp [List.flatMap]
theorem attr_get {l : List AttrD} {i : Nat} {a : AttrD} (h : l[i]? = some a) (j : Nat) (hj : j < 3) : (l.flatMap attrCells)[3 * i + j]? = (attrCells a)[j]? := by
  rw [attr_rows, flatten_get (by intro r hr; simp at hr; obtain ⟨x, y, z, _, rfl⟩ := hr; rfl) i j hj]
  simp [h]

theorem RAttrs.form {w : World} {v : Value} {l : List AttrD} (h : RAttrs w v l) : ∃ a c, v = .slice a l.length c ∧ l.length ≤ c ∧ c ≤ 9223372036854775807 ∧
    (0 < l.length → ∃ b o, a = some ⟨b, o, none⟩ ∧ ∀ j x, l[j]? = some x → w.cell? ⟨b, o + j * 3, none⟩ = some (.int .i64 x.1) ∧ w.cell? ⟨b, o + j * 3 + 1, none⟩ = some (.string x.2.1) ∧ w.cell? ⟨b, o + j * 3 + 2, none⟩ = some (.string x.2.2)) := by
  obtain ⟨h1, a, c, h2, h3, h4, h5⟩ := h
  refine ⟨a, c, h2, h3, h4, fun hn => ?_⟩
  obtain ⟨b, o, h6, h7⟩ := h5 hn
  refine ⟨b, o, h6, fun j x hx => ⟨?_, ?_, ?_⟩⟩
  · have := h7 (3 * j + 0) (.int .i64 x.1) (by rw [attr_get hx 0 (by omega)]; rfl)
    rwa [show o + (3 * j + 0) = o + j * 3 from by omega] at this
  · have := h7 (3 * j + 1) (.string x.2.1) (by rw [attr_get hx 1 (by omega)]; rfl)
    rwa [show o + (3 * j + 1) = o + j * 3 + 1 from by omega] at this
  · have := h7 (3 * j + 2) (.string x.2.2) (by rw [attr_get hx 2 (by omega)]; rfl)
    rwa [show o + (3 * j + 2) = o + j * 3 + 2 from by omega] at this

/-- A slice value that owns its row, whose block bears the role r. -/
def ROwn (w : World) (ρ : Nat → Nat) (r : Nat) (e : TypeId) (size : Nat) (v : Value) (n : Nat) (xs : List Value) : Prop :=
  w.ownsRow 0 e size v n xs ∧ ∀ g, v.ownBlock = some g → ρ g = r

theorem ROwn.reads {w : World} {ρ : Nat → Nat} {r : Nat} {e : TypeId} {size : Nat} {v : Value} {n : Nat} {xs : List Value} (h : ROwn w ρ r e size v n xs) : RCells w v n size xs := by
  obtain ⟨⟨h1, h2⟩, h3⟩ := h
  refine ⟨h1, ?_⟩
  rcases h2 with ⟨rfl, rfl⟩ | ⟨g, cap, cur, rfl, _, hg, hn, hc, hs, ht⟩
  · exact ⟨none, 0, rfl, Nat.le_refl _, Nat.zero_le _, fun h => absurd h (by simp)⟩
  · refine ⟨_, cap, rfl, hn, hc, fun _ => ⟨g, 0, rfl, fun j x hx => ?_⟩⟩
    rw [cell_of_row w g _ cur e (0, 0) hg]
    rw [← ht, List.getElem?_take] at hx
    split at hx
    · simpa using hx
    · simp at hx

theorem ROwn.upd {F : Nat → Prop} {w w' : World} {ρ : Nat → Nat} {r : Nat} {e : TypeId} {size : Nat} {v : Value} {n : Nat} {xs : List Value} (h : ROwn w ρ r e size v n xs) (hu : Upd F w w') (hF : ∀ k, ρ k = r → ¬ F k) : ROwn w' ρ r e size v n xs := by
  obtain ⟨⟨h1, h2⟩, h3⟩ := h
  refine ⟨⟨h1, ?_⟩, h3⟩
  rcases h2 with h2 | ⟨g, cap, cur, rfl, hb, hg, hr⟩
  · exact Or.inl h2
  · refine Or.inr ⟨g, cap, cur, rfl, hb, ?_, hr⟩
    rw [hu.block g (lt_of_block hg) (hF g (h3 g rfl))]; exact hg

/-- The roles of blocks stay, but for new blocks. -/
theorem ROwn.role {w : World} {ρ ρ' : Nat → Nat} {r : Nat} {e : TypeId} {size : Nat} {v : Value} {n : Nat} {xs : List Value} (h : ROwn w ρ r e size v n xs) (hr : ∀ k, k < w.heap.size → ρ' k = ρ k) : ROwn w ρ' r e size v n xs := by
  refine ⟨h.1, fun g hg => ?_⟩
  rw [hr g ?_]; exact h.2 g hg
  rcases h.1.2 with ⟨rfl, _⟩ | ⟨g', cap, cur, rfl, _, hg', _⟩
  · simp [Value.ownBlock] at hg
  · simp [Value.ownBlock] at hg; subst hg; exact lt_of_block hg'

/-- One description of a node, its slices apart. -/
structure Nd where
  kind : Int
  parent : Int
  kids : List Int
  doc : Int
  space : Int
  name : ByteArray
  attrs : List AttrD
  data : ByteArray
  pub : ByteArray
  sys : ByteArray
  quirks : Bool
  contents : Int
  host : Int

def Nd.cells (n : Nd) (kv av : Value) : List Value :=
  [.int .i64 n.kind, .int .i64 n.parent, kv, .int .i64 n.doc, .int .i64 n.space, .string n.name, av, .string n.data, .string n.pub, .string n.sys, .bool n.quirks, .int .i64 n.contents, .int .i64 n.host]
theorem Nd.cells_length (n : Nd) (kv av : Value) : (n.cells kv av).length = 13 := rfl

def zeroNd : Nd := ⟨0, 0, [], 0, 0, ByteArray.empty, [], ByteArray.empty, ByteArray.empty, ByteArray.empty, false, 0, 0⟩
instance : Inhabited Nd := ⟨zeroNd⟩

/-- A node as a value. -/
def RNode (w : World) (v : Value) (n : Nd) : Prop := ∃ kv av, v = .agg (n.cells kv av).toArray ∧ RInts w kv n.kids ∧ RAttrs w av n.attrs
theorem RNode.below {w w' : World} {v : Value} {n : Nd} (h : RNode w v n) (hb : Below w.heap.size w w') : RNode w' v n := by
  obtain ⟨kv, av, h1, h2, h3⟩ := h; exact ⟨kv, av, h1, h2.below hb, h3.below hb⟩

/-- Node number i of an arena: its row of cells, the arrays of its lists. -/
def NodeM (w : World) (ρ : Nat → Nat) (eA : TypeId) (i : Nat) (n : Nd) (r : List Value) : Prop :=
  ∃ kv av, r = n.cells kv av ∧ ROwn w ρ (2 * i + 4) 3 1 kv n.kids.length (n.kids.map intv) ∧ ROwn w ρ (2 * i + 5) eA 3 av n.attrs.length (n.attrs.flatMap attrCells)

/-- The slice value nv of nodes. -/
def NodesM (w : World) (ρ : Nat → Nat) (e eA : TypeId) (nv : Value) (ns : List Nd) : Prop :=
  ∃ rows : List (List Value), ROwn w ρ 2 e 13 nv ns.length rows.flatten ∧ rows.length = ns.length ∧ ∀ i n, ns[i]? = some n → ∃ r, rows[i]? = some r ∧ NodeM w ρ eA i n r

theorem NodeM.len {w : World} {ρ : Nat → Nat} {eA : TypeId} {i : Nat} {n : Nd} {r : List Value} (h : NodeM w ρ eA i n r) : r.length = 13 := by
  obtain ⟨kv, av, rfl, _⟩ := h; rfl
theorem NodeM.upd {F : Nat → Prop} {w w' : World} {ρ : Nat → Nat} {eA : TypeId} {i : Nat} {n : Nd} {r : List Value} (h : NodeM w ρ eA i n r) (hu : Upd F w w') (hF : ∀ k, ρ k = 2 * i + 4 ∨ ρ k = 2 * i + 5 → ¬ F k) : NodeM w' ρ eA i n r := by
  obtain ⟨kv, av, h1, h2, h3⟩ := h
  exact ⟨kv, av, h1, h2.upd hu (fun k hk => hF k (.inl hk)), h3.upd hu (fun k hk => hF k (.inr hk))⟩
theorem NodeM.role {w : World} {ρ ρ' : Nat → Nat} {eA : TypeId} {i : Nat} {n : Nd} {r : List Value} (h : NodeM w ρ eA i n r) (hr : ∀ k, k < w.heap.size → ρ' k = ρ k) : NodeM w ρ' eA i n r := by
  obtain ⟨kv, av, h1, h2, h3⟩ := h
  exact ⟨kv, av, h1, h2.role hr, h3.role hr⟩
theorem NodesM.rows13 {w : World} {ρ : Nat → Nat} {eA : TypeId} {ns : List Nd} {rows : List (List Value)} (hl : rows.length = ns.length) (h : ∀ i n, ns[i]? = some n → ∃ r, rows[i]? = some r ∧ NodeM w ρ eA i n r) : ∀ r ∈ rows, r.length = 13 := by
  intro r hr
  obtain ⟨i, hi, rfl⟩ := List.getElem_of_mem hr
  obtain ⟨r', h1, h2⟩ := h i (ns[i]'(by omega)) (List.getElem?_eq_getElem _)
  rw [List.getElem?_eq_getElem hi] at h1
  simp at h1; rw [h1]; exact h2.len
theorem NodesM.upd {F : Nat → Prop} {w w' : World} {ρ : Nat → Nat} {e eA : TypeId} {nv : Value} {ns : List Nd} (h : NodesM w ρ e eA nv ns) (hu : Upd F w w') (hF : ∀ k, ρ k ≠ 0 → ¬ F k) : NodesM w' ρ e eA nv ns := by
  obtain ⟨rows, h1, h2, h3⟩ := h
  refine ⟨rows, h1.upd hu (fun k hk => hF k (by omega)), h2, fun i n hn => ?_⟩
  obtain ⟨r, h4, h5⟩ := h3 i n hn
  exact ⟨r, h4, h5.upd hu (fun k hk => hF k (by omega))⟩
theorem NodesM.role {w : World} {ρ ρ' : Nat → Nat} {e eA : TypeId} {nv : Value} {ns : List Nd} (h : NodesM w ρ e eA nv ns) (hr : ∀ k, k < w.heap.size → ρ' k = ρ k) : NodesM w ρ' e eA nv ns := by
  obtain ⟨rows, h1, h2, h3⟩ := h
  refine ⟨rows, h1.role hr, h2, fun i n hn => ?_⟩
  obtain ⟨r, h4, h5⟩ := h3 i n hn
  exact ⟨r, h4, h5.role hr⟩

theorem RInts_new1 (w : World) (x : Int) (t : TypeId) : RInts (w.alloc (.cells #[.int .i64 x] t)) (.slice (some ⟨w.heap.size, 0, none⟩) 1 1) [x] := by
  refine ⟨rfl, _, 1, rfl, Nat.le_refl _, by unfold maxLen; omega, fun _ => ⟨_, _, rfl, fun j y hy => ?_⟩⟩
  rw [Nat.zero_add]
  match j, hy with
  | 0, hy => simp [intv] at hy; subst hy; simp
theorem RInts_new2 (w : World) (x y : Int) (t : TypeId) : RInts (w.alloc (.cells #[.int .i64 x, .int .i64 y] t)) (.slice (some ⟨w.heap.size, 0, none⟩) 2 2) [x, y] := by
  refine ⟨rfl, _, 2, rfl, Nat.le_refl _, by unfold maxLen; omega, fun _ => ⟨_, _, rfl, fun j z hz => ?_⟩⟩
  rw [Nat.zero_add]
  match j, hz with
  | 0, hz => simp [intv] at hz; subst hz; simp
  | 1, hz => simp [intv] at hz; subst hz; simp
theorem below_alloc (w : World) (o : Obj) : Below w.heap.size w (w.alloc o) := (Below.refl _ w).alloc (Nat.le_refl _) o

theorem str_inj {a b : ByteArray} (h : a.toList = b.toList) : a = b := by
  rw [Go.ByteArray.toList_eq, Go.ByteArray.toList_eq] at h
  exact ByteArray.ext (Array.toList_inj.1 h)
theorem str_beq (a b : ByteArray) : (a.toList == b.toList) = decide (a = b) := by
  rw [Bool.eq_iff_iff]; simp; exact ⟨str_inj, fun h => by rw [h]⟩

theorem RInts_new1' {w : World} {b : Nat} (x : Int) (t : TypeId) (hb : b = w.heap.size) : RInts (w.alloc (.cells #[.int .i64 x] t)) (.slice (some ⟨b, 0, none⟩) 1 1) [x] := by subst hb; exact RInts_new1 w x t
theorem RInts_new2' {w : World} {b : Nat} (x y : Int) (t : TypeId) (hb : b = w.heap.size) : RInts (w.alloc (.cells #[.int .i64 x, .int .i64 y] t)) (.slice (some ⟨b, 0, none⟩) 2 2) [x, y] := by subst hb; exact RInts_new2 w x y t
theorem cell_new' {w : World} {b j : Nat} {c : Array Value} {t : TypeId} {v : Value} (hb : b = w.heap.size) (hv : c[j]? = some v) : (w.alloc (.cells c t)).cell? ⟨b, j, none⟩ = some v := by
  subst hb; rw [World.cell?_alloc_new]; exact hv
theorem cell_old' {w : World} {a : Addr} {v : Value} (o : Obj) (h : w.cell? a = some v) : (w.alloc o).cell? a = some v := Below.old (below_alloc w o) h

theorem owns_below {w w' : World} {base : Nat} {e : TypeId} {size : Nat} {v : Value} {n : Nat} {xs : List Value} (h : w.ownsRow base e size v n xs) (hu : Below w.heap.size w w') : w'.ownsRow base e size v n xs := by
  refine ⟨h.1, ?_⟩
  rcases h.2 with h2 | ⟨g, cap, cur, rfl, hb, hg, hr⟩
  · exact Or.inl h2
  · exact Or.inr ⟨g, cap, cur, rfl, hb, by rw [hu.block g (lt_of_block hg)]; exact hg, hr⟩
theorem owns_base {w : World} {base base' : Nat} {e : TypeId} {size : Nat} {v : Value} {n : Nat} {xs : List Value} (h : w.ownsRow base e size v n xs) (hb : base' ≤ base) : w.ownsRow base' e size v n xs := by
  refine ⟨h.1, ?_⟩
  rcases h.2 with h2 | ⟨g, cap, cur, h3, hg, hr⟩
  · exact Or.inl h2
  · exact Or.inr ⟨g, cap, cur, h3, Nat.le_trans hb hg, hr⟩
theorem owns_block {w : World} {base : Nat} {e : TypeId} {size : Nat} {v : Value} {n : Nat} {xs : List Value} (h : w.ownsRow base e size v n xs) : ∀ k, v.ownBlock = some k → base ≤ k ∧ k < w.heap.size := by
  intro k hk
  rcases h.2 with ⟨rfl, _⟩ | ⟨g, cap, cur, rfl, hg, hb, _⟩
  · simp [Value.ownBlock] at hk
  · simp [Value.ownBlock] at hk; subst hk; exact ⟨hg, lt_of_block hb⟩

end Go.Proofs.Ytnfdcfagdidmhaa
