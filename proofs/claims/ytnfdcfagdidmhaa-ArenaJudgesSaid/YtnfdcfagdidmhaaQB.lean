/-
  A region that draws its order, whose operations only read and whose calls make memory of their own: one walk in the text's order. No program here.
-/
import Derived.Test.YtnfdcfagdidmhaaGE
import Derived.BigQuiet
namespace Go.Proofs.Ytnfdcfagdidmhaa
open Go.RowKit
set_option linter.unusedVariables false

/-- The worlds in which all that was there is as it was. -/
def Wld (w : World) : Type := { W : World // Below w.heap.size w W }
theorem Wld.inh (w : World) : Nonempty (Wld w) := ⟨⟨w, Below.refl _ _⟩⟩
instance instWld (w : World) : Nonempty (Wld w) := Wld.inh w

theorem Wld.cell {w : World} {p : Addr} {v : Value} (h : w.cell? p = some v) : ∀ x : Wld w, x.val.cell? p = some v := fun x => Below.old x.2 h

theorem Wld.call {P : Program} {f : FuncId} {args : Array Value} {w : World} {x : Wld w} {v : Value}
    (h : Calls P f args x.val fun e w' => e = .returned v ∧ Below x.val.heap.size x.val w') : Calls P f args x.val fun e w'' => e = .returned v ∧ ∃ y : Wld w, w'' = y.val :=
  h.mono fun _ w' ⟨he, hB⟩ => ⟨he, ⟨⟨w', x.2.trans (hB.mono x.2.size)⟩, rfl⟩⟩
theorem Wld.same {P : Program} {f : FuncId} {args : Array Value} {w : World} {x : Wld w} {v : Value}
    (h : Calls P f args x.val fun e w' => e = .returned v ∧ x.val = w') : Calls P f args x.val fun e w'' => e = .returned v ∧ ∃ y : Wld w, w'' = y.val :=
  h.mono fun _ w' ⟨he, hB⟩ => ⟨he, ⟨x, hB.symm⟩⟩

theorem wp_region_below_lit {P : Program} {id : Nat} {Q : Exit → Act → World → Prop} {a : Act} {w : World} {l : List Oper} (hm : P.follows .mixedOrders = true) (hB : Region.lexB .any l.toArray = true)
    (h : wpQuiet P l.toArray (fun W => ∃ x : Wld w, W = x.val) (fun a' => ∀ W, (∃ x : Wld w, W = x.val) → Q .normal a' W) l a) : (Code.region id l.toArray true).wp P Q a w :=
  wp_region_quiet (C := fun W => ∃ x : Wld w, W = x.val) hm hB ⟨⟨w.drew, Below.drew (Below.refl _ _)⟩, rfl⟩ (by simpa using h)

/-- A description is copied into a new box. -/
theorem nodeBoxF (w : World) (n : Nd) (kv av : Value) : NodeF ((w.alloc (.cells zcells 36)).setCells w.heap.size 0 (n.cells kv av)) w.heap.size 0 n kv av ∧
    Below w.heap.size w ((w.alloc (.cells zcells 36)).setCells w.heap.size 0 (n.cells kv av)) := by
  have o := (Own.start w).nodeBox n kv av
  refine ⟨?_, o.low⟩
  have h := o.box (g := w.heap.size) (o := .cells (n.cells kv av).toArray 36 (0, 0)) (by simp)
  have c : ∀ j v, (n.cells kv av)[j]? = some v → ((w.alloc (.cells zcells 36)).setCells w.heap.size 0 (n.cells kv av)).cell? ⟨w.heap.size, 0 + j, none⟩ = some v := fun j v hj => by
    rw [cell_of_row _ _ _ _ _ _ h, Nat.zero_add]; simpa using hj
  exact ⟨c 0 _ rfl, c 1 _ rfl, c 2 _ rfl, c 3 _ rfl, c 4 _ rfl, c 5 _ rfl, c 6 _ rfl, c 7 _ rfl, c 8 _ rfl, c 9 _ rfl, c 10 _ rfl, c 11 _ rfl, c 12 _ rfl⟩

end Go.Proofs.Ytnfdcfagdidmhaa
