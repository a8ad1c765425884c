/-
  The document's Own, Nodes.
-/
import Derived.Test.YtnfdcfagdidmhaaGreatDoorR13
namespace Go.Proofs.YtnfdcfagdidmhaaGreatDoor
open Go.RowKit
set_option linter.unusedVariables false

theorem wpList_append_nil {P : Program} (w : World) {ops : Array Oper} {rest : List Oper} {o : Oper} {a : Act} {Q : Exit → Act → World → Prop} (hgd : o.guard = none) (s x : Operand) (t : TypeId)
    (ho : o.op = .call { callee := .builtin .append, args := #[s, x], argTypes := #[t, t] }) (e : TypeId) (i : TypeInfo) (ht : P.underlying t = some (.slice e)) (hi : P.info? e = some i)
    (hs : a.eval s = .slice none 0 0) (hx : a.eval x = .slice none 0 0) (h : wpList P ops Q rest (a.put o.dst (.slice none 0 0)) w) : wpList P ops Q (o :: rest) a w := by
  refine wpList_plain hgd fun K hK => ?_
  have hr := run_append_owned_none (P := P) w 0 t o.type e i 1 ht hi (.slice none 0 0) 0 [] (World.ownsRow_nil _ _ _ _)
  unfold Oper.wp execOp
  simp only [ho, resolve, invoke, builtin, Sem.run_bind, Sem.run_pure, Result.andThen_ok, List.map_toArray, List.map_cons, List.map_nil, hs, hx, hr]
  exact hK _ _ h

/-- What a list of a node is: nil, or a row. -/
theorem owns_cases {w : World} {e : TypeId} {size : Nat} {v : Value} {n : Nat} {xs : List Value} (h : w.ownsRow 0 e size v n xs) : (v = .slice none 0 0 ∧ n = 0 ∧ xs = []) ∨ ∃ g c, v = .slice (some ⟨g, 0, none⟩) n c ∧ ∀ j u, xs[j]? = some u → w.cell? ⟨g, j, none⟩ = some u := by
  rcases h.2 with ⟨rfl, rfl⟩ | ⟨g, cap, cur, rfl, _, hg, _, _, _, ht⟩
  · exact .inl ⟨rfl, rfl, List.length_eq_zero_iff.1 (by simpa using h.1)⟩
  · refine .inr ⟨g, cap, rfl, fun j u hj => ?_⟩
    rw [cell_of_row w g j cur e (0, 0) hg]
    rw [← ht, List.getElem?_take] at hj
    split at hj
    · simpa using hj
    · simp at hj

/-- A copy by 'append(nil, s...)'. -/
theorem wpList_append_copy {P : Program} (w : World) {ops : Array Oper} {rest : List Oper} {o : Oper} {a : Act} {Q : Exit → Act → World → Prop} (hgd : o.guard = none) (s x : Operand) (t : TypeId)
    (ho : o.op = .call { callee := .builtin .append, args := #[s, x], argTypes := #[t, t] }) (base : Nat) (e : TypeId) (i : TypeInfo) (z : Value) (size bytes : Nat) (ht : P.underlying t = some (.slice e)) (hi : P.info? e = some i) (hz : i.zero = some z) (hsize : i.size = size) (hby : i.bytes = bytes) (hzs : z.cells.size = size) (hsz : 0 < size)
    (v : Value) (n : Nat) (xs : List Value) (hs : a.eval s = .slice none 0 0) (hx : a.eval x = v) (hown : w.ownsRow 0 e size v n xs) (h1 : ∀ u ∈ xs, u.oneCell' = true) (hn : n ≤ 1000000) (hbytes : bytes ≤ 1000) (hbase : base ≤ w.heap.size)
    (h : ∀ v' w', w'.ownsRow base e size v' n xs → w.grownBy w' none → wpList P ops Q rest (a.put o.dst v') w') : wpList P ops Q (o :: rest) a w := by
  have hl := hown.1
  rcases owns_cases hown with ⟨rfl, rfl, rfl⟩ | ⟨g, c, rfl, hc⟩
  · exact wpList_append_nil w hgd s x t ho e i ht hi hs hx (h _ _ (World.ownsRow_nil _ _ _ _) (World.grownBy.refl w none))
  · refine wpList_append_own w hgd s x t ho base e i z size bytes ht hi hz hsize hby hzs hsz (.slice none 0 0) 0 [] hs (World.ownsRow_nil _ _ _ _) ⟨g, 0, none⟩ n c xs hx hl (fun j u hj => by rw [Addr.add_mid, Nat.zero_add]; exact hc j u hj) h1 (by unfold maxLen; omega) ?_ hbase (fun v' w' q1 q2 _ => h v' w' (by simpa using q1) q2)
    calc (0 + n) * bytes ≤ 1000000 * 1000 := Nat.mul_le_mul (by omega) hbytes
      _ ≤ 140737488355328 := by omega

end Go.Proofs.YtnfdcfagdidmhaaGreatDoor
