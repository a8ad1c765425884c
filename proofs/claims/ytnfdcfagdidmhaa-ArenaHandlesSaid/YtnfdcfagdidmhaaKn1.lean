/-
  The law's known.
-/
import Derived.Test.YtnfdcfagdidmhaaKn0
namespace Go.Proofs.Ytnfdcfagdidmhaa
open Go.RowKit
set_option linter.unusedVariables false

theorem nilAttrs (w : World) : RAttrs w (.slice none 0 0) [] := ⟨rfl, none, 0, rfl, Nat.le_refl _, Nat.zero_le _, fun h => absurd h (by simp)⟩

/-- A call whose outcome is known. -/
theorem Own.callE {w0 w : World} {B b : Nat} {A A' : Ar} {l : List Asrt} {v v' : Value} {f : Nat} {args : Array Value} (h : Own w0 B (.arena b A :: l) w) (hc : ∀ ρ, AMem w ρ b A → Calls Try.prog f args w (AddR A' ρ b w v)) {A2 : Ar} (hA : A' = A2) (hv : v = v') :
    Calls Try.prog f args w fun e w' => e = .returned v' ∧ Own w0 B (.arena b A2 :: l) w' := by
  subst hA; subst hv; exact h.call hc

/-- The zero description's cells, as the walk writes them. -/
abbrev zcells : Array Value := #[.int .i64 0, .int .i64 0, .slice none 0 0, .int .i64 0, .int .i64 0, .string ⟨#[]⟩, .slice none 0 0, .string ⟨#[]⟩, .string ⟨#[]⟩, .string ⟨#[]⟩, .bool false, .int .i64 0, .int .i64 0]

/-- A description is kept in a box of its own. -/
theorem Own.nodeBox {w0 w : World} {B : Nat} {l : List Asrt} (o : Own w0 B l w) (n : Nd) (kv av : Value) :
    Own w0 B (.box w.heap.size (.cells (n.cells kv av).toArray 36 (0, 0)) :: l) ((w.alloc (.cells zcells 36)).setCells w.heap.size 0 (n.cells kv av)) := by
  have o1 := o.alloc (.cells zcells 36)
  have hz : (w.alloc (.cells zcells 36)).heap[w.heap.size]? = some (.cells zcells 36 (0, 0)) := heap_alloc_new w _
  refine o1.setBox ((Upd.refl (fun k => k = w.heap.size) _).setCells (b := w.heap.size) (.inr rfl) 0 (n.cells kv av)) ?_
  exact box_written n kv av hz rfl
theorem nodeBox_facts {w : World} (n : Nd) (ka kc aa ac : _) (kl al : Nat) :
    (w.alloc (.cells zcells 36)).there w.heap.size 0 (n.cells (.slice ka kl kc) (.slice aa al ac)).toArray.size ∧ ∀ u ∈ n.cells (.slice ka kl kc) (.slice aa al ac), u.oneCell' = true :=
  ⟨box_there n _ _ (heap_alloc_new w _) rfl, cellsOneCell n _ _ rfl rfl⟩

theorem Node_own {w0 w : World} {B b : Nat} {A : Ar} {l : List Asrt} {h : Int} {n : Nd} (o : Own w0 B l w) (hm : Asrt.arena b A ∈ l) (hS : A.Short) (hh : A.has h) (hn : A.get h = n) :
    Calls Try.prog 22 #[.pointer (some ⟨b, 0, none⟩), .int .i64 h] w fun e w' => ∃ ka kl kc aa al ac, e = .returned (.tuple #[.agg (n.cells (.slice ka kl kc) (.slice aa al ac)).toArray, .int .i64 0]) ∧ Own w0 B l w' ∧ Below w.heap.size w w' := by
  subst hn
  obtain ⟨ρ, hA⟩ := o.arena hm
  refine (Node_any A ρ b h w hA hS).mono ?_
  rintro e w' ⟨hB, kv, av, rfl, h1, h2⟩
  obtain ⟨ka, kc, rfl⟩ := ownsForm h1
  obtain ⟨aa, ac, rfl⟩ := ownsForm h2
  rw [if_pos hh, if_pos hh]
  exact ⟨ka, _, kc, aa, _, ac, rfl, o.read hB, hB⟩

set_option maxRecDepth 100000 in
set_option maxHeartbeats 400000 in
theorem known_aux (A1 A2 A3 A4 : Ar) (n2 n4 : Nd) (i1 : A1.Inv) (i2 : A2.Inv) (i3 : A3.Inv) (i4 : A4.Inv) (l1 : A1.ns.length = 1) (l2 : A2.ns.length = 4) (l3 : A3.ns.length = 5) (l4 : A4.ns.length = 5)
    (e0 : Ar.new.document false = A1) (e0' : Ar.new.n + 1 = 1) (e1 : A1.element 1 1 ⟨#[116, 101, 109, 112, 108, 97, 116, 101]⟩ [] = ((2, 0), A2)) (e2 : A2.element 1 1 ⟨#[112]⟩ [] = ((5, 0), A3)) (e3 : A3.put 4 5 0 = (0, A4)) (e4 : A4.put 5 2 0 = (4, A4)) (e5 : A4.put 4 2 0 = (4, A4)) (e6 : A4.contains 2 5 = true) (e7 : A4.root 5 = 4)
    (x2 : A2.get 2 = n2) (x2c : n2.contents = 4) (x4 : A2.get 4 = n4) (x4h : n4.host = 2) (x4d : n4.doc = 3) (h2 : A2.has 2) (h4 : A2.has 4) (hn : A2.n = 4) (w : World) : Calls Try.prog 18 #[] w fun e w' => e = .returned (.bool true) ∧ Below w.heap.size w w' := by
  have HN := Lib.hid (New_any w)
  have HO := Lib.hid (Own.start w).newArena
  go_enter Try.func18, Try.ntmps18
  go_wp2_with fail
  refine HN.out.mono ?_
  rintro e w1 ⟨rfl, rfl⟩
  have o1 := HO.out
  clear HN HO
  generalize hw1 : w.alloc _ = w1 at o1 ⊢
  clear hw1
  go_wp2_with fail
  refine (o1.callE (fun ρ hA => Document_any _ ρ _ false _ hA (by simp [Ar.new])) e0 (by rw [e0'])).mono ?_
  rintro e w2 ⟨rfl, o2⟩
  clear o1
  go_wp2_with fail
  refine (o2.callE (fun ρ hA => Element_any A1 ρ _ 1 1 ⟨#[116, 101, 109, 112, 108, 97, 116, 101]⟩ _ [] _ hA (nilAttrs _) (by omega) (by simp)) (v' := pairV (2, 0)) (by rw [e1]) (by rw [e1])).mono ?_
  rintro e w3 ⟨rfl, o3⟩
  clear o2
  unfold pairV
  go_wp2_with fail
  refine (Node_own o3 (by simp) (i2.short (by omega)) h2 x2).mono ?_
  rintro e w4 ⟨ka, kl, kc, aa, al, ac, rfl, o4, -⟩
  clear o3
  have HT := Lib.hid (nodeBox_facts (w := w4) n2 ka kc aa ac kl al)
  have o5 := o4.nodeBox n2 (.slice ka kl kc) (.slice aa al ac)
  go_wp2_with ((with_reducible refine wpList_store_mid ?_ 36 (.tmp 5) (.tmp 23) ?_ w4.heap.size 0 (n2.cells (.slice ka kl kc) (.slice aa al ac)).toArray ?_ ?_ ?_ ?_ ?_ ?_); exact rfl; exact rfl; exact rfl; exact rfl; exact HT.out.1; exact sizeNode _ _ _; exact all_oneCell_toArray HT.out.2)
  clear o4 HT
  generalize hw5 : World.setCells _ _ _ _ = w5 at o5 ⊢
  generalize hg4 : w4.heap.size = g4 at o5 ⊢
  clear hw5 hg4
  refine (Node_own o5 (by simp) (i2.short (by omega)) h4 x4).mono ?_
  rintro e w6 ⟨ka6, kl6, kc6, aa6, al6, ac6, rfl, o6, -⟩
  clear o5
  have HT := Lib.hid (nodeBox_facts (w := w6) n4 ka6 kc6 aa6 ac6 kl6 al6)
  have o7 := o6.nodeBox n4 (.slice ka6 kl6 kc6) (.slice aa6 al6 ac6)
  go_wp2_with ((with_reducible refine wpList_store_mid ?_ 36 (.tmp 7) (.tmp 28) ?_ w6.heap.size 0 (n4.cells (.slice ka6 kl6 kc6) (.slice aa6 al6 ac6)).toArray ?_ ?_ ?_ ?_ ?_ ?_); exact rfl; exact rfl; exact rfl; exact rfl; exact HT.out.1; exact sizeNode _ _ _; exact all_oneCell_toArray HT.out.2)
  clear o6 HT
  generalize hw7 : World.setCells _ _ _ _ = w7 at o7 ⊢
  generalize hg6 : w6.heap.size = g6 at o7 ⊢
  clear hw7 hg6
  obtain ⟨ρ7, hA7⟩ := o7.arena (b := w.heap.size) (A := A2) (by simp)
  obtain ⟨a7, c7, mv7, h07, -⟩ := hA7.head
  refine (len_any A2 _ a7 c7 w7 h07).mono ?_
  rintro e w8 ⟨rfl, rfl⟩
  clear hA7 h07
  rw [hn]
  go_wp2_with fail
  have o7' := o7.rot3
  clear o7
  refine (o7'.callE (fun ρ hA => Element_any A2 ρ _ 1 1 ⟨#[112]⟩ _ [] _ hA (nilAttrs _) (by omega) (by simp)) (v' := pairV (5, 0)) (by rw [e2]) (by rw [e2])).mono ?_
  rintro e w8 ⟨rfl, o8⟩
  clear o7'
  unfold pairV
  have b4 := o8.box (g := g4) (o := .cells (n2.cells (.slice ka kl kc) (.slice aa al ac)).toArray 36 (0, 0)) (by simp)
  have b6 := o8.box (g := g6) (o := .cells (n4.cells (.slice ka6 kl6 kc6) (.slice aa6 al6 ac6)).toArray 36 (0, 0)) (by simp)
  have q1 : w8.cell? ⟨g4, 11, none⟩ = some (.int .i64 4) := by rw [cell_of_row w8 _ _ _ _ _ b4, ← x2c]; rfl
  have q2 : w8.cell? ⟨g6, 12, none⟩ = some (.int .i64 2) := by rw [cell_of_row w8 _ _ _ _ _ b6, ← x4h]; rfl
  have q3 : w8.cell? ⟨g6, 3, none⟩ = some (.int .i64 3) := by rw [cell_of_row w8 _ _ _ _ _ b6, ← x4d]; rfl
  clear b4 b6
  go_wp2_with fail
  refine (o8.callE (fun ρ hA => Put_any A3 ρ _ 4 5 0 _ hA i3.wf (by omega)) (v' := .int .i64 0) (by rw [e3]) (by rw [e3])).mono ?_
  rintro e w9 ⟨rfl, o9⟩
  clear o8 q1 q2 q3
  go_wp2_with fail
  refine (o9.callE (fun ρ hA => Put_any A4 ρ _ 5 2 0 _ hA i4.wf (by omega)) (v' := .int .i64 4) (by rw [e4]) (by rw [e4])).mono ?_
  rintro e w10 ⟨rfl, o10⟩
  clear o9
  go_wp2_with fail
  refine (o10.callE (fun ρ hA => Put_any A4 ρ _ 4 2 0 _ hA i4.wf (by omega)) (v' := .int .i64 4) (by rw [e5]) (by rw [e5])).mono ?_
  rintro e w11 ⟨rfl, o11⟩
  clear o10
  go_wp2_with fail
  obtain ⟨ρ11, hA11⟩ := o11.arena (b := w.heap.size) (A := A4) (by simp)
  refine (Contains_all A4 ρ11 _ 2 5 _ hA11 i4.wf).mono ?_
  rintro e w12 ⟨rfl, hB12⟩
  have o12 := o11.read hB12
  clear o11 hA11 hB12
  rw [e6]
  go_wp2_with fail
  obtain ⟨ρ12, hA12⟩ := o12.arena (b := w.heap.size) (A := A4) (by simp)
  refine (Root_all A4 ρ12 _ 5 _ hA12 i4.wf).mono ?_
  rintro e w13 ⟨rfl, hB13⟩
  have o13 := o12.read hB13
  clear o12 hA12 hB13
  rw [e7]
  have HL := Lib.hid o13.low
  clear o13
  go_wp2
  go_ret
  exact ⟨rfl, HL.out⟩

theorem known_any (w : World) : Calls Try.prog 18 #[] w fun e w' => e = .returned (.bool true) ∧ Below w.heap.size w w' :=
  known_aux kn1 kn2 kn3 kn4 _ _ kn_i1 kn_i2 kn_i3 kn_i4 kn_len.1 kn_len.2.1 kn_len.2.2.1 kn_len.2.2.2 rfl kn_a.1 (Prod.ext kn_a.2 rfl) (Prod.ext kn_c rfl) (Prod.ext kn_d rfl)
    (Prod.ext kn_e.1 (put_err (by rw [kn_e.1]; decide))) (Prod.ext kn_e.2 (put_err (by rw [kn_e.2]; decide))) kn_f.1 kn_f.2 rfl kn_b.2.1 rfl kn_b.2.2.2.1 kn_b.2.2.2.2.1 kn_b.1 kn_b.2.2.1 kn_b.2.2.2.2.2 w

end Go.Proofs.Ytnfdcfagdidmhaa
