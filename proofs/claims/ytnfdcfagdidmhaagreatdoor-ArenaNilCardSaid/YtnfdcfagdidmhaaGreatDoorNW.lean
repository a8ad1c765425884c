/-
  The walk of a nil arena.
-/
import Derived.Test.YtnfdcfagdidmhaaGreatDoorNI
import Derived.Test.YtnfdcfagdidmhaaGreatDoorRG
namespace Go.Proofs.YtnfdcfagdidmhaaGreatDoor
open Go.RowKit Go.Shelf
set_option linter.unusedVariables false

attribute [local go_sem] Oper.semAt_some

theorem Walk_nil (h : Int) (w : World) : Calls Tryz.prog 62 #[.pointer none, .int .i64 h] w fun e w' =>
      e = .returned (.func (.func 97) #[] #[.pointer (some ⟨w.heap.size, 0, none⟩), .pointer (some ⟨w.heap.size + 1, 0, none⟩)]) ∧
      w' = (w.alloc (.cells #[.pointer none] 25)).alloc (.cells #[.int .i64 h] 3) := by
  go_enter Tryz.func62, Tryz.ntmps62
  go_wp2
  go_ret
  exact ⟨rfl, rfl⟩

set_option maxRecDepth 100000 in
set_option maxHeartbeats 1000000 in
theorem Walk1_nil_seq (ab hb : Nat) (h : Int) (n : Nat) (hn : 1 ≤ n) (w : World)
    (h1 : w.heap[ab]? = some (.cells #[.pointer none] 25 (0, 0))) (h2 : w.heap[hb]? = some (.cells #[.int .i64 h] 3 (0, 0))) :
    SeqR Fence.wide n Tryz.prog 97 #[.pointer (some ⟨ab, 0, none⟩), .pointer (some ⟨hb, 0, none⟩)] (fun x : Int => #[Value.int .i64 x]) (fun ys => ys = []) (fun _ => False) w := by
  intro l J Jx W hB hj hY
  have k1 := box_cell ((hB.block _ (lt_of_block h1)).trans h1)
  have k2 := box_cell ((hB.block _ (lt_of_block h2)).trans h2)
  have HJ := Lib.hid hj
  clear hj hY
  refine callsIn_of_wp Tryz.func97 rfl trivial ?_ rfl
  simp only [Tryz.ntmps97, List.size_toArray, List.length_cons, List.length_nil, Nat.reduceAdd, Nat.reduceSub, Array.replicate_succ, Array.replicate_zero, List.push_toArray, List.append_toArray, List.nil_append, List.cons_append]
  gi_wp2_with fail
  refine ⟨trivial, ?_⟩
  refine (callsIn_wide.2 (has_nil h _)).mono ?_
  rintro e w2 ⟨rfl, rfl⟩
  gi_wp2
  refine bodyPost_ret (results_none rfl _ _ _) rfl ?_
  exact ⟨⟨_, rfl⟩, .inl ⟨[], _, rfl, HJ.out W (Below.refl _ _)⟩⟩

/-- A function value is compared with nil. -/
theorem run_eql_func_nil' {P : Program} (w : World) (t : TypeId) {ps rs : Array TypeId} {vv : Bool} (fn : Fn) (bs cs : Array Value) (h : P.underlying t = some (.func ps rs vv)) :
    (binOp .eql t (.func fn bs cs) .nilFunc).run P w = .ok (.bool false) w := by
  have h1 : ∀ d, (Op.equalIn (d + 1) t (.func fn bs cs) .nilFunc).run P w = .ok false w := fun d => by simp [Op.equalIn, run_underlying h]
  have h2 : (Op.equal t (.func fn bs cs) .nilFunc).run P w = .ok false w := h1 9999
  simp only [binOp]
  simp [h2]

set_option maxRecDepth 100000 in
set_option maxHeartbeats 2000000 in
theorem walk_nil (h : Int) (w : World) :
    Calls Tryz.prog 29 #[.pointer none, .int .i64 h, .int .i64 10] w fun e w' => e = .returned (.tuple #[.slice none 0 0, .bool true]) ∧ Below w.heap.size w w' := by
  have o1 := ((((Own.start w).alloc (.cells #[.int .i64 10] 3)).alloc (.cells #[.pointer none] 25)).alloc (.cells #[.int .i64 h] 3)).alloc (.cells #[.slice none 0 0] 35)
  simp only [World.size_alloc] at o1
  refine (callsIn_wide (n := 8)).1 ?_
  refine callsIn_of_wp_marks Tryz.func29 rfl trivial ?_ rfl
  simp only [Tryz.ntmps29, List.size_toArray, List.length_cons, List.length_nil, Nat.reduceAdd, Nat.reduceSub, Array.replicate_succ, Array.replicate_zero, List.push_toArray, List.append_toArray, List.nil_append, List.cons_append]
  gi_wp2_with fail
  refine ⟨trivial, ?_⟩
  refine (callsIn_wide.2 (Walk_nil h _)).mono ?_
  rintro e w2 ⟨rfl, rfl⟩
  simp only [World.size_alloc]
  have hq := fun (W : World) (cs : Array Value) => run_eql_func_nil' (P := Tryz.prog) W 92 (.func 97) #[] cs Tryz.underlying92
  gi_wp2_with fail
  clear hq
  generalize hW : (((w.alloc (.cells #[.int .i64 10] 3)).alloc (.cells #[.pointer none] 25)).alloc (.cells #[.int .i64 h] 3)).alloc (.cells #[.slice none 0 0] 35) = W at o1 ⊢
  clear hW
  have hseq := Walk1_nil_seq (w.heap.size + 1) (w.heap.size + 1 + 1) h 7 (by omega) W (o1.box (by simp)) (o1.box (by simp))
  have o2 := o1.swap.drop.swap.drop
  have HO2 := Lib.hid o2
  clear o1 o2
  refine wpIn_rangeFunc_R rfl (by omega) (gf := 97) (lb := #[.pointer (some ⟨w.heap.size + 1, 0, none⟩), .pointer (some ⟨w.heap.size + 1 + 1, 0, none⟩)]) rfl trivial (enters_of Tryz.func97 (by kernel_rfl) rfl)
    hseq (fun _ => rfl)
    (fun m pre W' => ∃ f, Own w w.heap.size (.guard W.heap.size m f :: .box (w.heap.size + 1 + 1 + 1) (.cells #[.slice none 0 0] 35 (0, 0)) :: .box w.heap.size (.cells #[.int .i64 10] 3 (0, 0)) :: []) W')
    (fun c m pre W' => False) ?hI ?hIx ?h0 ?a1 ?assign ?body ?done ?stop
  case hI =>
    rintro m s A' B' hm ⟨f, o⟩ hu
    exact ⟨_, o.loopGuard hm hu⟩
  case hIx =>
    rintro c m s A' B' hm hf hu
    exact hf
  case h0 =>
    intro W0 hW0
    exact ⟨_, HO2.out.startGuard hW0⟩
  case assign =>
    intro l' x W' K hK
    gi_wp2
    exact hK
  case body =>
    rintro l' m pre x W' hm' hf
    exact hf.elim
  case done =>
    rintro m xs W' rfl hm' ⟨f, o⟩ hD
    have k1 := box_cell (o.box (g := w.heap.size + 1 + 1 + 1) (o := .cells #[.slice none 0 0] 35 (0, 0)) (by simp))
    have HO := Lib.hid o
    clear o
    gi_wp2
    refine ⟨by simp, .inl ⟨_, _, rfl, run_takeDeferred hD, ?_⟩⟩
    refine ⟨.tuple #[.slice none 0 0, .bool true], by simp [results, Tryz.f29, go_sem], ?_⟩
    exact ⟨rfl, (HO.out.loopGuard hm' (upd_put _ (.inl rfl))).low⟩
  case stop =>
    rintro c m pre W' hf
    exact hf.elim

end Go.Proofs.YtnfdcfagdidmhaaGreatDoor
