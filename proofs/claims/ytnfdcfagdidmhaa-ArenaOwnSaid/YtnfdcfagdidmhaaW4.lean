/-
  The law's walk: what Walk yields, at most so many handles.
-/
import Derived.Test.YtnfdcfagdidmhaaW3
namespace Go.Proofs.Ytnfdcfagdidmhaa
open Go.RowKit Go.Shelf
set_option linter.unusedVariables false

attribute [local go_sem] Oper.semAt_some

def walkTo (A : Ar) (h most : Int) : List Int := (A.walk h).take most.toNat

/-- A function value is compared with nil. -/
theorem run_eql_func_nil {P : Program} (w : World) (t : TypeId) {ps rs : Array TypeId} {vv : Bool} (fn : Fn) (bs cs : Array Value) (h : P.underlying t = some (.func ps rs vv)) :
    (binOp .eql t (.func fn bs cs) .nilFunc).run P w = .ok (.bool false) w := by
  have h1 : ∀ d, (Op.equalIn (d + 1) t (.func fn bs cs) .nilFunc).run P w = .ok false w := fun d => by simp [Op.equalIn, run_underlying h]
  have h2 : (Op.equal t (.func fn bs cs) .nilFunc).run P w = .ok false w := h1 9999
  simp only [binOp]
  simp [h2]

theorem ints_nil {w0 w : World} {B : Nat} {l : List Asrt} (o : Own w0 B l w) : Own w0 B (.ints (.slice none 0 0) [] :: l) w :=
  o.fresh (Below.refl _ _) ⟨fun _ => False, ⟨World.ownsRow_nil _ _ _ _, fun k => by simp [Value.ownBlock]⟩, fun _ h => h.elim⟩

set_option maxRecDepth 100000 in
set_option maxHeartbeats 2000000 in
theorem walk_own {w0 w : World} {B b : Nat} {A : Ar} {l : List Asrt} {h most : Int} (o : Own w0 B l w) (hm : Asrt.arena b A ∈ l) (hI : A.Inv) (hsm : A.ns.length ≤ 100000) :
    Calls Try.prog 52 #[.pointer (some ⟨b, 0, none⟩), .int .i64 h, .int .i64 most] w fun e w' => ∃ a c, e = .returned (.tuple #[.slice a (walkTo A h most).length c, .bool true]) ∧ Own w0 B (.ints (.slice a (walkTo A h most).length c) (walkTo A h most) :: l) w' := by
  obtain ⟨i0, hi, hz0, hz1, hz2⟩ := info_parts infoInt
  have HI := Lib.hid hi
  clear hi
  have o1 := (((o.alloc (.cells #[.int .i64 most] 3)).alloc (.cells #[.pointer (some ⟨b, 0, none⟩)] 25)).alloc (.cells #[.int .i64 h] 3)).alloc (.cells #[.slice none 0 0] 32)
  simp only [World.size_alloc] at o1
  by_cases h0 : most ≤ 0
  · have hE : walkTo A h most = [] := by unfold walkTo; rw [show most.toNat = 0 from by omega]; rfl
    rw [hE]
    have HO := Lib.hid o1
    clear o1 hE o
    refine (callsIn_wide (n := 8)).1 ?_
    refine callsIn_of_wp_marks Try.func52 rfl trivial ?_ rfl
    simp only [Try.ntmps52, List.size_toArray, List.length_cons, List.length_nil, Nat.reduceAdd, Nat.reduceSub, Array.replicate_succ, Array.replicate_zero, List.push_toArray, List.append_toArray, List.nil_append, List.cons_append]
    gi_wp2_with fail
    refine ⟨trivial, ?_⟩
    refine (callsIn_wide.2 (Walk_any b h _)).mono ?_
    rintro e w2 ⟨rfl, rfl⟩
    simp only [World.size_alloc]
    have hq := fun (W : World) (cs : Array Value) => run_eql_func_nil (P := Try.prog) W 74 (.func 104) #[] cs Try.underlying74
    gi_wp2
    refine ⟨.tuple #[.slice none 0 0, .bool true], by simp [results, Try.f52, go_sem], ?_⟩
    exact ⟨none, 0, rfl, ints_nil HO.out.drop.drop.drop.drop⟩
  · refine (callsIn_wide (n := 8)).1 ?_
    refine callsIn_of_wp_marks Try.func52 rfl trivial ?_ rfl
    simp only [Try.ntmps52, List.size_toArray, List.length_cons, List.length_nil, Nat.reduceAdd, Nat.reduceSub, Array.replicate_succ, Array.replicate_zero, List.push_toArray, List.append_toArray, List.nil_append, List.cons_append]
    gi_wp2_with fail
    refine ⟨trivial, ?_⟩
    refine (callsIn_wide.2 (Walk_any b h _)).mono ?_
    rintro e w2 ⟨rfl, rfl⟩
    simp only [World.size_alloc]
    have hq := fun (W : World) (cs : Array Value) => run_eql_func_nil (P := Try.prog) W 74 (.func 104) #[] cs Try.underlying74
    gi_wp2_with fail
    clear hq
    generalize hW : (((w.alloc (.cells #[.int .i64 most] 3)).alloc (.cells #[.pointer (some ⟨b, 0, none⟩)] 25)).alloc (.cells #[.int .i64 h] 3)).alloc (.cells #[.slice none 0 0] 32) = W at o1 ⊢
    clear hW
    obtain ⟨ρ, hA⟩ := o1.arena (b := b) (A := A) (by simp [hm])
    have hseq := Walk1_seq A ρ b (w.heap.size + 1) (w.heap.size + 1 + 1) h 7 (by omega) W hA hI hsm (o1.box (by simp)) (o1.box (by simp))
    have o2 := ints_nil (o1.swap.drop.swap.drop)
    have hwl := walk_len hI h
    have hL : walkTo A h most = (A.walk h).take most.toNat := rfl
    generalize A.walk h = L at *
    have HL := Lib.hid hL
    clear o1 hA hL
    refine wpIn_rangeFunc_R rfl (by omega) (gf := 104) (lb := #[.pointer (some ⟨w.heap.size + 1, 0, none⟩), .pointer (some ⟨w.heap.size + 1 + 1, 0, none⟩)]) rfl trivial (enters_of Try.func104 (by kernel_rfl) rfl)
      hseq (fun _ => rfl)
      (fun m pre W' => (pre.length : Int) < most ∧ ∃ f va vc, Own w0 B (.guard W.heap.size m f :: .ints (.slice va pre.length vc) pre :: .box (w.heap.size + 1 + 1 + 1) (.cells #[.slice va pre.length vc] 32 (0, 0)) :: .box w.heap.size (.cells #[.int .i64 most] 3 (0, 0)) :: l) W')
      (fun c m pre W' => c = .exit 0 ∧ (pre.length : Int) = most ∧ ∃ f va vc, Own w0 B (.guard W.heap.size m f :: .ints (.slice va pre.length vc) pre :: .box (w.heap.size + 1 + 1 + 1) (.cells #[.slice va pre.length vc] 32 (0, 0)) :: .box w.heap.size (.cells #[.int .i64 most] 3 (0, 0)) :: l) W')
      ?hI ?hIx ?h0
      (fun x => { tmps := #[.pointer (some ⟨b, 0, none⟩), .int .i64 h, .int .i64 most, undef, undef, .pointer (some ⟨w.heap.size, 0, none⟩), .slice none 0 0, .bool false,
        .func (.func 104) #[] #[.pointer (some ⟨w.heap.size + 1, 0, none⟩), .pointer (some ⟨w.heap.size + 1 + 1, 0, none⟩)], .pointer (some ⟨w.heap.size + 1 + 1 + 1, 0, none⟩), .int .i64 x, .pointer (some ⟨b, 0, none⟩), .int .i64 h,
        .func (.func 104) #[] #[.pointer (some ⟨w.heap.size + 1, 0, none⟩), .pointer (some ⟨w.heap.size + 1 + 1, 0, none⟩)], .func (.func 104) #[] #[.pointer (some ⟨w.heap.size + 1, 0, none⟩), .pointer (some ⟨w.heap.size + 1 + 1, 0, none⟩)],
        .bool false, .int .i64 most, .bool (decide (most ≤ 0)), undef, .func (.func 104) #[] #[.pointer (some ⟨w.heap.size + 1, 0, none⟩), .pointer (some ⟨w.heap.size + 1 + 1, 0, none⟩)], .int .i64 x, undef, undef, undef, undef, undef, undef, undef, undef, undef], defers := [] }) ?assign ?body ?done ?stop
    case hI =>
      rintro m s A' B' hm ⟨h1, f, va, vc, o⟩ hu
      exact ⟨h1, _, va, vc, o.loopGuard hm hu⟩
    case hIx =>
      rintro c m s A' B' hm ⟨h1, h2, f, va, vc, o⟩ hu
      exact ⟨h1, h2, _, va, vc, o.loopGuard hm hu⟩
    case h0 =>
      intro W0 hW0
      exact ⟨by simp; omega, _, none, 0, o2.startGuard hW0⟩
    case assign =>
      intro l' x W' K hK
      gi_wp2
      exact hK
    case body =>
      rintro l' m pre x W' hm' ⟨rest, hrest⟩ ⟨hlen, f, va, vc, o⟩
      have hpl : pre.length ≤ 100000 := by have := congrArg List.length hrest; simp at this; omega
      have k1 := box_cell (o.box (g := w.heap.size + 1 + 1 + 1) (o := .cells #[.slice va pre.length vc] 32 (0, 0)) (by simp))
      have k2 := box_cell (o.box (g := w.heap.size) (o := .cells #[.int .i64 most] 3 (0, 0)) (by simp))
      have hro := o.row (e := 3) (size := 1) (v := .slice va pre.length vc) (n := pre.length) (xs := pre.map intv) (by simp)
      have HO := Lib.hid o
      have HR := Lib.hid hro
      have hBW : B ≤ W'.heap.size := o.big
      clear o hro hrest
      gi_wp2_with (gi_at_builtin; refine wpListIn_append_own_at _ rfl _ _ 32 rfl B 3 i0 _ 1 8 Try.underlying32 HI.out hz0 hz1 hz2 rfl (by decide) _ _ _ rfl (HR.out.alloc _) ⟨W'.heap.size, 0, none⟩ 1 1 [intv x] rfl rfl ?c1 ?c2 ?c3 ?c4 ?c5 ?_)
      case c1 => intro j u hj; rw [Addr.add_mid, Nat.zero_add]; exact cell_new' rfl (by simpa [intv] using hj)
      case c2 => intro u hu; simp at hu; subst hu; rfl
      case c3 => unfold maxLen; omega
      case c4 => omega
      case c5 => simp; omega
      intro v' w1 hown hgrow _ hat
      have o3 := (((HO.out.swap).alloc (.cells #[.int .i64 x] 3)).swap.grow hown hgrow (by simpa using hat)).swap.drop.rot3
      obtain ⟨va', vc', rfl⟩ := ownsForm hown
      have k3 := box_cell (o3.box (g := w.heap.size + 1 + 1 + 1) (o := .cells #[.slice va pre.length vc] 32 (0, 0)) (by simp))
      have f3 := box_free (o3.box (g := w.heap.size + 1 + 1 + 1) (o := .cells #[.slice va pre.length vc] 32 (0, 0)) (by simp))
      have o4 := o3.set1 (u := .slice va' (pre.length + 1) vc')
      have k4 := box_cell (o4.box (g := w.heap.size) (o := .cells #[.int .i64 most] 3 (0, 0)) (by simp))
      have o5 := o4.rot3.rot3.swap
      have hkeep : ∀ k, W.heap.size ≤ k → k < m → (w1.setCell ⟨w.heap.size + 1 + 1 + 1, 0, none⟩ (.slice va' (pre.length + 1) vc')).heap[k]? = W'.heap[k]? := fun k h1 h2 =>
        (o5.guarded (lo := W.heap.size) (m := m) (f := f) (by simp) k h1 h2).trans (HO.out.guarded (lo := W.heap.size) (m := m) (f := f) (by simp) k h1 h2).symm
      have e1 : (pre ++ [x]).length = pre.length + 1 := by simp
      have e2 : (pre ++ [x]).map intv = pre.map intv ++ [intv x] := by simp
      have o6 : ∃ f va vc, Own w0 B (.guard W.heap.size m f :: .ints (.slice va (pre ++ [x]).length vc) (pre ++ [x]) :: .box (w.heap.size + 1 + 1 + 1) (.cells #[.slice va (pre ++ [x]).length vc] 32 (0, 0)) :: .box w.heap.size (.cells #[.int .i64 most] 3 (0, 0)) :: l) (w1.setCell ⟨w.heap.size + 1 + 1 + 1, 0, none⟩ (.slice va' (pre.length + 1) vc')) := by
        refine ⟨f, va', vc', ?_⟩
        unfold Asrt.ints
        rw [e1, e2]; exact o5
      have HK := Lib.hid (And.intro hkeep o6)
      clear o3 o4 o5 o6 hkeep e1 e2 hown hgrow hat HO HR
      by_cases hge : most ≤ pre.length + 1
      · gi_wp2
        exact ⟨HK.out.1, rfl, by simp; omega, HK.out.2⟩
      · gi_wp2
        exact ⟨HK.out.1, by simp; omega, HK.out.2⟩
    case done =>
      rintro m xs W' rfl hm' ⟨hlen, f, va, vc, o⟩ hD
      have k1 := box_cell (o.box (g := w.heap.size + 1 + 1 + 1) (o := .cells #[.slice va xs.length vc] 32 (0, 0)) (by simp))
      have HO := Lib.hid o
      clear o
      have hfin : walkTo A h most = xs := by rw [HL.out]; exact List.take_of_length_le (by omega)
      have HF := Lib.hid hfin
      clear hfin
      gi_wp2
      refine ⟨by simp, .inl ⟨_, _, rfl, run_takeDeferred hD, ?_⟩⟩
      refine ⟨.tuple #[.slice va xs.length vc, .bool true], by simp [results, Try.f52, go_sem], ?_⟩
      rw [HF.out]
      exact ⟨va, vc, rfl, ((HO.out.loopGuard hm' (upd_put _ (.inl rfl))).drop).swap.drop.swap.drop⟩
    case stop =>
      rintro c m pre W' ⟨rest, hrest⟩ hm' ⟨rfl, hlen, f, va, vc, o⟩ hD
      have k1 := box_cell (o.box (g := w.heap.size + 1 + 1 + 1) (o := .cells #[.slice va pre.length vc] 32 (0, 0)) (by simp))
      have HO := Lib.hid o
      clear o
      have hfin : walkTo A h most = pre := by rw [HL.out, hrest, show most.toNat = pre.length from by omega]; simp
      have HF := Lib.hid hfin
      clear hfin hrest
      gi_wp2
      refine ⟨by simp, .inl ⟨_, _, rfl, run_takeDeferred hD, ?_⟩⟩
      refine ⟨.tuple #[.slice va pre.length vc, .bool true], by simp [results, Try.f52, go_sem], ?_⟩
      rw [HF.out]
      exact ⟨va, vc, rfl, ((HO.out.loopGuard hm' (upd_put _ (.inl rfl))).drop).swap.drop.swap.drop⟩

end Go.Proofs.Ytnfdcfagdidmhaa
