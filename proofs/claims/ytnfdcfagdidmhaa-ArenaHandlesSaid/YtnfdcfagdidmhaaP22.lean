/-
  Contracts of the program's arena: Root.
-/
import Derived.Test.YtnfdcfagdidmhaaP21
namespace Go.Proofs.Ytnfdcfagdidmhaa
open Go.RowKit Go.Shelf

attribute [local go_sem] Oper.semAt_some

theorem boxes4 (w : World) (o1 o2 o3 o4 : Obj) : ∀ W, W = (((w.alloc o1).alloc o2).alloc o3).alloc o4 →
    W.heap[w.heap.size]? = some o1 ∧ W.heap[w.heap.size + 1]? = some o2 ∧ W.heap[w.heap.size + 2]? = some o3 ∧ W.heap[w.heap.size + 3]? = some o4 ∧ W.heap.size = w.heap.size + 4 ∧ Below w.heap.size w W := by
  rintro W rfl
  have hnew : ∀ (v : World) (o : Obj) (k : Nat), k = v.heap.size → (v.alloc o).heap[k]? = some o := fun v o k hk => by rw [hk]; exact heap_alloc_new v o
  refine ⟨?_, ?_, ?_, ?_, by simp, ?_⟩
  · rw [heap_alloc_old _ _ _ (by simp; omega), heap_alloc_old _ _ _ (by simp; omega), heap_alloc_old _ _ _ (by simp)]; exact hnew _ _ _ rfl
  · rw [heap_alloc_old _ _ _ (by simp; try omega), heap_alloc_old _ _ _ (by simp; try omega)]; exact hnew _ _ _ (by simp)
  · rw [heap_alloc_old _ _ _ (by simp)]; exact hnew _ _ _ (by simp)
  · exact hnew _ _ _ (by simp)
  · exact ((((Below.refl _ w).alloc (by simp) _).alloc (by simp) _).alloc (by simp; omega) _).alloc (by simp; omega) _

theorem way_plain {A : Ar} : ∀ {l : List Int} {h : Int}, A.Way (upStep A true) h l → ∃ l', A.Way (upStep A false) h l'
  | [], h, hw => ⟨[], hw⟩
  | x :: l, h, hw => by
    obtain ⟨rfl, hx, hw⟩ := hw
    by_cases hp : (A.get x).parent = 0
    · exact ⟨[x], rfl, hx, by simp [upStep, hp, Ar.Way]⟩
    · obtain ⟨l', hl'⟩ := way_plain hw
      refine ⟨x :: l', rfl, hx, ?_⟩
      have : upStep A true x = upStep A false x := by simp [upStep, Ar.up, hp]
      rw [← this]; exact hl'

set_option maxRecDepth 100000 in
set_option maxHeartbeats 1000000 in
theorem Root_any (A : Ar) (ρ : Nat → Nat) (b : Nat) (h : Int) (path : List Int) (w : World) (hA : AMem w ρ b A) (hh : A.has h) (hW : A.Way (upStep A false) h path) :
    Calls Try.prog 41 #[.pointer (some ⟨b, 0, none⟩), .int .i64 h] w fun e w' => e = .returned (.int .i64 (path.getLast?.getD 0)) ∧ Below w.heap.size w w' := by
  obtain ⟨a, c, mv, h0, -, -, hlt, hm, -⟩ := hA.head
  have hh1 : decide (A.has h) = true := by simp [hh]
  refine (callsIn_wide (n := 8)).1 ?_
  refine callsIn_of_wp_marks Try.func41 rfl trivial ?_ rfl
  simp only [Try.ntmps41, List.size_toArray, List.length_cons, List.length_nil, Nat.reduceAdd, Nat.reduceSub, Array.replicate_succ, Array.replicate_zero, List.push_toArray, List.append_toArray, List.nil_append, List.cons_append]
  gi_wp2_with fail
  refine ⟨trivial, ?_⟩
  refine (callsIn_wide.2 (has_any A b a c h _ (cell_old' _ h0))).mono ?_
  rintro e w2 ⟨rfl, rfl⟩
  rw [hh1]
  gi_wp2_with fail
  refine ⟨trivial, ?_⟩
  refine (callsIn_wide.2 (up_any b h false _)).mono ?_
  rintro e w2 ⟨rfl, rfl⟩
  simp only [World.size_alloc]
  obtain ⟨W5, hW5⟩ : ∃ W5, W5 = (((w.alloc (.cells #[.int .i64 0] 3)).alloc (.cells #[.pointer (some ⟨b, 0, none⟩)] 25)).alloc (.cells #[.int .i64 h] 3)).alloc (.cells #[.bool false] 4) := ⟨_, rfl⟩
  obtain ⟨q1, q2, q3, q4, hs5, hB5⟩ := boxes4 w _ _ _ _ W5 hW5
  rw [← hW5]
  clear hW5
  gi_wp2_with fail
  have hA5 := hA.below hB5
  have hlt5 : ∀ k, ρ k ≠ 0 → k < w.heap.size := hA.1
  have hseq := up1_stops A ρ b (w.heap.size + 2) (w.heap.size + 1) (w.heap.size + 3) h false path 7 (by omega) W5 (fun k => k = w.heap.size) hA5 q3 q2 q4 (by omega) (by omega) (by
    by_cases h0 : ρ (w.heap.size + 2) = 0
    · exact h0
    · have := hlt5 _ h0; omega) hW (by
    rintro k rfl
    refine ⟨by omega, by omega, by omega, ?_⟩
    by_cases h0 : ρ w.heap.size = 0
    · exact h0
    · have := hlt5 _ h0; omega)
  refine wpIn_rangeFunc_U rfl (by omega) (gf := 127) (lb := #[.pointer (some ⟨w.heap.size + 2, 0, none⟩), .pointer (some ⟨w.heap.size + 1, 0, none⟩), .pointer (some ⟨w.heap.size + 3, 0, none⟩)]) rfl trivial (enters_of Try.func127 (by kernel_rfl) rfl)
    hseq (by rintro k rfl; omega) (by rintro k rfl; omega) (fun _ => rfl)
    (fun pre W => Below w.heap.size w W ∧ W.heap[w.heap.size]? = some (.cells #[.int .i64 (pre.getLast?.getD 0)] 3 (0, 0)))
    (fun pre W => False)
    (fun s A' B hs hu' => ⟨hs.1.trans (hu'.toBelow' (fun k hk => by omega) hs.1.size), (hu'.block _ (lt_of_block hs.2) (by omega)).trans hs.2⟩)
    (fun s A' B hs hu' => hs)
    ⟨hB5, q1⟩
    (fun x => { tmps := #[.pointer (some ⟨b, 0, none⟩), .int .i64 h, undef, undef, .int .i64 0, .pointer (some ⟨w.heap.size, 0, none⟩), .int .i64 x, .pointer (some ⟨b, 0, none⟩), .int .i64 h, .bool true, .pointer (some ⟨b, 0, none⟩), .int .i64 h,
      .func (.func 127) #[] #[.pointer (some ⟨w.heap.size + 1 + 1, 0, none⟩), .pointer (some ⟨w.heap.size + 1, 0, none⟩), .pointer (some ⟨w.heap.size + 1 + 2, 0, none⟩)], .int .i64 x, undef, undef], defers := [] }) ?assign ?body ?done ?stop
  case assign =>
    intro l x W K hK
    gi_wp2
    exact hK
  case body =>
    rintro l pre x W ⟨hBW, r1⟩
    have k1 := box_cell r1; have f1 := box_free r1
    gi_wp2
    exact ⟨(Upd.refl (fun k => k = w.heap.size) W).setCell (p := ⟨w.heap.size, 0, none⟩) (.inr rfl) _, hBW.trans ((Below.refl _ W).setCell (p := ⟨w.heap.size, 0, none⟩) (Nat.le_refl _) _), by rw [show (pre ++ [x]).getLast?.getD 0 = x from by simp]; exact one_setCell r1⟩
  case done =>
    rintro D ys W rfl ⟨hBW, r1⟩ hD hK
    have k1 := box_cell r1
    gi_wp2
    have hD1 : D ≠ w.heap.size := by omega
    refine ⟨by simp, .inl ⟨_, _, rfl, run_takeDeferred hK, ?_⟩⟩
    refine ⟨_, ?_, rfl, ?_⟩
    · simp [results, Try.f41, go_sem]
    · exact hBW.trans (Upd.toBelow' (F := fun k => k = D) (upd_put _ rfl) (fun k hk => by omega) hBW.size)
  case stop =>
    rintro D pre W _ hx _ _
    exact hx.elim

theorem Root_no (A : Ar) (ρ : Nat → Nat) (b : Nat) (h : Int) (w : World) (hA : AMem w ρ b A) (hno : ¬ A.has h) :
    Calls Try.prog 41 #[.pointer (some ⟨b, 0, none⟩), .int .i64 h] w fun e w' => e = .returned (.int .i64 0) ∧ Below w.heap.size w w' := by
  obtain ⟨a, c, mv, h0, -, -, hlt, hm, -⟩ := hA.head
  have h0' := cell_old' (.cells #[.int .i64 0] 3) h0
  have hB := below_alloc w (.cells #[.int .i64 0] 3)
  have hu1 : decide (A.has h) = false := by simp [hno]
  clear hno
  go_enter Try.func41, Try.ntmps41
  go_wp2_with fail
  refine (has_any A b a c h _ h0').mono ?_
  rintro e w2 ⟨rfl, rfl⟩
  rw [hu1]
  go_wp2
  go_ret
  exact ⟨rfl, hB⟩

theorem Ar.WF.wayPlain {A : Ar} (hW : A.WF) {h : Int} (hh : A.has h) : A.Way (upStep A false) h (A.waySt false h) := by
  obtain ⟨p, hp⟩ := hW.way h hh
  obtain ⟨l, hl⟩ := way_plain hp
  rw [Ar.waySt, wayF_eq hl (way_len hl)]; exact hl

/-- The root of the tree of a node, or 0. -/
def Ar.root (A : Ar) (h : Int) : Int := if A.has h then (A.waySt false h).getLast?.getD 0 else 0

theorem Root_all (A : Ar) (ρ : Nat → Nat) (b : Nat) (h : Int) (w : World) (hA : AMem w ρ b A) (hW : A.WF) :
    Calls Try.prog 41 #[.pointer (some ⟨b, 0, none⟩), .int .i64 h] w fun e w' => e = .returned (.int .i64 (A.root h)) ∧ Below w.heap.size w w' := by
  by_cases hh : A.has h
  · rw [Ar.root, if_pos hh]; exact Root_any A ρ b h _ w hA hh (hW.wayPlain hh)
  · rw [Ar.root, if_neg hh]; exact Root_no A ρ b h w hA hh

theorem Contains_all (A : Ar) (ρ : Nat → Nat) (b : Nat) (u h : Int) (w : World) (hA : AMem w ρ b A) (hW : A.WF) :
    Calls Try.prog 37 #[.pointer (some ⟨b, 0, none⟩), .int .i64 u, .int .i64 h] w fun e w' => e = .returned (.bool (A.contains u h)) ∧ Below w.heap.size w w' := by
  by_cases hh : A.has u ∧ A.has h
  · have : A.contains u h = decide (u ∈ A.waySt true h) := by simp [Ar.contains, hh]
    rw [this]; exact Contains_any A ρ b u h _ w hA hh.1 hh.2 (hW.wayOf hh.2)
  · have : A.contains u h = false := by simp only [Ar.contains, decide_eq_false_iff_not]; exact fun e => hh ⟨e.1, e.2.1⟩
    rw [this]; exact Contains_no A ρ b u h w hA hh

end Go.Proofs.Ytnfdcfagdidmhaa
