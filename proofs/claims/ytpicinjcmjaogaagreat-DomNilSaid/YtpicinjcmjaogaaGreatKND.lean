/-
  Layer 5: what its functions answer for a nil arena. (Printed by gennil5.py.)
-/
import Derived.Test.YtpicinjcmjaogaaGreatKNI
import Derived.Deep.RegionHeld3
import Derived.Test.YtpicinjcmjaogaaGreatK10
namespace Go.Proofs.YtpicinjcmjaogaaGreat
open Go.RowKit Go.Shelf Classical
set_option linter.unusedVariables false

attribute [local go_sem] Oper.semAt_some

/-- Take an operation first; its value is found on the way. -/
theorem takeH {P : Program} {ops : Array Oper} {Q : Exit → Act → World → Prop} {md : Region.Mode} {S : World → Prop} {i : Nat} {oi : Oper} {fuel : Nat} {listed : Array Bool} {a : Act} {w : World} (hi : ops[i]? = some oi)
    (hs : Region.noSelect ops = true) (hf : Region.free md ops listed i = true) (hr : (Region.ready md ops listed).contains i = true)
    (hQ : ∀ v c a w, Q (.panic c) (a.put oi.dst v) w → Q (.panic c) a w) (hS : S w)
    (h : ∃ v, YieldsIf P ops S oi v a ∧ wpAnyH P md ops Q S fuel (listed.setIfInBounds i true) (a.put oi.dst v) w) : wpAnyH P md ops Q S (fuel + 1) listed a w := by
  obtain ⟨v, h1, h2⟩ := h
  exact wpAnyH_take hi hs hf hr (hQ v) h1 hS h2
theorem check5_nil (opt : Int) (v : Value) (w : World) : Calls Tryz.prog 89 #[.pointer none, .int .i64 opt, v] w fun e w' => e = .returned (.int .i64 1) ∧ w = w' := by
  go_enter Tryz.func89, Tryz.ntmps89
  go_wp2
  go_ret
  exact ⟨rfl, rfl⟩
set_option maxRecDepth 100000 in
set_option maxHeartbeats 1000000 in
theorem Validate5_nil (p n c : Int) (w : World) : Calls Tryz.prog 44 #[.pointer none, .int .i64 p, .int .i64 n, .int .i64 c] w fun e w' => e = .returned (.int .i64 1) ∧ Below w.heap.size w w' := by
  have o0 := ((Own.start w).alloc (.cells #[.int .i64 p, .int .i64 n, .int .i64 c] 3))
  try simp only [World.size_alloc] at o0
  have HL := Lib.hid o0.low
  clear o0
  go_enter Tryz.func44, Tryz.ntmps44
  go_wp2_with fail
  refine (check5_nil _ _ _).mono ?_
  rintro e w1 ⟨rfl, hB⟩
  have HB := Lib.hid (hB ▸ HL.out)
  clear hB HL
  go_wp2
  go_ret
  exact ⟨rfl, HB.out⟩
set_option maxRecDepth 100000 in
set_option maxHeartbeats 1000000 in
theorem Insert5_nil (p n c : Int) (w : World) : Calls Tryz.prog 51 #[.pointer none, .int .i64 p, .int .i64 n, .int .i64 c] w fun e w' => e = .returned (.int .i64 1) ∧ Below w.heap.size w w' := by
  have o0 := (Own.start w)
  try simp only [World.size_alloc] at o0
  have HL := Lib.hid o0.low
  clear o0
  go_enter Tryz.func51, Tryz.ntmps51
  go_wp2_with fail
  refine (Validate5_nil _ _ _ _).mono ?_
  rintro e w1 ⟨rfl, hB⟩
  have HB := Lib.hid (HL.out.trans ((show Below _ _ _ from hB).mono HL.out.size))
  clear hB HL
  go_wp2
  go_ret
  exact ⟨rfl, HB.out⟩
set_option maxRecDepth 100000 in
set_option maxHeartbeats 1000000 in
theorem Append5_nil (p n : Int) (w : World) : Calls Tryz.prog 85 #[.pointer none, .int .i64 p, .int .i64 n] w fun e w' => e = .returned (.int .i64 1) ∧ Below w.heap.size w w' := by
  have o0 := (Own.start w)
  try simp only [World.size_alloc] at o0
  have HL := Lib.hid o0.low
  clear o0
  go_enter Tryz.func85, Tryz.ntmps85
  go_wp2_with fail
  refine (Insert5_nil _ _ _ _).mono ?_
  rintro e w1 ⟨rfl, hB⟩
  have HB := Lib.hid (HL.out.trans ((show Below _ _ _ from hB).mono HL.out.size))
  clear hB HL
  go_wp2
  go_ret
  exact ⟨rfl, HB.out⟩
set_option maxRecDepth 100000 in
set_option maxHeartbeats 1000000 in
theorem Replace5_nil (p n c : Int) (w : World) : Calls Tryz.prog 35 #[.pointer none, .int .i64 p, .int .i64 n, .int .i64 c] w fun e w' => e = .returned (.int .i64 1) ∧ Below w.heap.size w w' := by
  have o0 := ((Own.start w).alloc (.cells #[.int .i64 p, .int .i64 n, .int .i64 c] 3))
  try simp only [World.size_alloc] at o0
  have HL := Lib.hid o0.low
  clear o0
  go_enter Tryz.func35, Tryz.ntmps35
  go_wp2_with fail
  refine (check5_nil _ _ _).mono ?_
  rintro e w1 ⟨rfl, hB⟩
  have HB := Lib.hid (hB ▸ HL.out)
  clear hB HL
  go_wp2
  go_ret
  exact ⟨rfl, HB.out⟩
set_option maxRecDepth 100000 in
set_option maxHeartbeats 1000000 in
theorem Remove5_nil (p n : Int) (w : World) : Calls Tryz.prog 148 #[.pointer none, .int .i64 p, .int .i64 n] w fun e w' => e = .returned (.int .i64 1) ∧ Below w.heap.size w w' := by
  have o0 := ((Own.start w).alloc (.cells #[.int .i64 p, .int .i64 n] 3))
  try simp only [World.size_alloc] at o0
  have HL := Lib.hid o0.low
  clear o0
  go_enter Tryz.func148, Tryz.ntmps148
  go_wp2_with fail
  refine (check5_nil _ _ _).mono ?_
  rintro e w1 ⟨rfl, hB⟩
  have HB := Lib.hid (hB ▸ HL.out)
  clear hB HL
  go_wp2
  go_ret
  exact ⟨rfl, HB.out⟩
set_option maxRecDepth 100000 in
set_option maxHeartbeats 1000000 in
theorem Detach5_nil (h : Int) (w : World) : Calls Tryz.prog 149 #[.pointer none, .int .i64 h] w fun e w' => e = .returned (.int .i64 1) ∧ Below w.heap.size w w' := by
  have o0 := ((Own.start w).alloc (.cells #[.int .i64 h] 3))
  try simp only [World.size_alloc] at o0
  have HL := Lib.hid o0.low
  clear o0
  go_enter Tryz.func149, Tryz.ntmps149
  go_wp2_with fail
  refine (check5_nil _ _ _).mono ?_
  rintro e w1 ⟨rfl, hB⟩
  have HB := Lib.hid (hB ▸ HL.out)
  clear hB HL
  go_wp2
  go_ret
  exact ⟨rfl, HB.out⟩
set_option maxRecDepth 100000 in
set_option maxHeartbeats 1000000 in
theorem ReplaceAll5_nil (p n : Int) (w : World) : Calls Tryz.prog 150 #[.pointer none, .int .i64 p, .int .i64 n] w fun e w' => e = .returned (.int .i64 1) ∧ Below w.heap.size w w' := by
  have o0 := ((Own.start w).alloc (.cells #[.int .i64 p, .int .i64 n] 3))
  try simp only [World.size_alloc] at o0
  have HL := Lib.hid o0.low
  clear o0
  go_enter Tryz.func150, Tryz.ntmps150
  go_wp2_with fail
  refine (check5_nil _ _ _).mono ?_
  rintro e w1 ⟨rfl, hB⟩
  have HB := Lib.hid (hB ▸ HL.out)
  clear hB HL
  go_wp2
  go_ret
  exact ⟨rfl, HB.out⟩
set_option maxRecDepth 100000 in
set_option maxHeartbeats 1000000 in
theorem Adopt5_nil (p n : Int) (w : World) : Calls Tryz.prog 151 #[.pointer none, .int .i64 p, .int .i64 n] w fun e w' => e = .returned (.int .i64 1) ∧ Below w.heap.size w w' := by
  have o0 := ((Own.start w).alloc (.cells #[.int .i64 p, .int .i64 n] 3))
  try simp only [World.size_alloc] at o0
  have HL := Lib.hid o0.low
  clear o0
  go_enter Tryz.func151, Tryz.ntmps151
  go_wp2_with fail
  refine (check5_nil _ _ _).mono ?_
  rintro e w1 ⟨rfl, hB⟩
  have HB := Lib.hid (hB ▸ HL.out)
  clear hB HL
  go_wp2
  go_ret
  exact ⟨rfl, HB.out⟩
set_option maxRecDepth 100000 in
set_option maxHeartbeats 1000000 in
theorem CreateElement5_nil (h : Int) (s : ByteArray) (w : World) : Calls Tryz.prog 24 #[.pointer none, .int .i64 h, .string s] w fun e w' => e = .returned (.tuple #[.int .i64 0, .int .i64 1]) ∧ Below w.heap.size w w' := by
  have o0 := ((Own.start w).alloc (.cells #[.int .i64 h] 3))
  try simp only [World.size_alloc] at o0
  have HL := Lib.hid o0.low
  clear o0
  go_enter Tryz.func24, Tryz.ntmps24
  go_wp2_with fail
  refine (check5_nil _ _ _).mono ?_
  rintro e w1 ⟨rfl, hB⟩
  have HB := Lib.hid (hB ▸ HL.out)
  clear hB HL
  go_wp2
  go_ret2
  exact ⟨by simp, HB.out⟩
set_option maxRecDepth 100000 in
set_option maxHeartbeats 1000000 in
theorem Clone5_nil (h : Int) (q : Bool) (w : World) : Calls Tryz.prog 75 #[.pointer none, .int .i64 h, .bool q] w fun e w' => e = .returned (.tuple #[.int .i64 0, .int .i64 1]) ∧ Below w.heap.size w w' := by
  have o0 := ((Own.start w).alloc (.cells #[.int .i64 h] 3))
  try simp only [World.size_alloc] at o0
  have HL := Lib.hid o0.low
  clear o0
  go_enter Tryz.func75, Tryz.ntmps75
  go_wp2_with fail
  refine (check5_nil _ _ _).mono ?_
  rintro e w1 ⟨rfl, hB⟩
  have HB := Lib.hid (hB ▸ HL.out)
  clear hB HL
  go_wp2
  go_ret2
  exact ⟨by simp, HB.out⟩
set_option maxRecDepth 100000 in
set_option maxHeartbeats 1000000 in
theorem SetTextContent5_nil (h : Int) (s : ByteArray) (w : World) : Calls Tryz.prog 55 #[.pointer none, .int .i64 h, .string s] w fun e w' => e = .returned (.int .i64 1) ∧ Below w.heap.size w w' := by
  have o0 := ((Own.start w).alloc (.cells #[.int .i64 h] 3))
  try simp only [World.size_alloc] at o0
  have HL := Lib.hid o0.low
  clear o0
  go_enter Tryz.func55, Tryz.ntmps55
  go_wp2_with fail
  refine (check5_nil _ _ _).mono ?_
  rintro e w1 ⟨rfl, hB⟩
  have HB := Lib.hid (hB ▸ HL.out)
  clear hB HL
  go_wp2
  go_ret
  exact ⟨rfl, HB.out⟩
set_option maxRecDepth 100000 in
set_option maxHeartbeats 1000000 in
theorem Split5_nil (h k : Int) (w : World) : Calls Tryz.prog 39 #[.pointer none, .int .i64 h, .int .i64 k] w fun e w' => e = .returned (.tuple #[.int .i64 0, .int .i64 1]) ∧ Below w.heap.size w w' := by
  have o0 := ((Own.start w).alloc (.cells #[.int .i64 h] 3))
  try simp only [World.size_alloc] at o0
  have HL := Lib.hid o0.low
  clear o0
  go_enter Tryz.func39, Tryz.ntmps39
  go_wp2_with fail
  refine (check5_nil _ _ _).mono ?_
  rintro e w1 ⟨rfl, hB⟩
  have HB := Lib.hid (hB ▸ HL.out)
  clear hB HL
  go_wp2
  go_ret2
  exact ⟨by simp, HB.out⟩
set_option maxRecDepth 100000 in
set_option maxHeartbeats 1000000 in
theorem Normalize5_nil (h : Int) (w : World) : Calls Tryz.prog 79 #[.pointer none, .int .i64 h] w fun e w' => e = .returned (.int .i64 1) ∧ Below w.heap.size w w' := by
  have o0 := ((Own.start w).alloc (.cells #[.int .i64 h] 3))
  try simp only [World.size_alloc] at o0
  have HL := Lib.hid o0.low
  clear o0
  go_enter Tryz.func79, Tryz.ntmps79
  go_wp2_with fail
  refine (check5_nil _ _ _).mono ?_
  rintro e w1 ⟨rfl, hB⟩
  have HB := Lib.hid (hB ▸ HL.out)
  clear hB HL
  go_wp2
  go_ret
  exact ⟨rfl, HB.out⟩
set_option maxRecDepth 100000 in
set_option maxHeartbeats 1000000 in
theorem TextContent5_nil (h : Int) (w : World) : Calls Tryz.prog 38 #[.pointer none, .int .i64 h] w fun e w' => e = .returned (.tuple #[.string ⟨#[]⟩, .int .i64 1]) ∧ Below w.heap.size w w' := by
  have o0 := (((Own.start w).alloc (.cells #[.pointer none] 23)).alloc (.cells #[.int .i64 h] 3))
  try simp only [World.size_alloc] at o0
  have HL := Lib.hid o0.low
  clear o0
  go_enter Tryz.func38, Tryz.ntmps38
  go_wp2_with fail
  refine (check5_nil _ _ _).mono ?_
  rintro e w1 ⟨rfl, hB⟩
  have HB := Lib.hid (hB ▸ HL.out)
  clear hB HL
  go_wp2
  go_ret2
  exact ⟨by simp, HB.out⟩

set_option maxRecDepth 100000 in
set_option maxHeartbeats 1000000 in
theorem attribute5_nil (el sp : Int) (s : ByteArray) (w : World) : Calls Tryz.prog 108 #[.pointer none, .int .i64 el, .int .i64 sp, .string s] w fun e w' => e = .returned (.tuple #[.slice none 0 0, .int .i64 (-1), .string ⟨#[]⟩, .int .i64 1]) ∧ Below w.heap.size w w' := by
  have o0 := (((Own.start w).alloc (.cells #[.int .i64 sp] 34)).alloc (.cells #[.string s] 9)).alloc (.cells #[.int .i64 el] 3)
  try simp only [World.size_alloc] at o0
  have HL := Lib.hid o0.low
  clear o0
  go_enter Tryz.func108, Tryz.ntmps108
  go_wp2_with fail
  refine (check5_nil _ _ _).mono ?_
  rintro e w1 ⟨rfl, hB⟩
  have HB := Lib.hid (hB ▸ HL.out)
  clear hB HL
  go_wp2
  refine bodyPost_ret (v := .tuple #[.slice none 0 0, .int .i64 (-1), .string ⟨#[]⟩, .int .i64 1]) (by simp [results, Tryz.f108, go_sem]) rfl ⟨rfl, HB.out⟩
set_option maxRecDepth 100000 in
set_option maxHeartbeats 1000000 in
theorem Attribute5_nil (el sp : Int) (s : ByteArray) (w : World) : Calls Tryz.prog 57 #[.pointer none, .int .i64 el, .int .i64 sp, .string s] w fun e w' => e = .returned (.tuple #[.string ⟨#[]⟩, .bool false, .int .i64 1]) ∧ Below w.heap.size w w' := by
  go_enter Tryz.func57, Tryz.ntmps57
  go_wp2_with fail
  refine (attribute5_nil _ _ _ _).mono ?_
  rintro e w1 ⟨rfl, hB⟩
  have HB := Lib.hid hB
  clear hB
  go_wp2
  refine bodyPost_ret (v := .tuple #[.string ⟨#[]⟩, .bool false, .int .i64 1]) (by simp [results, Tryz.f57, go_sem]) rfl ⟨rfl, HB.out⟩
set_option maxRecDepth 100000 in
set_option maxHeartbeats 1000000 in
theorem SetAttribute5_nil (el sp : Int) (s v : ByteArray) (w : World) : Calls Tryz.prog 29 #[.pointer none, .int .i64 el, .int .i64 sp, .string s, .string v] w fun e w' => e = .returned (.int .i64 1) ∧ Below w.heap.size w w' := by
  go_enter Tryz.func29, Tryz.ntmps29
  go_wp2_with fail
  refine (attribute5_nil _ _ _ _).mono ?_
  rintro e w1 ⟨rfl, hB⟩
  have HB := Lib.hid hB
  clear hB
  go_wp2
  go_ret
  exact ⟨rfl, HB.out⟩
set_option maxRecDepth 100000 in
set_option maxHeartbeats 1000000 in
theorem RemoveAttribute5_nil (el sp : Int) (s : ByteArray) (w : World) : Calls Tryz.prog 59 #[.pointer none, .int .i64 el, .int .i64 sp, .string s] w fun e w' => e = .returned (.tuple #[.bool false, .int .i64 1]) ∧ Below w.heap.size w w' := by
  go_enter Tryz.func59, Tryz.ntmps59
  go_wp2_with fail
  refine (attribute5_nil _ _ _ _).mono ?_
  rintro e w1 ⟨rfl, hB⟩
  have HB := Lib.hid hB
  clear hB
  go_wp2
  go_ret2
  exact ⟨by simp, HB.out⟩
set_option maxRecDepth 100000 in
set_option maxHeartbeats 1000000 in
theorem Import5_nil (p : Option Addr) (d h : Int) (w : World) : Calls Tryz.prog 70 #[.pointer p, .int .i64 d, .pointer none, .int .i64 h] w fun e w' => e = .returned (.tuple #[.int .i64 0, .int .i64 1]) ∧ Below w.heap.size w w' := by
  cases p with
  | none =>
    go_enter Tryz.func70, Tryz.ntmps70
    go_wp2
    go_ret2
    exact ⟨by simp, Below.refl _ _⟩
  | some a =>
    go_enter Tryz.func70, Tryz.ntmps70
    go_wp2
    go_ret2
    exact ⟨by simp, Below.refl _ _⟩
set_option maxRecDepth 100000 in
set_option maxHeartbeats 1000000 in
theorem ByName5_nil (h : Int) (s : ByteArray) (w : World) : Calls Tryz.prog 66 #[.pointer none, .int .i64 h, .string s] w fun e w' => e = .returned (.slice none 0 0) ∧ Below w.heap.size w w' := by
  have o0 := ((Own.start w).alloc (.cells #[.pointer none] 23)).alloc (.cells #[.string s] 9)
  have o1 := o0.alloc (.cells #[.int .i64 h] 3)
  try simp only [World.size_alloc] at o0 o1
  have HL := Lib.hid o1.low
  clear o0 o1
  go_enter Tryz.func66, Tryz.ntmps66
  go_wp2_with fail
  go_step3
  go_wp2_with fail
  refine (check5_nil _ _ _).mono ?_
  rintro e w1 ⟨rfl, hB⟩
  have HB := Lib.hid (hB ▸ HL.out)
  clear hB HL
  go_wp2
  rw [Exit.noGoto_ret]
  go_ret
  exact ⟨rfl, HB.out⟩
set_option maxRecDepth 100000 in
set_option maxHeartbeats 1000000 in
theorem ByID5_nil (h : Int) (s : ByteArray) (w : World) : Calls Tryz.prog 68 #[.pointer none, .int .i64 h, .string s] w fun e w' => e = .returned (.int .i64 0) ∧ Below w.heap.size w w' := by
  have o0 := (((Own.start w).alloc (.cells #[.pointer none] 23)).alloc (.cells #[.string s] 9)).alloc (.cells #[.int .i64 0] 3)
  have o1 := o0.alloc (.cells #[.int .i64 h] 3)
  try simp only [World.size_alloc] at o0 o1
  have HL := Lib.hid o1
  clear o0 o1
  go_enter Tryz.func68, Tryz.ntmps68
  go_wp2_with fail
  refine (check5_nil _ _ _).mono ?_
  rintro e w1 ⟨rfl, hB⟩
  have HB := Lib.hid (hB ▸ HL.out)
  clear hB HL
  have k2 := box_cell (HB.out.box (g := w.heap.size + 1 + 1) (o := .cells #[.int .i64 0] 3 (0, 0)) (by simp))
  have f2 := box_free (HB.out.box (g := w.heap.size + 1 + 1) (o := .cells #[.int .i64 0] 3 (0, 0)) (by simp))
  have h2 := box_cell (one_setCell (u := .int .i64 0) (HB.out.box (g := w.heap.size + 1 + 1) (o := .cells #[.int .i64 0] 3 (0, 0)) (by simp)))
  have HC := Lib.hid (HB.out.low.setCell (p := ⟨w.heap.size + 1 + 1, 0, none⟩) (by simp; omega) (.int .i64 0))
  go_wp2
  refine bodyPost_ret (v := .int .i64 0) (by simp [results, Tryz.f68, go_sem, h2]) rfl ⟨rfl, HC.out⟩

set_option maxRecDepth 100000 in
set_option maxHeartbeats 2000000 in
theorem Before5_nil (h k : Int) (w : World) : Calls Tryz.prog 62 #[.pointer none, .int .i64 h, .int .i64 k] w fun e w' => e = .returned (.bool false) ∧ Below w.heap.size w w' := by
  have o0 := (((Own.start w).alloc (.cells #[.int .i64 h] 3)).alloc (.cells #[.int .i64 k] 3)).alloc (.cells #[.bool false] 4)
  try simp only [World.size_alloc] at o0
  have HL := Lib.hid o0
  clear o0
  go_enter Tryz.func62, Tryz.ntmps62
  go_wp2_with fail
  generalize hWA : ((w.alloc (.cells #[.int .i64 h] 3)).alloc (.cells #[.int .i64 k] 3)).alloc (.cells #[.bool false] 4) = WA at HL ⊢
  clear hWA
  have o0 := HL.out.read (Below.drew (Below.refl WA.heap.size WA))
  obtain ⟨S, hS⟩ : ∃ S : World → Prop, ∀ W, S W ↔ (W.cell? ⟨w.heap.size, 0, none⟩ = some (.int .i64 h) ∧ W.cell? ⟨w.heap.size + 1, 0, none⟩ = some (.int .i64 k)) := ⟨fun W => _, fun _ => Iff.rfl⟩
  have SD := Lib.hid hS
  have HSS0 := Lib.hid ((hS WA.drew).2 ⟨box_cell (o0.box (g := w.heap.size) (o := .cells #[.int .i64 h] 3 (0, 0)) (by simp)), box_cell (o0.box (g := w.heap.size + 1) (o := .cells #[.int .i64 k] 3 (0, 0)) (by simp))⟩)
  clear hS
  refine wp_region_noPanic ?_
  refine wp_region_held (S := S) (by kernel_rfl) ?_
  change wpAnyH _ _ _ _ _ _ _ _ (World.drew WA)
  refine takeH (i := 0) rfl (by kernel_rfl) (by kernel_rfl) (by kernel_rfl) (fun _ _ _ _ h => h) HSS0.out ?_
  apply Exists.intro
  refine ⟨Or.inl ⟨by rfl, fun ww hww => ?_⟩, ?_⟩
  · obtain ⟨s0, s1⟩ := (SD.out ww).1 hww
    go_simp
    try rfl
  try simp only [List.getElem_toArray, List.getElem_cons_zero, Act.put, List.setIfInBounds_toArray, List.set_cons_zero, List.set_cons_succ]
  refine takeH (i := 1) rfl (by kernel_rfl) (by kernel_rfl) (by kernel_rfl) (fun _ _ _ _ h => h) HSS0.out ?_
  apply Exists.intro
  refine ⟨Or.inl ⟨by rfl, fun ww hww => ?_⟩, ?_⟩
  · obtain ⟨s0, s1⟩ := (SD.out ww).1 hww
    go_simp
    try rfl
  try simp only [List.getElem_toArray, List.getElem_cons_succ, List.getElem_cons_zero, Act.put, List.setIfInBounds_toArray, List.set_cons_zero, List.set_cons_succ]
  refine takeH (i := 2) rfl (by kernel_rfl) (by kernel_rfl) (by kernel_rfl) (fun _ _ _ _ h => h) HSS0.out ?_
  apply Exists.intro
  refine ⟨Or.inl ⟨by rfl, fun ww hww => ?_⟩, ?_⟩
  · obtain ⟨s0, s1⟩ := (SD.out ww).1 hww
    go_simp
    try rfl
  try simp only [List.getElem_toArray, List.getElem_cons_succ, List.getElem_cons_zero, Act.put, List.setIfInBounds_toArray, List.set_cons_zero, List.set_cons_succ]
  refine wpAnyH_all (rs := [3]) (by kernel_rfl) (by simp) ?_
  intro i hi
  obtain rfl : i = 3 := by simpa using hi
  clear hi
  unfold wpOp
  go_simp
  try left
  have o1 := o0.alloc (.cells #[.int .i64 h, .int .i64 k] 3)
  have HSS0_1 := Lib.hid ((SD.out _).2 ⟨box_cell (o1.box (g := w.heap.size) (o := .cells #[.int .i64 h] 3 (0, 0)) (by simp)), box_cell (o1.box (g := w.heap.size + 1) (o := .cells #[.int .i64 k] 3 (0, 0)) (by simp))⟩)
  refine ⟨HSS0_1.out, ?_⟩
  try simp only [List.getElem_toArray, List.getElem_cons_succ, List.getElem_cons_zero, Act.put, List.setIfInBounds_toArray, List.set_cons_zero, List.set_cons_succ]
  refine wpAnyH_all (rs := [4]) (by kernel_rfl) (by simp) ?_
  intro i hi
  obtain rfl : i = 4 := by simpa using hi
  clear hi
  unfold wpOp
  go_simp
  try left
  refine (check5_nil _ _ _).mono ?_
  rintro e w2 ⟨rfl, rfl⟩
  have HSS0_2 := HSS0_1
  refine ⟨HSS0_2.out, ?_⟩
  try simp only [List.getElem_toArray, List.getElem_cons_succ, List.getElem_cons_zero, Act.put, List.setIfInBounds_toArray, List.set_cons_zero, List.set_cons_succ]
  refine takeH (i := 5) rfl (by kernel_rfl) (by kernel_rfl) (by kernel_rfl) (fun _ _ _ _ h => h) HSS0_2.out ?_
  apply Exists.intro
  refine ⟨Or.inl ⟨by rfl, fun ww hww => ?_⟩, ?_⟩
  · obtain ⟨s0, s1⟩ := (SD.out ww).1 hww
    go_simp
    try rfl
  try simp only [List.getElem_toArray, List.getElem_cons_succ, List.getElem_cons_zero, Act.put, List.setIfInBounds_toArray, List.set_cons_zero, List.set_cons_succ]
  refine takeH (i := 6) rfl (by kernel_rfl) (by kernel_rfl) (by kernel_rfl) (fun _ _ _ _ h => h) HSS0_2.out ?_
  apply Exists.intro
  refine ⟨Or.inl ⟨by rfl, fun ww hww => ?_⟩, ?_⟩
  · obtain ⟨s0, s1⟩ := (SD.out ww).1 hww
    go_simp
    try rfl
  try simp only [List.getElem_toArray, List.getElem_cons_succ, List.getElem_cons_zero, Act.put, List.setIfInBounds_toArray, List.set_cons_zero, List.set_cons_succ]
  refine wpAnyH_take (i := 7) (v := undef) rfl (by kernel_rfl) (by kernel_rfl) (by kernel_rfl) (fun _ _ _ h => h) (Or.inr ⟨by rfl, rfl⟩) HSS0_2.out ?_
  try simp only [List.getElem_toArray, List.getElem_cons_succ, List.getElem_cons_zero, Act.put, List.setIfInBounds_toArray, List.set_cons_zero, List.set_cons_succ]
  refine wpAnyH_take (i := 8) (v := undef) rfl (by kernel_rfl) (by kernel_rfl) (by kernel_rfl) (fun _ _ _ h => h) (Or.inr ⟨by rfl, rfl⟩) HSS0_2.out ?_
  try simp only [List.getElem_toArray, List.getElem_cons_succ, List.getElem_cons_zero, Act.put, List.setIfInBounds_toArray, List.set_cons_zero, List.set_cons_succ]
  refine wpAnyH_take (i := 9) (v := undef) rfl (by kernel_rfl) (by kernel_rfl) (by kernel_rfl) (fun _ _ _ h => h) (Or.inr ⟨by rfl, rfl⟩) HSS0_2.out ?_
  try simp only [List.getElem_toArray, List.getElem_cons_succ, List.getElem_cons_zero, Act.put, List.setIfInBounds_toArray, List.set_cons_zero, List.set_cons_succ]
  refine takeH (i := 10) rfl (by kernel_rfl) (by kernel_rfl) (by kernel_rfl) (fun _ _ _ _ h => h) HSS0_2.out ?_
  apply Exists.intro
  refine ⟨Or.inl ⟨by rfl, fun ww hww => ?_⟩, ?_⟩
  · obtain ⟨s0, s1⟩ := (SD.out ww).1 hww
    go_simp
    try rfl
  try simp only [List.getElem_toArray, List.getElem_cons_succ, List.getElem_cons_zero, Act.put, List.setIfInBounds_toArray, List.set_cons_zero, List.set_cons_succ]
  refine takeH (i := 11) rfl (by kernel_rfl) (by kernel_rfl) (by kernel_rfl) (fun _ _ _ _ h => h) HSS0_2.out ?_
  apply Exists.intro
  refine ⟨Or.inl ⟨by rfl, fun ww hww => ?_⟩, ?_⟩
  · obtain ⟨s0, s1⟩ := (SD.out ww).1 hww
    go_simp
    try rfl
  try simp only [List.getElem_toArray, List.getElem_cons_succ, List.getElem_cons_zero, Act.put, List.setIfInBounds_toArray, List.set_cons_zero, List.set_cons_succ]
  refine wpAnyH_take (i := 12) (v := undef) rfl (by kernel_rfl) (by kernel_rfl) (by kernel_rfl) (fun _ _ _ h => h) (Or.inr ⟨by rfl, rfl⟩) HSS0_2.out ?_
  try simp only [List.getElem_toArray, List.getElem_cons_succ, List.getElem_cons_zero, Act.put, List.setIfInBounds_toArray, List.set_cons_zero, List.set_cons_succ]
  refine wpAnyH_take (i := 13) (v := undef) rfl (by kernel_rfl) (by kernel_rfl) (by kernel_rfl) (fun _ _ _ h => h) (Or.inr ⟨by rfl, rfl⟩) HSS0_2.out ?_
  try simp only [List.getElem_toArray, List.getElem_cons_succ, List.getElem_cons_zero, Act.put, List.setIfInBounds_toArray, List.set_cons_zero, List.set_cons_succ]
  refine wpAnyH_take (i := 14) (v := undef) rfl (by kernel_rfl) (by kernel_rfl) (by kernel_rfl) (fun _ _ _ h => h) (Or.inr ⟨by rfl, rfl⟩) HSS0_2.out ?_
  try simp only [List.getElem_toArray, List.getElem_cons_succ, List.getElem_cons_zero, Act.put, List.setIfInBounds_toArray, List.set_cons_zero, List.set_cons_succ]
  refine wpAnyH_take (i := 15) (v := undef) rfl (by kernel_rfl) (by kernel_rfl) (by kernel_rfl) (fun _ _ _ h => h) (Or.inr ⟨by rfl, rfl⟩) HSS0_2.out ?_
  try simp only [List.getElem_toArray, List.getElem_cons_succ, List.getElem_cons_zero, Act.put, List.setIfInBounds_toArray, List.set_cons_zero, List.set_cons_succ]
  refine wpAnyH_take (i := 16) (v := undef) rfl (by kernel_rfl) (by kernel_rfl) (by kernel_rfl) (fun _ _ _ h => h) (Or.inr ⟨by rfl, rfl⟩) HSS0_2.out ?_
  try simp only [List.getElem_toArray, List.getElem_cons_succ, List.getElem_cons_zero, Act.put, List.setIfInBounds_toArray, List.set_cons_zero, List.set_cons_succ]
  refine wpAnyH_take (i := 17) (v := undef) rfl (by kernel_rfl) (by kernel_rfl) (by kernel_rfl) (fun _ _ _ h => h) (Or.inr ⟨by rfl, rfl⟩) HSS0_2.out ?_
  try simp only [List.getElem_toArray, List.getElem_cons_succ, List.getElem_cons_zero, Act.put, List.setIfInBounds_toArray, List.set_cons_zero, List.set_cons_succ]
  refine wpAnyH_take (i := 18) (v := undef) rfl (by kernel_rfl) (by kernel_rfl) (by kernel_rfl) (fun _ _ _ h => h) (Or.inr ⟨by rfl, rfl⟩) HSS0_2.out ?_
  try simp only [List.getElem_toArray, List.getElem_cons_succ, List.getElem_cons_zero, Act.put, List.setIfInBounds_toArray, List.set_cons_zero, List.set_cons_succ]
  refine takeH (i := 19) rfl (by kernel_rfl) (by kernel_rfl) (by kernel_rfl) (fun _ _ _ _ h => h) HSS0_2.out ?_
  apply Exists.intro
  refine ⟨Or.inl ⟨by rfl, fun ww hww => ?_⟩, ?_⟩
  · obtain ⟨s0, s1⟩ := (SD.out ww).1 hww
    go_simp
    try rfl
  try simp only [List.getElem_toArray, List.getElem_cons_succ, List.getElem_cons_zero, Act.put, List.setIfInBounds_toArray, List.set_cons_zero, List.set_cons_succ]

  refine wpAnyH_done (by kernel_rfl) ?_ _
  refine NoPanic.normal ?_
  have HO1 := Lib.hid (HL.out.alloc (.cells #[.int .i64 h, .int .i64 k] 3))
  clear o0 o1 HSS0 HSS0_1 HSS0_2 SD
  have k2 := box_cell (HO1.out.box (g := w.heap.size + 1 + 1) (o := .cells #[.bool false] 4 (0, 0)) (by simp))
  have f2 := box_free (HO1.out.box (g := w.heap.size + 1 + 1) (o := .cells #[.bool false] 4 (0, 0)) (by simp))
  have h2 := box_cell (one_setCell (u := .bool false) (HO1.out.box (g := w.heap.size + 1 + 1) (o := .cells #[.bool false] 4 (0, 0)) (by simp)))
  have HC := Lib.hid (HO1.out.low.setCell (p := ⟨w.heap.size + 1 + 1, 0, none⟩) (by simp; omega) (.bool false))
  clear HO1 HL
  go_wp2
  refine bodyPost_ret (v := .bool false) (by simp [results, Tryz.f62, go_sem, h2]) rfl ⟨rfl, HC.out.drew⟩

end Go.Proofs.YtpicinjcmjaogaaGreat
