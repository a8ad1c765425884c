/-
  The document's Sound: the fields that a kind does not use. (Printed by gensv.py.)
-/
import Derived.Test.YtnfdcfagdidmhaaSU
import Derived.Test.YtnfdcfagdidmhaaT4
namespace Go.Proofs.Ytnfdcfagdidmhaa
open Go.RowKit Classical
set_option linter.unusedVariables false

/-- The fields that the kind does not use are zero. -/
def unusedP (n : Nd) : Prop :=
  1 ≤ n.kind ∧ n.kind ≤ 6 ∧ (n.kind ≠ 4 → n.kind ≠ 1 → n.kind ≠ 2 → n.kids = []) ∧ (n.kind ≠ 4 → n.space = 0 ∧ n.attrs = [] ∧ (n.kind ≠ 3 → n.name.toList = [])) ∧ (n.kind ≠ 3 → n.pub.toList = [] ∧ n.sys.toList = []) ∧
    (n.kind ≠ 5 → n.kind ≠ 6 → n.data.toList = []) ∧ (n.kind = 1 ∨ n.quirks = false) ∧ (isTemplate n ∨ n.contents = 0) ∧ (n.kind = 2 ∨ n.host = 0)

set_option maxRecDepth 100000 in
set_option maxHeartbeats 4000000 in
theorem Unused_1 (n : Nd) (kv av : Value) (w : World) (hk : RInts w kv n.kids) (ha : RAttrs w av n.attrs) (h1 : n.kind = 1) :
    Calls Try.prog 93 #[.agg (n.cells kv av).toArray] w fun e w' => e = .returned (.bool (decide (unusedP n))) ∧ Below w.heap.size w w' := by
  obtain ⟨n0, n1, n2, n3, n4, n5, n6, n7, n8, n9, n10, n11, n12⟩ := n
  dsimp only at h1
  subst h1
  obtain ⟨ka, kc, rfl, kl1, kl2, -⟩ := hk.form
  obtain ⟨aa, ac, rfl, al1, al2, -⟩ := ha.form
  clear hk ha
  have HIT0 := Lib.hid (fun W => IsTemplate_any ⟨1, n1, n2, n3, n4, n5, n6, n7, n8, n9, n10, n11, n12⟩ (.slice ka n2.length kc) (.slice aa n6.length ac) W)
  have HBX := Lib.hid (boxF w ⟨1, n1, n2, n3, n4, n5, n6, n7, n8, n9, n10, n11, n12⟩ (.slice ka n2.length kc) (.slice aa n6.length ac) 36)
  have HIT := Lib.hid (fun W => (HIT0.out W).mono (fun e w' hh => show e = .returned (.bool false) ∧ Below W.heap.size W w' from ⟨by rw [hh.1]; simp [isTemplate], hh.2⟩))
  clear HIT0
  unfold Nd.cells at HIT HBX ⊢
  by_cases hn4 : n4 = 0
  · have en4 : (n4 != 0) = false := by simp [hn4]
    have fn4 : (n4 == 0) = true := by simp [hn4]
    cases n6 with
    | cons y ys =>
      have HV := Lib.hid (show decide (unusedP ⟨1, n1, n2, n3, n4, n5, (y :: ys), n7, n8, n9, n10, n11, n12⟩) = false by simp [unusedP, isTemplate, *])
      clear hn4
      go_enter Try.func93, Try.ntmps93
      go_wp2
      go_ret
      exact ⟨ret_bool (HV.out).symm, below_alloc _ _⟩
    | nil =>
      by_cases hn5 : n5.toList = []
      · have en5 : (!n5.toList.isEmpty) = false := by simp [hn5]
        by_cases hn8 : n8.toList = []
        · have en8 : (!n8.toList.isEmpty) = false := by simp [hn8]
          by_cases hn9 : n9.toList = []
          · have en9 : (!n9.toList.isEmpty) = false := by simp [hn9]
            by_cases hn7 : n7.toList = []
            · have en7 : (!n7.toList.isEmpty) = false := by simp [hn7]
              by_cases hn11 : n11 = 0
              · have en11 : (n11 == 0) = true := by simp [hn11]
                by_cases hn12 : n12 = 0
                · have en12 : (n12 != 0) = false := by simp [hn12]
                  have fn12 : (n12 == 0) = true := by simp [hn12]
                  have HV := Lib.hid (show decide (unusedP ⟨1, n1, n2, n3, n4, n5, [], n7, n8, n9, n10, n11, n12⟩) = true by simp [unusedP, isTemplate, *])
                  clear hn4 hn11 hn12
                  go_enter Try.func93, Try.ntmps93
                  go_wp2_with fail
                  refine (HIT.out _).mono ?_
                  rintro e w2 ⟨rfl, hB2⟩
                  have HB := Lib.hid ((below_alloc w _).trans (hB2.mono (by simp)))
                  have F2 := HBX.out.below hB2
                  have z0 := F2.c0; have z11 := F2.c11; have z12 := F2.c12
                  simp only [Nat.zero_add] at z0 z11 z12
                  clear F2 hB2
                  go_wp2
                  go_ret
                  exact ⟨ret_bool (HV.out).symm, HB.out⟩
                · have en12 : (n12 != 0) = true := by simp [hn12]
                  have fn12 : (n12 == 0) = false := by simp [hn12]
                  have HV := Lib.hid (show decide (unusedP ⟨1, n1, n2, n3, n4, n5, [], n7, n8, n9, n10, n11, n12⟩) = false by simp [unusedP, isTemplate, *])
                  clear hn4 hn11 hn12
                  go_enter Try.func93, Try.ntmps93
                  go_wp2_with fail
                  refine (HIT.out _).mono ?_
                  rintro e w2 ⟨rfl, hB2⟩
                  have HB := Lib.hid ((below_alloc w _).trans (hB2.mono (by simp)))
                  have F2 := HBX.out.below hB2
                  have z0 := F2.c0; have z11 := F2.c11; have z12 := F2.c12
                  simp only [Nat.zero_add] at z0 z11 z12
                  clear F2 hB2
                  go_wp2
                  go_ret
                  exact ⟨ret_bool (HV.out).symm, HB.out⟩
              · have en11 : (n11 == 0) = false := by simp [hn11]
                have HV := Lib.hid (show decide (unusedP ⟨1, n1, n2, n3, n4, n5, [], n7, n8, n9, n10, n11, n12⟩) = false by simp [unusedP, isTemplate, *])
                clear hn4 hn11
                go_enter Try.func93, Try.ntmps93
                go_wp2_with fail
                refine (HIT.out _).mono ?_
                rintro e w2 ⟨rfl, hB2⟩
                have HB := Lib.hid ((below_alloc w _).trans (hB2.mono (by simp)))
                have F2 := HBX.out.below hB2
                have z0 := F2.c0; have z11 := F2.c11; have z12 := F2.c12
                simp only [Nat.zero_add] at z0 z11 z12
                clear F2 hB2
                go_wp2
                go_ret
                exact ⟨ret_bool (HV.out).symm, HB.out⟩
            · have en7 : (!n7.toList.isEmpty) = true := by simpa using hn7
              have HV := Lib.hid (show decide (unusedP ⟨1, n1, n2, n3, n4, n5, [], n7, n8, n9, n10, n11, n12⟩) = false by simp [unusedP, isTemplate, *])
              clear hn4
              go_enter Try.func93, Try.ntmps93
              go_wp2
              go_ret
              exact ⟨ret_bool (HV.out).symm, below_alloc _ _⟩
          · have en9 : (!n9.toList.isEmpty) = true := by simpa using hn9
            have HV := Lib.hid (show decide (unusedP ⟨1, n1, n2, n3, n4, n5, [], n7, n8, n9, n10, n11, n12⟩) = false by simp [unusedP, isTemplate, *])
            clear hn4
            go_enter Try.func93, Try.ntmps93
            go_wp2
            go_ret
            exact ⟨ret_bool (HV.out).symm, below_alloc _ _⟩
        · have en8 : (!n8.toList.isEmpty) = true := by simpa using hn8
          have HV := Lib.hid (show decide (unusedP ⟨1, n1, n2, n3, n4, n5, [], n7, n8, n9, n10, n11, n12⟩) = false by simp [unusedP, isTemplate, *])
          clear hn4
          go_enter Try.func93, Try.ntmps93
          go_wp2
          go_ret
          exact ⟨ret_bool (HV.out).symm, below_alloc _ _⟩
      · have en5 : (!n5.toList.isEmpty) = true := by simpa using hn5
        have HV := Lib.hid (show decide (unusedP ⟨1, n1, n2, n3, n4, n5, [], n7, n8, n9, n10, n11, n12⟩) = false by simp [unusedP, isTemplate, *])
        clear hn4
        go_enter Try.func93, Try.ntmps93
        go_wp2
        go_ret
        exact ⟨ret_bool (HV.out).symm, below_alloc _ _⟩
  · have en4 : (n4 != 0) = true := by simp [hn4]
    have fn4 : (n4 == 0) = false := by simp [hn4]
    have HV := Lib.hid (show decide (unusedP ⟨1, n1, n2, n3, n4, n5, n6, n7, n8, n9, n10, n11, n12⟩) = false by simp [unusedP, isTemplate, *])
    clear hn4
    go_enter Try.func93, Try.ntmps93
    go_wp2
    go_ret
    exact ⟨ret_bool (HV.out).symm, below_alloc _ _⟩

set_option maxRecDepth 100000 in
set_option maxHeartbeats 4000000 in
theorem Unused_2 (n : Nd) (kv av : Value) (w : World) (hk : RInts w kv n.kids) (ha : RAttrs w av n.attrs) (h1 : n.kind = 2) :
    Calls Try.prog 93 #[.agg (n.cells kv av).toArray] w fun e w' => e = .returned (.bool (decide (unusedP n))) ∧ Below w.heap.size w w' := by
  obtain ⟨n0, n1, n2, n3, n4, n5, n6, n7, n8, n9, n10, n11, n12⟩ := n
  dsimp only at h1
  subst h1
  obtain ⟨ka, kc, rfl, kl1, kl2, -⟩ := hk.form
  obtain ⟨aa, ac, rfl, al1, al2, -⟩ := ha.form
  clear hk ha
  have HIT0 := Lib.hid (fun W => IsTemplate_any ⟨2, n1, n2, n3, n4, n5, n6, n7, n8, n9, n10, n11, n12⟩ (.slice ka n2.length kc) (.slice aa n6.length ac) W)
  have HBX := Lib.hid (boxF w ⟨2, n1, n2, n3, n4, n5, n6, n7, n8, n9, n10, n11, n12⟩ (.slice ka n2.length kc) (.slice aa n6.length ac) 36)
  have HIT := Lib.hid (fun W => (HIT0.out W).mono (fun e w' hh => show e = .returned (.bool false) ∧ Below W.heap.size W w' from ⟨by rw [hh.1]; simp [isTemplate], hh.2⟩))
  clear HIT0
  unfold Nd.cells at HIT HBX ⊢
  by_cases hn4 : n4 = 0
  · have en4 : (n4 != 0) = false := by simp [hn4]
    have fn4 : (n4 == 0) = true := by simp [hn4]
    cases n6 with
    | cons y ys =>
      have HV := Lib.hid (show decide (unusedP ⟨2, n1, n2, n3, n4, n5, (y :: ys), n7, n8, n9, n10, n11, n12⟩) = false by simp [unusedP, isTemplate, *])
      clear hn4
      go_enter Try.func93, Try.ntmps93
      go_wp2
      go_ret
      exact ⟨ret_bool (HV.out).symm, below_alloc _ _⟩
    | nil =>
      by_cases hn5 : n5.toList = []
      · have en5 : (!n5.toList.isEmpty) = false := by simp [hn5]
        by_cases hn8 : n8.toList = []
        · have en8 : (!n8.toList.isEmpty) = false := by simp [hn8]
          by_cases hn9 : n9.toList = []
          · have en9 : (!n9.toList.isEmpty) = false := by simp [hn9]
            by_cases hn7 : n7.toList = []
            · have en7 : (!n7.toList.isEmpty) = false := by simp [hn7]
              cases n10 with
              | true =>
                have HV := Lib.hid (show decide (unusedP ⟨2, n1, n2, n3, n4, n5, [], n7, n8, n9, true, n11, n12⟩) = false by simp [unusedP, isTemplate, *])
                clear hn4
                go_enter Try.func93, Try.ntmps93
                go_wp2
                go_ret
                exact ⟨ret_bool (HV.out).symm, below_alloc _ _⟩
              | false =>
                by_cases hn11 : n11 = 0
                · have en11 : (n11 == 0) = true := by simp [hn11]
                  have HV := Lib.hid (show decide (unusedP ⟨2, n1, n2, n3, n4, n5, [], n7, n8, n9, false, n11, n12⟩) = true by simp [unusedP, isTemplate, *])
                  clear hn4 hn11
                  go_enter Try.func93, Try.ntmps93
                  go_wp2_with fail
                  refine (HIT.out _).mono ?_
                  rintro e w2 ⟨rfl, hB2⟩
                  have HB := Lib.hid ((below_alloc w _).trans (hB2.mono (by simp)))
                  have F2 := HBX.out.below hB2
                  have z0 := F2.c0; have z11 := F2.c11; have z12 := F2.c12
                  simp only [Nat.zero_add] at z0 z11 z12
                  clear F2 hB2
                  go_wp2
                  go_ret
                  exact ⟨ret_bool (HV.out).symm, HB.out⟩
                · have en11 : (n11 == 0) = false := by simp [hn11]
                  have HV := Lib.hid (show decide (unusedP ⟨2, n1, n2, n3, n4, n5, [], n7, n8, n9, false, n11, n12⟩) = false by simp [unusedP, isTemplate, *])
                  clear hn4 hn11
                  go_enter Try.func93, Try.ntmps93
                  go_wp2_with fail
                  refine (HIT.out _).mono ?_
                  rintro e w2 ⟨rfl, hB2⟩
                  have HB := Lib.hid ((below_alloc w _).trans (hB2.mono (by simp)))
                  have F2 := HBX.out.below hB2
                  have z0 := F2.c0; have z11 := F2.c11; have z12 := F2.c12
                  simp only [Nat.zero_add] at z0 z11 z12
                  clear F2 hB2
                  go_wp2
                  go_ret
                  exact ⟨ret_bool (HV.out).symm, HB.out⟩
            · have en7 : (!n7.toList.isEmpty) = true := by simpa using hn7
              have HV := Lib.hid (show decide (unusedP ⟨2, n1, n2, n3, n4, n5, [], n7, n8, n9, n10, n11, n12⟩) = false by simp [unusedP, isTemplate, *])
              clear hn4
              go_enter Try.func93, Try.ntmps93
              go_wp2
              go_ret
              exact ⟨ret_bool (HV.out).symm, below_alloc _ _⟩
          · have en9 : (!n9.toList.isEmpty) = true := by simpa using hn9
            have HV := Lib.hid (show decide (unusedP ⟨2, n1, n2, n3, n4, n5, [], n7, n8, n9, n10, n11, n12⟩) = false by simp [unusedP, isTemplate, *])
            clear hn4
            go_enter Try.func93, Try.ntmps93
            go_wp2
            go_ret
            exact ⟨ret_bool (HV.out).symm, below_alloc _ _⟩
        · have en8 : (!n8.toList.isEmpty) = true := by simpa using hn8
          have HV := Lib.hid (show decide (unusedP ⟨2, n1, n2, n3, n4, n5, [], n7, n8, n9, n10, n11, n12⟩) = false by simp [unusedP, isTemplate, *])
          clear hn4
          go_enter Try.func93, Try.ntmps93
          go_wp2
          go_ret
          exact ⟨ret_bool (HV.out).symm, below_alloc _ _⟩
      · have en5 : (!n5.toList.isEmpty) = true := by simpa using hn5
        have HV := Lib.hid (show decide (unusedP ⟨2, n1, n2, n3, n4, n5, [], n7, n8, n9, n10, n11, n12⟩) = false by simp [unusedP, isTemplate, *])
        clear hn4
        go_enter Try.func93, Try.ntmps93
        go_wp2
        go_ret
        exact ⟨ret_bool (HV.out).symm, below_alloc _ _⟩
  · have en4 : (n4 != 0) = true := by simp [hn4]
    have fn4 : (n4 == 0) = false := by simp [hn4]
    have HV := Lib.hid (show decide (unusedP ⟨2, n1, n2, n3, n4, n5, n6, n7, n8, n9, n10, n11, n12⟩) = false by simp [unusedP, isTemplate, *])
    clear hn4
    go_enter Try.func93, Try.ntmps93
    go_wp2
    go_ret
    exact ⟨ret_bool (HV.out).symm, below_alloc _ _⟩

set_option maxRecDepth 100000 in
set_option maxHeartbeats 4000000 in
theorem Unused_3 (n : Nd) (kv av : Value) (w : World) (hk : RInts w kv n.kids) (ha : RAttrs w av n.attrs) (h1 : n.kind = 3) :
    Calls Try.prog 93 #[.agg (n.cells kv av).toArray] w fun e w' => e = .returned (.bool (decide (unusedP n))) ∧ Below w.heap.size w w' := by
  obtain ⟨n0, n1, n2, n3, n4, n5, n6, n7, n8, n9, n10, n11, n12⟩ := n
  dsimp only at h1
  subst h1
  obtain ⟨ka, kc, rfl, kl1, kl2, -⟩ := hk.form
  obtain ⟨aa, ac, rfl, al1, al2, -⟩ := ha.form
  clear hk ha
  have HIT0 := Lib.hid (fun W => IsTemplate_any ⟨3, n1, n2, n3, n4, n5, n6, n7, n8, n9, n10, n11, n12⟩ (.slice ka n2.length kc) (.slice aa n6.length ac) W)
  have HBX := Lib.hid (boxF w ⟨3, n1, n2, n3, n4, n5, n6, n7, n8, n9, n10, n11, n12⟩ (.slice ka n2.length kc) (.slice aa n6.length ac) 36)
  have HIT := Lib.hid (fun W => (HIT0.out W).mono (fun e w' hh => show e = .returned (.bool false) ∧ Below W.heap.size W w' from ⟨by rw [hh.1]; simp [isTemplate], hh.2⟩))
  clear HIT0
  unfold Nd.cells at HIT HBX ⊢
  cases n2 with
  | cons y ys =>
    have HV := Lib.hid (show decide (unusedP ⟨3, n1, (y :: ys), n3, n4, n5, n6, n7, n8, n9, n10, n11, n12⟩) = false by simp [unusedP, isTemplate, *])
    go_enter Try.func93, Try.ntmps93
    go_wp2
    go_ret
    exact ⟨ret_bool (HV.out).symm, below_alloc _ _⟩
  | nil =>
    by_cases hn4 : n4 = 0
    · have en4 : (n4 != 0) = false := by simp [hn4]
      have fn4 : (n4 == 0) = true := by simp [hn4]
      cases n6 with
      | cons y ys =>
        have HV := Lib.hid (show decide (unusedP ⟨3, n1, [], n3, n4, n5, (y :: ys), n7, n8, n9, n10, n11, n12⟩) = false by simp [unusedP, isTemplate, *])
        clear hn4
        go_enter Try.func93, Try.ntmps93
        go_wp2
        go_ret
        exact ⟨ret_bool (HV.out).symm, below_alloc _ _⟩
      | nil =>
        by_cases hn7 : n7.toList = []
        · have en7 : (!n7.toList.isEmpty) = false := by simp [hn7]
          cases n10 with
          | true =>
            have HV := Lib.hid (show decide (unusedP ⟨3, n1, [], n3, n4, n5, [], n7, n8, n9, true, n11, n12⟩) = false by simp [unusedP, isTemplate, *])
            clear hn4
            go_enter Try.func93, Try.ntmps93
            go_wp2
            go_ret
            exact ⟨ret_bool (HV.out).symm, below_alloc _ _⟩
          | false =>
            by_cases hn11 : n11 = 0
            · have en11 : (n11 == 0) = true := by simp [hn11]
              by_cases hn12 : n12 = 0
              · have en12 : (n12 != 0) = false := by simp [hn12]
                have fn12 : (n12 == 0) = true := by simp [hn12]
                have HV := Lib.hid (show decide (unusedP ⟨3, n1, [], n3, n4, n5, [], n7, n8, n9, false, n11, n12⟩) = true by simp [unusedP, isTemplate, *])
                clear hn4 hn11 hn12
                go_enter Try.func93, Try.ntmps93
                go_wp2_with fail
                refine (HIT.out _).mono ?_
                rintro e w2 ⟨rfl, hB2⟩
                have HB := Lib.hid ((below_alloc w _).trans (hB2.mono (by simp)))
                have F2 := HBX.out.below hB2
                have z0 := F2.c0; have z11 := F2.c11; have z12 := F2.c12
                simp only [Nat.zero_add] at z0 z11 z12
                clear F2 hB2
                go_wp2
                go_ret
                exact ⟨ret_bool (HV.out).symm, HB.out⟩
              · have en12 : (n12 != 0) = true := by simp [hn12]
                have fn12 : (n12 == 0) = false := by simp [hn12]
                have HV := Lib.hid (show decide (unusedP ⟨3, n1, [], n3, n4, n5, [], n7, n8, n9, false, n11, n12⟩) = false by simp [unusedP, isTemplate, *])
                clear hn4 hn11 hn12
                go_enter Try.func93, Try.ntmps93
                go_wp2_with fail
                refine (HIT.out _).mono ?_
                rintro e w2 ⟨rfl, hB2⟩
                have HB := Lib.hid ((below_alloc w _).trans (hB2.mono (by simp)))
                have F2 := HBX.out.below hB2
                have z0 := F2.c0; have z11 := F2.c11; have z12 := F2.c12
                simp only [Nat.zero_add] at z0 z11 z12
                clear F2 hB2
                go_wp2
                go_ret
                exact ⟨ret_bool (HV.out).symm, HB.out⟩
            · have en11 : (n11 == 0) = false := by simp [hn11]
              have HV := Lib.hid (show decide (unusedP ⟨3, n1, [], n3, n4, n5, [], n7, n8, n9, false, n11, n12⟩) = false by simp [unusedP, isTemplate, *])
              clear hn4 hn11
              go_enter Try.func93, Try.ntmps93
              go_wp2_with fail
              refine (HIT.out _).mono ?_
              rintro e w2 ⟨rfl, hB2⟩
              have HB := Lib.hid ((below_alloc w _).trans (hB2.mono (by simp)))
              have F2 := HBX.out.below hB2
              have z0 := F2.c0; have z11 := F2.c11; have z12 := F2.c12
              simp only [Nat.zero_add] at z0 z11 z12
              clear F2 hB2
              go_wp2
              go_ret
              exact ⟨ret_bool (HV.out).symm, HB.out⟩
        · have en7 : (!n7.toList.isEmpty) = true := by simpa using hn7
          have HV := Lib.hid (show decide (unusedP ⟨3, n1, [], n3, n4, n5, [], n7, n8, n9, n10, n11, n12⟩) = false by simp [unusedP, isTemplate, *])
          clear hn4
          go_enter Try.func93, Try.ntmps93
          go_wp2
          go_ret
          exact ⟨ret_bool (HV.out).symm, below_alloc _ _⟩
    · have en4 : (n4 != 0) = true := by simp [hn4]
      have fn4 : (n4 == 0) = false := by simp [hn4]
      have HV := Lib.hid (show decide (unusedP ⟨3, n1, [], n3, n4, n5, n6, n7, n8, n9, n10, n11, n12⟩) = false by simp [unusedP, isTemplate, *])
      clear hn4
      go_enter Try.func93, Try.ntmps93
      go_wp2
      go_ret
      exact ⟨ret_bool (HV.out).symm, below_alloc _ _⟩

set_option maxRecDepth 100000 in
set_option maxHeartbeats 4000000 in
theorem Unused_4 (n : Nd) (kv av : Value) (w : World) (hk : RInts w kv n.kids) (ha : RAttrs w av n.attrs) (h1 : n.kind = 4) :
    Calls Try.prog 93 #[.agg (n.cells kv av).toArray] w fun e w' => e = .returned (.bool (decide (unusedP n))) ∧ Below w.heap.size w w' := by
  obtain ⟨n0, n1, n2, n3, n4, n5, n6, n7, n8, n9, n10, n11, n12⟩ := n
  dsimp only at h1
  subst h1
  obtain ⟨ka, kc, rfl, kl1, kl2, -⟩ := hk.form
  obtain ⟨aa, ac, rfl, al1, al2, -⟩ := ha.form
  clear hk ha
  have HIT0 := Lib.hid (fun W => IsTemplate_any ⟨4, n1, n2, n3, n4, n5, n6, n7, n8, n9, n10, n11, n12⟩ (.slice ka n2.length kc) (.slice aa n6.length ac) W)
  have HBX := Lib.hid (boxF w ⟨4, n1, n2, n3, n4, n5, n6, n7, n8, n9, n10, n11, n12⟩ (.slice ka n2.length kc) (.slice aa n6.length ac) 36)
  unfold Nd.cells at HIT0 HBX ⊢
  by_cases hn8 : n8.toList = []
  · have en8 : (!n8.toList.isEmpty) = false := by simp [hn8]
    by_cases hn9 : n9.toList = []
    · have en9 : (!n9.toList.isEmpty) = false := by simp [hn9]
      by_cases hn7 : n7.toList = []
      · have en7 : (!n7.toList.isEmpty) = false := by simp [hn7]
        cases n10 with
        | true =>
          have HV := Lib.hid (show decide (unusedP ⟨4, n1, n2, n3, n4, n5, n6, n7, n8, n9, true, n11, n12⟩) = false by simp [unusedP, isTemplate, *])
          go_enter Try.func93, Try.ntmps93
          go_wp2
          go_ret
          exact ⟨ret_bool (HV.out).symm, below_alloc _ _⟩
        | false =>
          by_cases ht : isTemplate ⟨4, n1, n2, n3, n4, n5, n6, n7, n8, n9, false, n11, n12⟩
          · have HIT := Lib.hid (fun W => (HIT0.out W).mono (fun e w' hh => show e = .returned (.bool true) ∧ Below W.heap.size W w' from ⟨by rw [hh.1]; simp only [Ending.returned.injEq, Value.bool.injEq]; exact decide_eq_true ht, hh.2⟩))
            obtain ⟨-, ht1, ht2⟩ := id ht
            dsimp only at ht1 ht2
            by_cases hn12 : n12 = 0
            · have en12 : (n12 != 0) = false := by simp [hn12]
              have fn12 : (n12 == 0) = true := by simp [hn12]
              have HV := Lib.hid (show decide (unusedP ⟨4, n1, n2, n3, n4, n5, n6, n7, n8, n9, false, n11, n12⟩) = true by simp [unusedP, isTemplate, *])
              clear ht ht1 ht2 hn12
              go_enter Try.func93, Try.ntmps93
              go_wp2_with fail
              refine (HIT.out _).mono ?_
              rintro e w2 ⟨rfl, hB2⟩
              have HB := Lib.hid ((below_alloc w _).trans (hB2.mono (by simp)))
              have F2 := HBX.out.below hB2
              have z0 := F2.c0; have z11 := F2.c11; have z12 := F2.c12
              simp only [Nat.zero_add] at z0 z11 z12
              clear F2 hB2
              go_wp2
              go_ret
              exact ⟨ret_bool (HV.out).symm, HB.out⟩
            · have en12 : (n12 != 0) = true := by simp [hn12]
              have fn12 : (n12 == 0) = false := by simp [hn12]
              have HV := Lib.hid (show decide (unusedP ⟨4, n1, n2, n3, n4, n5, n6, n7, n8, n9, false, n11, n12⟩) = false by simp [unusedP, isTemplate, *])
              clear ht ht1 ht2 hn12
              go_enter Try.func93, Try.ntmps93
              go_wp2_with fail
              refine (HIT.out _).mono ?_
              rintro e w2 ⟨rfl, hB2⟩
              have HB := Lib.hid ((below_alloc w _).trans (hB2.mono (by simp)))
              have F2 := HBX.out.below hB2
              have z0 := F2.c0; have z11 := F2.c11; have z12 := F2.c12
              simp only [Nat.zero_add] at z0 z11 z12
              clear F2 hB2
              go_wp2
              go_ret
              exact ⟨ret_bool (HV.out).symm, HB.out⟩
          · have HIT := Lib.hid (fun W => (HIT0.out W).mono (fun e w' hh => show e = .returned (.bool false) ∧ Below W.heap.size W w' from ⟨by rw [hh.1]; simp only [Ending.returned.injEq, Value.bool.injEq]; exact decide_eq_false ht, hh.2⟩))
            by_cases hn11 : n11 = 0
            · have en11 : (n11 == 0) = true := by simp [hn11]
              by_cases hn12 : n12 = 0
              · have en12 : (n12 != 0) = false := by simp [hn12]
                have fn12 : (n12 == 0) = true := by simp [hn12]
                have HV := Lib.hid (show decide (unusedP ⟨4, n1, n2, n3, n4, n5, n6, n7, n8, n9, false, n11, n12⟩) = true by simp [unusedP, isTemplate, *])
                clear ht hn11 hn12
                go_enter Try.func93, Try.ntmps93
                go_wp2_with fail
                refine (HIT.out _).mono ?_
                rintro e w2 ⟨rfl, hB2⟩
                have HB := Lib.hid ((below_alloc w _).trans (hB2.mono (by simp)))
                have F2 := HBX.out.below hB2
                have z0 := F2.c0; have z11 := F2.c11; have z12 := F2.c12
                simp only [Nat.zero_add] at z0 z11 z12
                clear F2 hB2
                go_wp2
                go_ret
                exact ⟨ret_bool (HV.out).symm, HB.out⟩
              · have en12 : (n12 != 0) = true := by simp [hn12]
                have fn12 : (n12 == 0) = false := by simp [hn12]
                have HV := Lib.hid (show decide (unusedP ⟨4, n1, n2, n3, n4, n5, n6, n7, n8, n9, false, n11, n12⟩) = false by simp [unusedP, isTemplate, *])
                clear ht hn11 hn12
                go_enter Try.func93, Try.ntmps93
                go_wp2_with fail
                refine (HIT.out _).mono ?_
                rintro e w2 ⟨rfl, hB2⟩
                have HB := Lib.hid ((below_alloc w _).trans (hB2.mono (by simp)))
                have F2 := HBX.out.below hB2
                have z0 := F2.c0; have z11 := F2.c11; have z12 := F2.c12
                simp only [Nat.zero_add] at z0 z11 z12
                clear F2 hB2
                go_wp2
                go_ret
                exact ⟨ret_bool (HV.out).symm, HB.out⟩
            · have en11 : (n11 == 0) = false := by simp [hn11]
              have HV := Lib.hid (show decide (unusedP ⟨4, n1, n2, n3, n4, n5, n6, n7, n8, n9, false, n11, n12⟩) = false from decide_eq_false (fun q => (q.2.2.2.2.2.2.2.1).elim ht hn11))
              clear ht hn11
              go_enter Try.func93, Try.ntmps93
              go_wp2_with fail
              refine (HIT.out _).mono ?_
              rintro e w2 ⟨rfl, hB2⟩
              have HB := Lib.hid ((below_alloc w _).trans (hB2.mono (by simp)))
              have F2 := HBX.out.below hB2
              have z0 := F2.c0; have z11 := F2.c11; have z12 := F2.c12
              simp only [Nat.zero_add] at z0 z11 z12
              clear F2 hB2
              go_wp2
              go_ret
              exact ⟨ret_bool (HV.out).symm, HB.out⟩
      · have en7 : (!n7.toList.isEmpty) = true := by simpa using hn7
        have HV := Lib.hid (show decide (unusedP ⟨4, n1, n2, n3, n4, n5, n6, n7, n8, n9, n10, n11, n12⟩) = false by simp [unusedP, isTemplate, *])
        go_enter Try.func93, Try.ntmps93
        go_wp2
        go_ret
        exact ⟨ret_bool (HV.out).symm, below_alloc _ _⟩
    · have en9 : (!n9.toList.isEmpty) = true := by simpa using hn9
      have HV := Lib.hid (show decide (unusedP ⟨4, n1, n2, n3, n4, n5, n6, n7, n8, n9, n10, n11, n12⟩) = false by simp [unusedP, isTemplate, *])
      go_enter Try.func93, Try.ntmps93
      go_wp2
      go_ret
      exact ⟨ret_bool (HV.out).symm, below_alloc _ _⟩
  · have en8 : (!n8.toList.isEmpty) = true := by simpa using hn8
    have HV := Lib.hid (show decide (unusedP ⟨4, n1, n2, n3, n4, n5, n6, n7, n8, n9, n10, n11, n12⟩) = false by simp [unusedP, isTemplate, *])
    go_enter Try.func93, Try.ntmps93
    go_wp2
    go_ret
    exact ⟨ret_bool (HV.out).symm, below_alloc _ _⟩

set_option maxRecDepth 100000 in
set_option maxHeartbeats 4000000 in
theorem Unused_5 (n : Nd) (kv av : Value) (w : World) (hk : RInts w kv n.kids) (ha : RAttrs w av n.attrs) (h1 : n.kind = 5) :
    Calls Try.prog 93 #[.agg (n.cells kv av).toArray] w fun e w' => e = .returned (.bool (decide (unusedP n))) ∧ Below w.heap.size w w' := by
  obtain ⟨n0, n1, n2, n3, n4, n5, n6, n7, n8, n9, n10, n11, n12⟩ := n
  dsimp only at h1
  subst h1
  obtain ⟨ka, kc, rfl, kl1, kl2, -⟩ := hk.form
  obtain ⟨aa, ac, rfl, al1, al2, -⟩ := ha.form
  clear hk ha
  have HIT0 := Lib.hid (fun W => IsTemplate_any ⟨5, n1, n2, n3, n4, n5, n6, n7, n8, n9, n10, n11, n12⟩ (.slice ka n2.length kc) (.slice aa n6.length ac) W)
  have HBX := Lib.hid (boxF w ⟨5, n1, n2, n3, n4, n5, n6, n7, n8, n9, n10, n11, n12⟩ (.slice ka n2.length kc) (.slice aa n6.length ac) 36)
  have HIT := Lib.hid (fun W => (HIT0.out W).mono (fun e w' hh => show e = .returned (.bool false) ∧ Below W.heap.size W w' from ⟨by rw [hh.1]; simp [isTemplate], hh.2⟩))
  clear HIT0
  unfold Nd.cells at HIT HBX ⊢
  cases n2 with
  | cons y ys =>
    have HV := Lib.hid (show decide (unusedP ⟨5, n1, (y :: ys), n3, n4, n5, n6, n7, n8, n9, n10, n11, n12⟩) = false by simp [unusedP, isTemplate, *])
    go_enter Try.func93, Try.ntmps93
    go_wp2
    go_ret
    exact ⟨ret_bool (HV.out).symm, below_alloc _ _⟩
  | nil =>
    by_cases hn4 : n4 = 0
    · have en4 : (n4 != 0) = false := by simp [hn4]
      have fn4 : (n4 == 0) = true := by simp [hn4]
      cases n6 with
      | cons y ys =>
        have HV := Lib.hid (show decide (unusedP ⟨5, n1, [], n3, n4, n5, (y :: ys), n7, n8, n9, n10, n11, n12⟩) = false by simp [unusedP, isTemplate, *])
        clear hn4
        go_enter Try.func93, Try.ntmps93
        go_wp2
        go_ret
        exact ⟨ret_bool (HV.out).symm, below_alloc _ _⟩
      | nil =>
        by_cases hn5 : n5.toList = []
        · have en5 : (!n5.toList.isEmpty) = false := by simp [hn5]
          by_cases hn8 : n8.toList = []
          · have en8 : (!n8.toList.isEmpty) = false := by simp [hn8]
            by_cases hn9 : n9.toList = []
            · have en9 : (!n9.toList.isEmpty) = false := by simp [hn9]
              cases n10 with
              | true =>
                have HV := Lib.hid (show decide (unusedP ⟨5, n1, [], n3, n4, n5, [], n7, n8, n9, true, n11, n12⟩) = false by simp [unusedP, isTemplate, *])
                clear hn4
                go_enter Try.func93, Try.ntmps93
                go_wp2
                go_ret
                exact ⟨ret_bool (HV.out).symm, below_alloc _ _⟩
              | false =>
                by_cases hn11 : n11 = 0
                · have en11 : (n11 == 0) = true := by simp [hn11]
                  by_cases hn12 : n12 = 0
                  · have en12 : (n12 != 0) = false := by simp [hn12]
                    have fn12 : (n12 == 0) = true := by simp [hn12]
                    have HV := Lib.hid (show decide (unusedP ⟨5, n1, [], n3, n4, n5, [], n7, n8, n9, false, n11, n12⟩) = true by simp [unusedP, isTemplate, *])
                    clear hn4 hn11 hn12
                    go_enter Try.func93, Try.ntmps93
                    go_wp2_with fail
                    refine (HIT.out _).mono ?_
                    rintro e w2 ⟨rfl, hB2⟩
                    have HB := Lib.hid ((below_alloc w _).trans (hB2.mono (by simp)))
                    have F2 := HBX.out.below hB2
                    have z0 := F2.c0; have z11 := F2.c11; have z12 := F2.c12
                    simp only [Nat.zero_add] at z0 z11 z12
                    clear F2 hB2
                    go_wp2
                    go_ret
                    exact ⟨ret_bool (HV.out).symm, HB.out⟩
                  · have en12 : (n12 != 0) = true := by simp [hn12]
                    have fn12 : (n12 == 0) = false := by simp [hn12]
                    have HV := Lib.hid (show decide (unusedP ⟨5, n1, [], n3, n4, n5, [], n7, n8, n9, false, n11, n12⟩) = false by simp [unusedP, isTemplate, *])
                    clear hn4 hn11 hn12
                    go_enter Try.func93, Try.ntmps93
                    go_wp2_with fail
                    refine (HIT.out _).mono ?_
                    rintro e w2 ⟨rfl, hB2⟩
                    have HB := Lib.hid ((below_alloc w _).trans (hB2.mono (by simp)))
                    have F2 := HBX.out.below hB2
                    have z0 := F2.c0; have z11 := F2.c11; have z12 := F2.c12
                    simp only [Nat.zero_add] at z0 z11 z12
                    clear F2 hB2
                    go_wp2
                    go_ret
                    exact ⟨ret_bool (HV.out).symm, HB.out⟩
                · have en11 : (n11 == 0) = false := by simp [hn11]
                  have HV := Lib.hid (show decide (unusedP ⟨5, n1, [], n3, n4, n5, [], n7, n8, n9, false, n11, n12⟩) = false by simp [unusedP, isTemplate, *])
                  clear hn4 hn11
                  go_enter Try.func93, Try.ntmps93
                  go_wp2_with fail
                  refine (HIT.out _).mono ?_
                  rintro e w2 ⟨rfl, hB2⟩
                  have HB := Lib.hid ((below_alloc w _).trans (hB2.mono (by simp)))
                  have F2 := HBX.out.below hB2
                  have z0 := F2.c0; have z11 := F2.c11; have z12 := F2.c12
                  simp only [Nat.zero_add] at z0 z11 z12
                  clear F2 hB2
                  go_wp2
                  go_ret
                  exact ⟨ret_bool (HV.out).symm, HB.out⟩
            · have en9 : (!n9.toList.isEmpty) = true := by simpa using hn9
              have HV := Lib.hid (show decide (unusedP ⟨5, n1, [], n3, n4, n5, [], n7, n8, n9, n10, n11, n12⟩) = false by simp [unusedP, isTemplate, *])
              clear hn4
              go_enter Try.func93, Try.ntmps93
              go_wp2
              go_ret
              exact ⟨ret_bool (HV.out).symm, below_alloc _ _⟩
          · have en8 : (!n8.toList.isEmpty) = true := by simpa using hn8
            have HV := Lib.hid (show decide (unusedP ⟨5, n1, [], n3, n4, n5, [], n7, n8, n9, n10, n11, n12⟩) = false by simp [unusedP, isTemplate, *])
            clear hn4
            go_enter Try.func93, Try.ntmps93
            go_wp2
            go_ret
            exact ⟨ret_bool (HV.out).symm, below_alloc _ _⟩
        · have en5 : (!n5.toList.isEmpty) = true := by simpa using hn5
          have HV := Lib.hid (show decide (unusedP ⟨5, n1, [], n3, n4, n5, [], n7, n8, n9, n10, n11, n12⟩) = false by simp [unusedP, isTemplate, *])
          clear hn4
          go_enter Try.func93, Try.ntmps93
          go_wp2
          go_ret
          exact ⟨ret_bool (HV.out).symm, below_alloc _ _⟩
    · have en4 : (n4 != 0) = true := by simp [hn4]
      have fn4 : (n4 == 0) = false := by simp [hn4]
      have HV := Lib.hid (show decide (unusedP ⟨5, n1, [], n3, n4, n5, n6, n7, n8, n9, n10, n11, n12⟩) = false by simp [unusedP, isTemplate, *])
      clear hn4
      go_enter Try.func93, Try.ntmps93
      go_wp2
      go_ret
      exact ⟨ret_bool (HV.out).symm, below_alloc _ _⟩

set_option maxRecDepth 100000 in
set_option maxHeartbeats 4000000 in
theorem Unused_6 (n : Nd) (kv av : Value) (w : World) (hk : RInts w kv n.kids) (ha : RAttrs w av n.attrs) (h1 : n.kind = 6) :
    Calls Try.prog 93 #[.agg (n.cells kv av).toArray] w fun e w' => e = .returned (.bool (decide (unusedP n))) ∧ Below w.heap.size w w' := by
  obtain ⟨n0, n1, n2, n3, n4, n5, n6, n7, n8, n9, n10, n11, n12⟩ := n
  dsimp only at h1
  subst h1
  obtain ⟨ka, kc, rfl, kl1, kl2, -⟩ := hk.form
  obtain ⟨aa, ac, rfl, al1, al2, -⟩ := ha.form
  clear hk ha
  have HIT0 := Lib.hid (fun W => IsTemplate_any ⟨6, n1, n2, n3, n4, n5, n6, n7, n8, n9, n10, n11, n12⟩ (.slice ka n2.length kc) (.slice aa n6.length ac) W)
  have HBX := Lib.hid (boxF w ⟨6, n1, n2, n3, n4, n5, n6, n7, n8, n9, n10, n11, n12⟩ (.slice ka n2.length kc) (.slice aa n6.length ac) 36)
  have HIT := Lib.hid (fun W => (HIT0.out W).mono (fun e w' hh => show e = .returned (.bool false) ∧ Below W.heap.size W w' from ⟨by rw [hh.1]; simp [isTemplate], hh.2⟩))
  clear HIT0
  unfold Nd.cells at HIT HBX ⊢
  cases n2 with
  | cons y ys =>
    have HV := Lib.hid (show decide (unusedP ⟨6, n1, (y :: ys), n3, n4, n5, n6, n7, n8, n9, n10, n11, n12⟩) = false by simp [unusedP, isTemplate, *])
    go_enter Try.func93, Try.ntmps93
    go_wp2
    go_ret
    exact ⟨ret_bool (HV.out).symm, below_alloc _ _⟩
  | nil =>
    by_cases hn4 : n4 = 0
    · have en4 : (n4 != 0) = false := by simp [hn4]
      have fn4 : (n4 == 0) = true := by simp [hn4]
      cases n6 with
      | cons y ys =>
        have HV := Lib.hid (show decide (unusedP ⟨6, n1, [], n3, n4, n5, (y :: ys), n7, n8, n9, n10, n11, n12⟩) = false by simp [unusedP, isTemplate, *])
        clear hn4
        go_enter Try.func93, Try.ntmps93
        go_wp2
        go_ret
        exact ⟨ret_bool (HV.out).symm, below_alloc _ _⟩
      | nil =>
        by_cases hn5 : n5.toList = []
        · have en5 : (!n5.toList.isEmpty) = false := by simp [hn5]
          by_cases hn8 : n8.toList = []
          · have en8 : (!n8.toList.isEmpty) = false := by simp [hn8]
            by_cases hn9 : n9.toList = []
            · have en9 : (!n9.toList.isEmpty) = false := by simp [hn9]
              cases n10 with
              | true =>
                have HV := Lib.hid (show decide (unusedP ⟨6, n1, [], n3, n4, n5, [], n7, n8, n9, true, n11, n12⟩) = false by simp [unusedP, isTemplate, *])
                clear hn4
                go_enter Try.func93, Try.ntmps93
                go_wp2
                go_ret
                exact ⟨ret_bool (HV.out).symm, below_alloc _ _⟩
              | false =>
                by_cases hn11 : n11 = 0
                · have en11 : (n11 == 0) = true := by simp [hn11]
                  by_cases hn12 : n12 = 0
                  · have en12 : (n12 != 0) = false := by simp [hn12]
                    have fn12 : (n12 == 0) = true := by simp [hn12]
                    have HV := Lib.hid (show decide (unusedP ⟨6, n1, [], n3, n4, n5, [], n7, n8, n9, false, n11, n12⟩) = true by simp [unusedP, isTemplate, *])
                    clear hn4 hn11 hn12
                    go_enter Try.func93, Try.ntmps93
                    go_wp2_with fail
                    refine (HIT.out _).mono ?_
                    rintro e w2 ⟨rfl, hB2⟩
                    have HB := Lib.hid ((below_alloc w _).trans (hB2.mono (by simp)))
                    have F2 := HBX.out.below hB2
                    have z0 := F2.c0; have z11 := F2.c11; have z12 := F2.c12
                    simp only [Nat.zero_add] at z0 z11 z12
                    clear F2 hB2
                    go_wp2
                    go_ret
                    exact ⟨ret_bool (HV.out).symm, HB.out⟩
                  · have en12 : (n12 != 0) = true := by simp [hn12]
                    have fn12 : (n12 == 0) = false := by simp [hn12]
                    have HV := Lib.hid (show decide (unusedP ⟨6, n1, [], n3, n4, n5, [], n7, n8, n9, false, n11, n12⟩) = false by simp [unusedP, isTemplate, *])
                    clear hn4 hn11 hn12
                    go_enter Try.func93, Try.ntmps93
                    go_wp2_with fail
                    refine (HIT.out _).mono ?_
                    rintro e w2 ⟨rfl, hB2⟩
                    have HB := Lib.hid ((below_alloc w _).trans (hB2.mono (by simp)))
                    have F2 := HBX.out.below hB2
                    have z0 := F2.c0; have z11 := F2.c11; have z12 := F2.c12
                    simp only [Nat.zero_add] at z0 z11 z12
                    clear F2 hB2
                    go_wp2
                    go_ret
                    exact ⟨ret_bool (HV.out).symm, HB.out⟩
                · have en11 : (n11 == 0) = false := by simp [hn11]
                  have HV := Lib.hid (show decide (unusedP ⟨6, n1, [], n3, n4, n5, [], n7, n8, n9, false, n11, n12⟩) = false by simp [unusedP, isTemplate, *])
                  clear hn4 hn11
                  go_enter Try.func93, Try.ntmps93
                  go_wp2_with fail
                  refine (HIT.out _).mono ?_
                  rintro e w2 ⟨rfl, hB2⟩
                  have HB := Lib.hid ((below_alloc w _).trans (hB2.mono (by simp)))
                  have F2 := HBX.out.below hB2
                  have z0 := F2.c0; have z11 := F2.c11; have z12 := F2.c12
                  simp only [Nat.zero_add] at z0 z11 z12
                  clear F2 hB2
                  go_wp2
                  go_ret
                  exact ⟨ret_bool (HV.out).symm, HB.out⟩
            · have en9 : (!n9.toList.isEmpty) = true := by simpa using hn9
              have HV := Lib.hid (show decide (unusedP ⟨6, n1, [], n3, n4, n5, [], n7, n8, n9, n10, n11, n12⟩) = false by simp [unusedP, isTemplate, *])
              clear hn4
              go_enter Try.func93, Try.ntmps93
              go_wp2
              go_ret
              exact ⟨ret_bool (HV.out).symm, below_alloc _ _⟩
          · have en8 : (!n8.toList.isEmpty) = true := by simpa using hn8
            have HV := Lib.hid (show decide (unusedP ⟨6, n1, [], n3, n4, n5, [], n7, n8, n9, n10, n11, n12⟩) = false by simp [unusedP, isTemplate, *])
            clear hn4
            go_enter Try.func93, Try.ntmps93
            go_wp2
            go_ret
            exact ⟨ret_bool (HV.out).symm, below_alloc _ _⟩
        · have en5 : (!n5.toList.isEmpty) = true := by simpa using hn5
          have HV := Lib.hid (show decide (unusedP ⟨6, n1, [], n3, n4, n5, [], n7, n8, n9, n10, n11, n12⟩) = false by simp [unusedP, isTemplate, *])
          clear hn4
          go_enter Try.func93, Try.ntmps93
          go_wp2
          go_ret
          exact ⟨ret_bool (HV.out).symm, below_alloc _ _⟩
    · have en4 : (n4 != 0) = true := by simp [hn4]
      have fn4 : (n4 == 0) = false := by simp [hn4]
      have HV := Lib.hid (show decide (unusedP ⟨6, n1, [], n3, n4, n5, n6, n7, n8, n9, n10, n11, n12⟩) = false by simp [unusedP, isTemplate, *])
      clear hn4
      go_enter Try.func93, Try.ntmps93
      go_wp2
      go_ret
      exact ⟨ret_bool (HV.out).symm, below_alloc _ _⟩

end Go.Proofs.Ytnfdcfagdidmhaa
