/-
  The law's Model: the same on the document's arena. (Printed by genmodel.py.)
-/
import Derived.Test.YtnfdcfagdidmhaaGreatDoorR12
namespace Go.Proofs.YtnfdcfagdidmhaaGreatDoor
open Go.RowKit
set_option linter.unusedVariables false

set_option maxRecDepth 100000 in
set_option maxHeartbeats 1000000 in
theorem Model_1 (A : Ar) (ρ : Nat → Nat) (b : Nat) (a b2 c : Int) (flag : Bool) (space : Int) (name s t : ByteArray) (attrs : List AttrD) (av : Value) (w : World) (hA : RMem w ρ b A) (hW : A.WF) (hv : RAttrs w av attrs) (hsmall : A.ns.length + 3 ≤ 1000000) (hl : attrs.length ≤ 1000000) :
    Calls Tryz.prog 36 #[.pointer (some ⟨b, 0, none⟩), .agg (OpD.cells ⟨1, a, b2, c, flag, space, name, s, t, attrs⟩ av).toArray] w (RAddR (A.step ⟨1, a, b2, c, flag, space, name, s, t, attrs⟩).2 ρ b w (pairV (A.step ⟨1, a, b2, c, flag, space, name, s, t, attrs⟩).1)) := by
  have hs1 : A.ns.length ≤ 1000000 := by omega
  obtain ⟨aa, ac, rfl, -⟩ := hv.form
  have hB := below_alloc w (.cells (OpD.cells ⟨1, a, b2, c, flag, space, name, s, t, attrs⟩ (.slice aa attrs.length ac)).toArray 46)
  have hA1 := hA.below hB
  have hv1 := hv.below hB
  unfold OpD.cells at *
  have HC := Lib.hid (RDocument_any A ρ b flag _ hA1 hs1)
  have HB := Lib.hid hB
  clear hB hA hA1 hv hv1 hW
  go_enter Tryz.func36, Tryz.ntmps36
  go_wp2_with fail
  refine HC.out.mono ?_
  rintro e w2 ⟨rfl, ρ', hA2, hT2⟩
  clear HC
  go_wp2
  go_ret2
  exact ⟨rfl, ρ', hA2, (Turn.below HB.out).trans hT2⟩

set_option maxRecDepth 100000 in
set_option maxHeartbeats 1000000 in
theorem Model_2 (A : Ar) (ρ : Nat → Nat) (b : Nat) (a b2 c : Int) (flag : Bool) (space : Int) (name s t : ByteArray) (attrs : List AttrD) (av : Value) (w : World) (hA : RMem w ρ b A) (hW : A.WF) (hv : RAttrs w av attrs) (hsmall : A.ns.length + 3 ≤ 1000000) (hl : attrs.length ≤ 1000000) :
    Calls Tryz.prog 36 #[.pointer (some ⟨b, 0, none⟩), .agg (OpD.cells ⟨2, a, b2, c, flag, space, name, s, t, attrs⟩ av).toArray] w (RAddR (A.step ⟨2, a, b2, c, flag, space, name, s, t, attrs⟩).2 ρ b w (pairV (A.step ⟨2, a, b2, c, flag, space, name, s, t, attrs⟩).1)) := by
  have hs1 : A.ns.length ≤ 1000000 := by omega
  obtain ⟨aa, ac, rfl, -⟩ := hv.form
  have hB := below_alloc w (.cells (OpD.cells ⟨2, a, b2, c, flag, space, name, s, t, attrs⟩ (.slice aa attrs.length ac)).toArray 46)
  have hA1 := hA.below hB
  have hv1 := hv.below hB
  unfold OpD.cells at *
  have HC := Lib.hid (RMake_any A ρ b a (docTypeNd name s t) _ hA1 hs1 rfl rfl)
  have HB := Lib.hid hB
  clear hB hA hA1 hv hv1 hW
  go_enter Tryz.func36, Tryz.ntmps36
  go_wp2_with fail
  refine HC.out.mono ?_
  rintro e w2 ⟨rfl, ρ', hA2, hT2⟩
  clear HC
  unfold pairV
  go_wp2
  go_ret2
  exact ⟨rfl, ρ', hA2, (Turn.below HB.out).trans hT2⟩

set_option maxRecDepth 100000 in
set_option maxHeartbeats 1000000 in
theorem Model_3 (A : Ar) (ρ : Nat → Nat) (b : Nat) (a b2 c : Int) (flag : Bool) (space : Int) (name s t : ByteArray) (attrs : List AttrD) (av : Value) (w : World) (hA : RMem w ρ b A) (hW : A.WF) (hv : RAttrs w av attrs) (hsmall : A.ns.length + 3 ≤ 1000000) (hl : attrs.length ≤ 1000000) :
    Calls Tryz.prog 36 #[.pointer (some ⟨b, 0, none⟩), .agg (OpD.cells ⟨3, a, b2, c, flag, space, name, s, t, attrs⟩ av).toArray] w (RAddR (A.step ⟨3, a, b2, c, flag, space, name, s, t, attrs⟩).2 ρ b w (pairV (A.step ⟨3, a, b2, c, flag, space, name, s, t, attrs⟩).1)) := by
  have hs1 : A.ns.length ≤ 1000000 := by omega
  obtain ⟨aa, ac, rfl, -⟩ := hv.form
  have hB := below_alloc w (.cells (OpD.cells ⟨3, a, b2, c, flag, space, name, s, t, attrs⟩ (.slice aa attrs.length ac)).toArray 46)
  have hA1 := hA.below hB
  have hv1 := hv.below hB
  unfold OpD.cells at *
  have HC := Lib.hid (RElement_any A ρ b a space name _ attrs _ hA1 hv1 hsmall hl)
  have HB := Lib.hid hB
  clear hB hA hA1 hv hv1 hW
  go_enter Tryz.func36, Tryz.ntmps36
  go_wp2_with fail
  refine HC.out.mono ?_
  rintro e w2 ⟨rfl, ρ', hA2, hT2⟩
  clear HC
  unfold pairV
  go_wp2
  go_ret2
  exact ⟨rfl, ρ', hA2, (Turn.below HB.out).trans hT2⟩

set_option maxRecDepth 100000 in
set_option maxHeartbeats 1000000 in
theorem Model_4 (A : Ar) (ρ : Nat → Nat) (b : Nat) (a b2 c : Int) (flag : Bool) (space : Int) (name s t : ByteArray) (attrs : List AttrD) (av : Value) (w : World) (hA : RMem w ρ b A) (hW : A.WF) (hv : RAttrs w av attrs) (hsmall : A.ns.length + 3 ≤ 1000000) (hl : attrs.length ≤ 1000000) :
    Calls Tryz.prog 36 #[.pointer (some ⟨b, 0, none⟩), .agg (OpD.cells ⟨4, a, b2, c, flag, space, name, s, t, attrs⟩ av).toArray] w (RAddR (A.step ⟨4, a, b2, c, flag, space, name, s, t, attrs⟩).2 ρ b w (pairV (A.step ⟨4, a, b2, c, flag, space, name, s, t, attrs⟩).1)) := by
  have hs1 : A.ns.length ≤ 1000000 := by omega
  obtain ⟨aa, ac, rfl, -⟩ := hv.form
  have hB := below_alloc w (.cells (OpD.cells ⟨4, a, b2, c, flag, space, name, s, t, attrs⟩ (.slice aa attrs.length ac)).toArray 46)
  have hA1 := hA.below hB
  have hv1 := hv.below hB
  unfold OpD.cells at *
  have HC := Lib.hid (RMake_any A ρ b a (textNd s) _ hA1 hs1 rfl rfl)
  have HB := Lib.hid hB
  clear hB hA hA1 hv hv1 hW
  go_enter Tryz.func36, Tryz.ntmps36
  go_wp2_with fail
  refine HC.out.mono ?_
  rintro e w2 ⟨rfl, ρ', hA2, hT2⟩
  clear HC
  unfold pairV
  go_wp2
  go_ret2
  exact ⟨rfl, ρ', hA2, (Turn.below HB.out).trans hT2⟩

set_option maxRecDepth 100000 in
set_option maxHeartbeats 1000000 in
theorem Model_5 (A : Ar) (ρ : Nat → Nat) (b : Nat) (a b2 c : Int) (flag : Bool) (space : Int) (name s t : ByteArray) (attrs : List AttrD) (av : Value) (w : World) (hA : RMem w ρ b A) (hW : A.WF) (hv : RAttrs w av attrs) (hsmall : A.ns.length + 3 ≤ 1000000) (hl : attrs.length ≤ 1000000) :
    Calls Tryz.prog 36 #[.pointer (some ⟨b, 0, none⟩), .agg (OpD.cells ⟨5, a, b2, c, flag, space, name, s, t, attrs⟩ av).toArray] w (RAddR (A.step ⟨5, a, b2, c, flag, space, name, s, t, attrs⟩).2 ρ b w (pairV (A.step ⟨5, a, b2, c, flag, space, name, s, t, attrs⟩).1)) := by
  have hs1 : A.ns.length ≤ 1000000 := by omega
  obtain ⟨aa, ac, rfl, -⟩ := hv.form
  have hB := below_alloc w (.cells (OpD.cells ⟨5, a, b2, c, flag, space, name, s, t, attrs⟩ (.slice aa attrs.length ac)).toArray 46)
  have hA1 := hA.below hB
  have hv1 := hv.below hB
  unfold OpD.cells at *
  have HC := Lib.hid (RMake_any A ρ b a (commentNd s) _ hA1 hs1 rfl rfl)
  have HB := Lib.hid hB
  clear hB hA hA1 hv hv1 hW
  go_enter Tryz.func36, Tryz.ntmps36
  go_wp2_with fail
  refine HC.out.mono ?_
  rintro e w2 ⟨rfl, ρ', hA2, hT2⟩
  clear HC
  unfold pairV
  go_wp2
  go_ret2
  exact ⟨rfl, ρ', hA2, (Turn.below HB.out).trans hT2⟩

set_option maxRecDepth 100000 in
set_option maxHeartbeats 1000000 in
theorem Model_6 (A : Ar) (ρ : Nat → Nat) (b : Nat) (a b2 c : Int) (flag : Bool) (space : Int) (name s t : ByteArray) (attrs : List AttrD) (av : Value) (w : World) (hA : RMem w ρ b A) (hW : A.WF) (hv : RAttrs w av attrs) (hsmall : A.ns.length + 3 ≤ 1000000) (hl : attrs.length ≤ 1000000) :
    Calls Tryz.prog 36 #[.pointer (some ⟨b, 0, none⟩), .agg (OpD.cells ⟨6, a, b2, c, flag, space, name, s, t, attrs⟩ av).toArray] w (RAddR (A.step ⟨6, a, b2, c, flag, space, name, s, t, attrs⟩).2 ρ b w (pairV (A.step ⟨6, a, b2, c, flag, space, name, s, t, attrs⟩).1)) := by
  have hs1 : A.ns.length ≤ 1000000 := by omega
  obtain ⟨aa, ac, rfl, -⟩ := hv.form
  have hB := below_alloc w (.cells (OpD.cells ⟨6, a, b2, c, flag, space, name, s, t, attrs⟩ (.slice aa attrs.length ac)).toArray 46)
  have hA1 := hA.below hB
  have hv1 := hv.below hB
  unfold OpD.cells at *
  have HC := Lib.hid (RMake_any A ρ b a fragNd _ hA1 hs1 rfl rfl)
  have HB := Lib.hid hB
  clear hB hA hA1 hv hv1 hW
  go_enter Tryz.func36, Tryz.ntmps36
  go_wp2_with fail
  refine HC.out.mono ?_
  rintro e w2 ⟨rfl, ρ', hA2, hT2⟩
  clear HC
  unfold pairV
  go_wp2
  go_ret2
  exact ⟨rfl, ρ', hA2, (Turn.below HB.out).trans hT2⟩

set_option maxRecDepth 100000 in
set_option maxHeartbeats 1000000 in
theorem Model_7 (A : Ar) (ρ : Nat → Nat) (b : Nat) (a b2 c : Int) (flag : Bool) (space : Int) (name s t : ByteArray) (attrs : List AttrD) (av : Value) (w : World) (hA : RMem w ρ b A) (hW : A.WF) (hv : RAttrs w av attrs) (hsmall : A.ns.length + 3 ≤ 1000000) (hl : attrs.length ≤ 1000000) :
    Calls Tryz.prog 36 #[.pointer (some ⟨b, 0, none⟩), .agg (OpD.cells ⟨7, a, b2, c, flag, space, name, s, t, attrs⟩ av).toArray] w (RAddR (A.step ⟨7, a, b2, c, flag, space, name, s, t, attrs⟩).2 ρ b w (pairV (A.step ⟨7, a, b2, c, flag, space, name, s, t, attrs⟩).1)) := by
  have hs1 : A.ns.length ≤ 1000000 := by omega
  obtain ⟨aa, ac, rfl, -⟩ := hv.form
  have hB := below_alloc w (.cells (OpD.cells ⟨7, a, b2, c, flag, space, name, s, t, attrs⟩ (.slice aa attrs.length ac)).toArray 46)
  have hA1 := hA.below hB
  have hv1 := hv.below hB
  unfold OpD.cells at *
  have HO := Lib.hid (ROfDoc_any A ρ b a _ hA1)
  have HIN := Lib.hid (fun (h : A.has a) => RInertOf_any A ρ b a _ hA1 hs1 h)
  have hfin : A.step ⟨7, a, b2, c, flag, space, name, s, t, attrs⟩ = A.inertCall a := rfl
  rw [hfin]
  have HA1 := Lib.hid hA1
  have HB := Lib.hid hB
  by_cases he : A.ofDoc a = 0
  · have e : A.inertCall a = (((A.inertOf a).1, 0), (A.inertOf a).2) := by unfold Ar.inertCall; rw [if_neg (by simp [he])]
    rw [e]
    have HE := Lib.hid he
    clear hB hA hA1 hv hv1 hW e he hfin
    go_enter Tryz.func36, Tryz.ntmps36
    go_wp2_with fail
    refine HO.out.mono ?_
    rintro e w2 ⟨rfl, rfl⟩
    rw [HE.out]
    go_wp2_with fail
    refine (HIN.out (ofDoc_has HE.out)).mono ?_
    rintro e w2 ⟨rfl, ρ', hA2, hT2⟩
    have HF := Lib.hid (And.intro hA2 ((Turn.below HB.out).trans hT2))
    clear hA2 hT2 HIN HO
    go_wp2
    go_ret2
    exact ⟨rfl, ρ', HF.out.1, HF.out.2⟩
  · have e : A.inertCall a = ((0, A.ofDoc a), A) := by unfold Ar.inertCall; rw [if_pos he]
    rw [e]
    have he1 : (A.ofDoc a != 0) = true := by simpa using he
    clear hB hA hA1 hv hv1 hW e he hfin HIN
    generalize A.ofDoc a = ee at *
    go_enter Tryz.func36, Tryz.ntmps36
    go_wp2_with fail
    refine HO.out.mono ?_
    rintro e w2 ⟨rfl, rfl⟩
    go_wp2
    go_ret2
    exact ⟨rfl, ρ, HA1.out, Turn.below HB.out⟩

set_option maxRecDepth 100000 in
set_option maxHeartbeats 1000000 in
theorem Model_8 (A : Ar) (ρ : Nat → Nat) (b : Nat) (a b2 c : Int) (flag : Bool) (space : Int) (name s t : ByteArray) (attrs : List AttrD) (av : Value) (w : World) (hA : RMem w ρ b A) (hW : A.WF) (hv : RAttrs w av attrs) (hsmall : A.ns.length + 3 ≤ 1000000) (hl : attrs.length ≤ 1000000) :
    Calls Tryz.prog 36 #[.pointer (some ⟨b, 0, none⟩), .agg (OpD.cells ⟨8, a, b2, c, flag, space, name, s, t, attrs⟩ av).toArray] w (RAddR (A.step ⟨8, a, b2, c, flag, space, name, s, t, attrs⟩).2 ρ b w (pairV (A.step ⟨8, a, b2, c, flag, space, name, s, t, attrs⟩).1)) := by
  have hs1 : A.ns.length ≤ 1000000 := by omega
  obtain ⟨aa, ac, rfl, -⟩ := hv.form
  have hB := below_alloc w (.cells (OpD.cells ⟨8, a, b2, c, flag, space, name, s, t, attrs⟩ (.slice aa attrs.length ac)).toArray 46)
  have hA1 := hA.below hB
  have hv1 := hv.below hB
  unfold OpD.cells at *
  have HC := Lib.hid (RPut_any A ρ b a b2 c _ hA1 hW hs1)
  have HB := Lib.hid hB
  clear hB hA hA1 hv hv1 hW
  go_enter Tryz.func36, Tryz.ntmps36
  go_wp2_with fail
  refine HC.out.mono ?_
  rintro e w2 ⟨rfl, ρ', hA2, hT2⟩
  clear HC
  go_wp2
  go_ret2
  exact ⟨rfl, ρ', hA2, (Turn.below HB.out).trans hT2⟩

set_option maxRecDepth 100000 in
set_option maxHeartbeats 1000000 in
theorem Model_9 (A : Ar) (ρ : Nat → Nat) (b : Nat) (a b2 c : Int) (flag : Bool) (space : Int) (name s t : ByteArray) (attrs : List AttrD) (av : Value) (w : World) (hA : RMem w ρ b A) (hW : A.WF) (hv : RAttrs w av attrs) (hsmall : A.ns.length + 3 ≤ 1000000) (hl : attrs.length ≤ 1000000) :
    Calls Tryz.prog 36 #[.pointer (some ⟨b, 0, none⟩), .agg (OpD.cells ⟨9, a, b2, c, flag, space, name, s, t, attrs⟩ av).toArray] w (RAddR (A.step ⟨9, a, b2, c, flag, space, name, s, t, attrs⟩).2 ρ b w (pairV (A.step ⟨9, a, b2, c, flag, space, name, s, t, attrs⟩).1)) := by
  have hs1 : A.ns.length ≤ 1000000 := by omega
  obtain ⟨aa, ac, rfl, -⟩ := hv.form
  have hB := below_alloc w (.cells (OpD.cells ⟨9, a, b2, c, flag, space, name, s, t, attrs⟩ (.slice aa attrs.length ac)).toArray 46)
  have hA1 := hA.below hB
  have hv1 := hv.below hB
  unfold OpD.cells at *
  have HC := Lib.hid (RCut_any A ρ b a _ hA1 hW hs1)
  have HB := Lib.hid hB
  clear hB hA hA1 hv hv1 hW
  go_enter Tryz.func36, Tryz.ntmps36
  go_wp2_with fail
  refine HC.out.mono ?_
  rintro e w2 ⟨rfl, ρ', hA2, hT2⟩
  clear HC
  go_wp2
  go_ret2
  exact ⟨rfl, ρ', hA2, (Turn.below HB.out).trans hT2⟩

set_option maxRecDepth 100000 in
set_option maxHeartbeats 1000000 in
theorem Model_10 (A : Ar) (ρ : Nat → Nat) (b : Nat) (a b2 c : Int) (flag : Bool) (space : Int) (name s t : ByteArray) (attrs : List AttrD) (av : Value) (w : World) (hA : RMem w ρ b A) (hW : A.WF) (hv : RAttrs w av attrs) (hsmall : A.ns.length + 3 ≤ 1000000) (hl : attrs.length ≤ 1000000) :
    Calls Tryz.prog 36 #[.pointer (some ⟨b, 0, none⟩), .agg (OpD.cells ⟨10, a, b2, c, flag, space, name, s, t, attrs⟩ av).toArray] w (RAddR (A.step ⟨10, a, b2, c, flag, space, name, s, t, attrs⟩).2 ρ b w (pairV (A.step ⟨10, a, b2, c, flag, space, name, s, t, attrs⟩).1)) := by
  have hs1 : A.ns.length ≤ 1000000 := by omega
  obtain ⟨aa, ac, rfl, -⟩ := hv.form
  have hB := below_alloc w (.cells (OpD.cells ⟨10, a, b2, c, flag, space, name, s, t, attrs⟩ (.slice aa attrs.length ac)).toArray 46)
  have hA1 := hA.below hB
  have hv1 := hv.below hB
  unfold OpD.cells at *
  have HC := Lib.hid (RSetData_any A ρ b a s _ hA1)
  have HB := Lib.hid hB
  clear hB hA hA1 hv hv1 hW
  go_enter Tryz.func36, Tryz.ntmps36
  go_wp2_with fail
  refine HC.out.mono ?_
  rintro e w2 ⟨rfl, ρ', hA2, hT2⟩
  clear HC
  go_wp2
  go_ret2
  exact ⟨rfl, ρ', hA2, (Turn.below HB.out).trans hT2⟩

set_option maxRecDepth 100000 in
set_option maxHeartbeats 1000000 in
theorem Model_11 (A : Ar) (ρ : Nat → Nat) (b : Nat) (a b2 c : Int) (flag : Bool) (space : Int) (name s t : ByteArray) (attrs : List AttrD) (av : Value) (w : World) (hA : RMem w ρ b A) (hW : A.WF) (hv : RAttrs w av attrs) (hsmall : A.ns.length + 3 ≤ 1000000) (hl : attrs.length ≤ 1000000) :
    Calls Tryz.prog 36 #[.pointer (some ⟨b, 0, none⟩), .agg (OpD.cells ⟨11, a, b2, c, flag, space, name, s, t, attrs⟩ av).toArray] w (RAddR (A.step ⟨11, a, b2, c, flag, space, name, s, t, attrs⟩).2 ρ b w (pairV (A.step ⟨11, a, b2, c, flag, space, name, s, t, attrs⟩).1)) := by
  have hs1 : A.ns.length ≤ 1000000 := by omega
  obtain ⟨aa, ac, rfl, -⟩ := hv.form
  have hB := below_alloc w (.cells (OpD.cells ⟨11, a, b2, c, flag, space, name, s, t, attrs⟩ (.slice aa attrs.length ac)).toArray 46)
  have hA1 := hA.below hB
  have hv1 := hv.below hB
  unfold OpD.cells at *
  have HC := Lib.hid (RSetAttrs_any A ρ b a _ attrs _ hA1 hv1 hl)
  have HB := Lib.hid hB
  clear hB hA hA1 hv hv1 hW
  go_enter Tryz.func36, Tryz.ntmps36
  go_wp2_with fail
  refine HC.out.mono ?_
  rintro e w2 ⟨rfl, ρ', hA2, hT2⟩
  clear HC
  go_wp2
  go_ret2
  exact ⟨rfl, ρ', hA2, (Turn.below HB.out).trans hT2⟩

set_option maxRecDepth 100000 in
set_option maxHeartbeats 1000000 in
theorem Model_12 (A : Ar) (ρ : Nat → Nat) (b : Nat) (a b2 c : Int) (flag : Bool) (space : Int) (name s t : ByteArray) (attrs : List AttrD) (av : Value) (w : World) (hA : RMem w ρ b A) (hW : A.WF) (hv : RAttrs w av attrs) (hsmall : A.ns.length + 3 ≤ 1000000) (hl : attrs.length ≤ 1000000) :
    Calls Tryz.prog 36 #[.pointer (some ⟨b, 0, none⟩), .agg (OpD.cells ⟨12, a, b2, c, flag, space, name, s, t, attrs⟩ av).toArray] w (RAddR (A.step ⟨12, a, b2, c, flag, space, name, s, t, attrs⟩).2 ρ b w (pairV (A.step ⟨12, a, b2, c, flag, space, name, s, t, attrs⟩).1)) := by
  have hs1 : A.ns.length ≤ 1000000 := by omega
  obtain ⟨aa, ac, rfl, -⟩ := hv.form
  have hB := below_alloc w (.cells (OpD.cells ⟨12, a, b2, c, flag, space, name, s, t, attrs⟩ (.slice aa attrs.length ac)).toArray 46)
  have hA1 := hA.below hB
  have hv1 := hv.below hB
  unfold OpD.cells at *
  have HC := Lib.hid (RSetQuirks_any A ρ b a flag _ hA1)
  have HB := Lib.hid hB
  clear hB hA hA1 hv hv1 hW
  go_enter Tryz.func36, Tryz.ntmps36
  go_wp2_with fail
  refine HC.out.mono ?_
  rintro e w2 ⟨rfl, ρ', hA2, hT2⟩
  clear HC
  go_wp2
  go_ret2
  exact ⟨rfl, ρ', hA2, (Turn.below HB.out).trans hT2⟩

set_option maxRecDepth 100000 in
set_option maxHeartbeats 1000000 in
theorem Model_13 (A : Ar) (ρ : Nat → Nat) (b : Nat) (a b2 c : Int) (flag : Bool) (space : Int) (name s t : ByteArray) (attrs : List AttrD) (av : Value) (w : World) (hA : RMem w ρ b A) (hW : A.WF) (hv : RAttrs w av attrs) (hsmall : A.ns.length + 3 ≤ 1000000) (hl : attrs.length ≤ 1000000) :
    Calls Tryz.prog 36 #[.pointer (some ⟨b, 0, none⟩), .agg (OpD.cells ⟨13, a, b2, c, flag, space, name, s, t, attrs⟩ av).toArray] w (RAddR (A.step ⟨13, a, b2, c, flag, space, name, s, t, attrs⟩).2 ρ b w (pairV (A.step ⟨13, a, b2, c, flag, space, name, s, t, attrs⟩).1)) := by
  have hs1 : A.ns.length ≤ 1000000 := by omega
  obtain ⟨aa, ac, rfl, -⟩ := hv.form
  have hB := below_alloc w (.cells (OpD.cells ⟨13, a, b2, c, flag, space, name, s, t, attrs⟩ (.slice aa attrs.length ac)).toArray 46)
  have hA1 := hA.below hB
  have hv1 := hv.below hB
  unfold OpD.cells at *
  have HC := Lib.hid (RSetDoc_any A ρ b a b2 _ hA1)
  have HB := Lib.hid hB
  clear hB hA hA1 hv hv1 hW
  go_enter Tryz.func36, Tryz.ntmps36
  go_wp2_with fail
  refine HC.out.mono ?_
  rintro e w2 ⟨rfl, ρ', hA2, hT2⟩
  clear HC
  go_wp2
  go_ret2
  exact ⟨rfl, ρ', hA2, (Turn.below HB.out).trans hT2⟩

set_option maxRecDepth 100000 in
set_option maxHeartbeats 1000000 in
theorem Model_none (A : Ar) (ρ : Nat → Nat) (b : Nat) (kind a b2 c : Int) (flag : Bool) (space : Int) (name s t : ByteArray) (attrs : List AttrD) (av : Value) (w : World) (hA : RMem w ρ b A) (hW : A.WF) (hv : RAttrs w av attrs) (hsmall : A.ns.length + 3 ≤ 1000000) (hl : attrs.length ≤ 1000000) (hk : ∀ j : Int, 1 ≤ j → j ≤ 13 → kind ≠ j) :
    Calls Tryz.prog 36 #[.pointer (some ⟨b, 0, none⟩), .agg (OpD.cells ⟨kind, a, b2, c, flag, space, name, s, t, attrs⟩ av).toArray] w (RAddR A ρ b w (pairV (0, 0))) := by
  have hs1 : A.ns.length ≤ 1000000 := by omega
  obtain ⟨aa, ac, rfl, -⟩ := hv.form
  have hB := below_alloc w (.cells (OpD.cells ⟨kind, a, b2, c, flag, space, name, s, t, attrs⟩ (.slice aa attrs.length ac)).toArray 46)
  have hA1 := hA.below hB
  have hv1 := hv.below hB
  unfold OpD.cells at *

  have e1 : (kind == 1) = false := by simp [hk 1 (by omega) (by omega)]
  have e2 : (kind == 2) = false := by simp [hk 2 (by omega) (by omega)]
  have e3 : (kind == 3) = false := by simp [hk 3 (by omega) (by omega)]
  have e4 : (kind == 4) = false := by simp [hk 4 (by omega) (by omega)]
  have e5 : (kind == 5) = false := by simp [hk 5 (by omega) (by omega)]
  have e6 : (kind == 6) = false := by simp [hk 6 (by omega) (by omega)]
  have e7 : (kind == 7) = false := by simp [hk 7 (by omega) (by omega)]
  have e8 : (kind == 8) = false := by simp [hk 8 (by omega) (by omega)]
  have e9 : (kind == 9) = false := by simp [hk 9 (by omega) (by omega)]
  have e10 : (kind == 10) = false := by simp [hk 10 (by omega) (by omega)]
  have e11 : (kind == 11) = false := by simp [hk 11 (by omega) (by omega)]
  have e12 : (kind == 12) = false := by simp [hk 12 (by omega) (by omega)]
  have e13 : (kind == 13) = false := by simp [hk 13 (by omega) (by omega)]
  have HB := Lib.hid hB
  have HA1 := Lib.hid hA1
  clear hB hA hA1 hv hv1 hW hk
  go_enter Tryz.func36, Tryz.ntmps36
  go_wp2
  go_ret2
  exact ⟨rfl, ρ, HA1.out, Turn.below HB.out⟩

/-- **Model.** -/
theorem Model_any (A : Ar) (ρ : Nat → Nat) (b : Nat) (x : OpD) (av : Value) (w : World) (hA : RMem w ρ b A) (hW : A.WF) (hv : RAttrs w av x.attrs) (hsmall : A.ns.length + 3 ≤ 1000000) (hl : x.attrs.length ≤ 1000000) :
    Calls Tryz.prog 36 #[.pointer (some ⟨b, 0, none⟩), .agg (x.cells av).toArray] w (RAddR (A.step x).2 ρ b w (pairV (A.step x).1)) := by
  obtain ⟨kind, a, b2, c, flag, space, name, s, t, attrs⟩ := x
  by_cases h1 : kind = 1
  · subst h1; exact Model_1 A ρ b a b2 c flag space name s t attrs av w hA hW hv hsmall hl
  by_cases h2 : kind = 2
  · subst h2; exact Model_2 A ρ b a b2 c flag space name s t attrs av w hA hW hv hsmall hl
  by_cases h3 : kind = 3
  · subst h3; exact Model_3 A ρ b a b2 c flag space name s t attrs av w hA hW hv hsmall hl
  by_cases h4 : kind = 4
  · subst h4; exact Model_4 A ρ b a b2 c flag space name s t attrs av w hA hW hv hsmall hl
  by_cases h5 : kind = 5
  · subst h5; exact Model_5 A ρ b a b2 c flag space name s t attrs av w hA hW hv hsmall hl
  by_cases h6 : kind = 6
  · subst h6; exact Model_6 A ρ b a b2 c flag space name s t attrs av w hA hW hv hsmall hl
  by_cases h7 : kind = 7
  · subst h7; exact Model_7 A ρ b a b2 c flag space name s t attrs av w hA hW hv hsmall hl
  by_cases h8 : kind = 8
  · subst h8; exact Model_8 A ρ b a b2 c flag space name s t attrs av w hA hW hv hsmall hl
  by_cases h9 : kind = 9
  · subst h9; exact Model_9 A ρ b a b2 c flag space name s t attrs av w hA hW hv hsmall hl
  by_cases h10 : kind = 10
  · subst h10; exact Model_10 A ρ b a b2 c flag space name s t attrs av w hA hW hv hsmall hl
  by_cases h11 : kind = 11
  · subst h11; exact Model_11 A ρ b a b2 c flag space name s t attrs av w hA hW hv hsmall hl
  by_cases h12 : kind = 12
  · subst h12; exact Model_12 A ρ b a b2 c flag space name s t attrs av w hA hW hv hsmall hl
  by_cases h13 : kind = 13
  · subst h13; exact Model_13 A ρ b a b2 c flag space name s t attrs av w hA hW hv hsmall hl
  have hz : A.step ⟨kind, a, b2, c, flag, space, name, s, t, attrs⟩ = ((0, 0), A) := by simp [Ar.step, h1, h2, h3, h4, h5, h6, h7, h8, h9, h10, h11, h12, h13]
  rw [hz]
  exact Model_none A ρ b kind a b2 c flag space name s t attrs av w hA hW hv hsmall hl (fun j h1 h2 e => by omega)

end Go.Proofs.YtnfdcfagdidmhaaGreatDoor
