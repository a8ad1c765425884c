/-
  Parts: TY.
-/
import Derived.Laws.IdiomStrings
import Derived.Lib.IndexAny
import Derived.Test.YtpicinjcmjaogaaGreatN09

/- Contracts of text: letters, all, none, Lower, ValidElement, ValidAttribute. -/
namespace Go.Proofs.YtpicinjcmjaogaaGreat
open Go.RowKit Go.Shelf
set_option linter.unusedVariables false

theorem eqB (c k : UInt8) : (c == k) = decide (c.toNat = k.toNat) := by
  rw [Bool.eq_iff_iff]; simp [UInt8.toNat_inj]

theorem u8_wrap (c : UInt8) : IntKind.u8.wrap (c.toNat : Int) = c.toNat := by
  have := c.toNat_lt
  unfold IntKind.wrap
  have e1 : IntKind.u8.bits = 8 := rfl
  have e2 : IntKind.u8.signed = false := rfl
  rw [e1, e2]; simp; omega
theorem wrap32_byte (c : UInt8) : wrap32 (c.toNat : Int) = c.toNat := by
  have := c.toNat_lt
  unfold wrap32; omega
theorem fnR_fn {n : Nat} {p : UInt8 → Bool} (hE : Enters Tryz.prog n) (h : ∀ (c : UInt8) w, Calls Tryz.prog n #[.int .i32 (c.toNat : Int)] w fun e w' => e = .returned (.bool (p c)) ∧ Below w.heap.size w w') (w : World) : FnR w (.func (.func n) #[] #[]) p :=
  ⟨n, #[], rfl, hE, fun w' _ c => h c w'⟩
theorem fnsR_row {w : World} {t : TypeId} {fs : List Value} {ps : List (UInt8 → Bool)} (hl : ps.length ≤ 100) (h : ∀ (i : Nat) p, ps[i]? = some p → ∃ f, fs[i]? = some f ∧ FnR w f p) : FnsR (w.alloc (.cells fs.toArray t)) (.slice (some ⟨w.heap.size, 0, none⟩) ps.length ps.length) ps :=
  ⟨_, _, rfl, hl, fun _ => ⟨_, 0, rfl, fun i p hp => by
    obtain ⟨f, h1, h2⟩ := h i p hp
    exact ⟨f, cell_new' rfl (by simpa using h1), h2.below (below_alloc _ _)⟩⟩⟩

theorem fnsR2 {w : World} {t : TypeId} {f1 f2 : Value} {p1 p2 : UInt8 → Bool} (h1 : FnR w f1 p1) (h2 : FnR w f2 p2) : FnsR (w.alloc (.cells #[f1, f2] t)) (.slice (some ⟨w.heap.size, 0, none⟩) 2 2) [p1, p2] :=
  fnsR_row (fs := [f1, f2]) (ps := [p1, p2]) (by simp) (fun i p hp => by
    match i, hp with
    | 0, hp => cases hp; exact ⟨_, rfl, h1⟩
    | 1, hp => cases hp; exact ⟨_, rfl, h2⟩
    | i + 2, hp => simp at hp)
theorem fnsR3 {w : World} {t : TypeId} {f1 f2 f3 : Value} {p1 p2 p3 : UInt8 → Bool} (h1 : FnR w f1 p1) (h2 : FnR w f2 p2) (h3 : FnR w f3 p3) : FnsR (w.alloc (.cells #[f1, f2, f3] t)) (.slice (some ⟨w.heap.size, 0, none⟩) 3 3) [p1, p2, p3] :=
  fnsR_row (fs := [f1, f2, f3]) (ps := [p1, p2, p3]) (by simp) (fun i p hp => by
    match i, hp with
    | 0, hp => cases hp; exact ⟨_, rfl, h1⟩
    | 1, hp => cases hp; exact ⟨_, rfl, h2⟩
    | 2, hp => cases hp; exact ⟨_, rfl, h3⟩
    | i + 3, hp => simp at hp)
theorem fnsR5 {w : World} {t : TypeId} {f1 f2 f3 f4 f5 : Value} {p1 p2 p3 p4 p5 : UInt8 → Bool} (h1 : FnR w f1 p1) (h2 : FnR w f2 p2) (h3 : FnR w f3 p3) (h4 : FnR w f4 p4) (h5 : FnR w f5 p5) : FnsR (w.alloc (.cells #[f1, f2, f3, f4, f5] t)) (.slice (some ⟨w.heap.size, 0, none⟩) 5 5) [p1, p2, p3, p4, p5] :=
  fnsR_row (fs := [f1, f2, f3, f4, f5]) (ps := [p1, p2, p3, p4, p5]) (by simp) (fun i p hp => by
    match i, hp with
    | 0, hp => cases hp; exact ⟨_, rfl, h1⟩
    | 1, hp => cases hp; exact ⟨_, rfl, h2⟩
    | 2, hp => cases hp; exact ⟨_, rfl, h3⟩
    | 3, hp => cases hp; exact ⟨_, rfl, h4⟩
    | 4, hp => cases hp; exact ⟨_, rfl, h5⟩
    | i + 5, hp => simp at hp)

theorem IsUpper_any (c : UInt8) (w : World) : Calls Tryz.prog 166 #[.int .i32 (c.toNat : Int)] w fun e w' => e = .returned (.bool (isUpperB c)) ∧ Below w.heap.size w w' := by
  go_enter Tryz.func166, Tryz.ntmps166
  go_wp2_with fail
  refine (From_any 65 90 w).mono ?_
  rintro e w1 ⟨a, b, rfl, hB1, h1, h2⟩
  have HB := Lib.hid hB1
  have HC := Lib.hid (fromC_any 65 90 c _ _ w1 h1 h2)
  clear hB1 h1 h2
  go_wp2_with fail
  refine HC.out.mono ?_
  rintro e w2 ⟨rfl, rfl⟩
  clear HC
  go_wp2
  go_ret
  refine ⟨?_, HB.out⟩
  have : (decide ((65 : Int) ≤ (c.toNat : Int)) && decide ((c.toNat : Int) ≤ 90)) = isUpperB c := by
    rw [Bool.eq_iff_iff]; simp [isUpperB]; omega
  rw [← this]; try rfl
theorem IsDigit_any (c : UInt8) (w : World) : Calls Tryz.prog 215 #[.int .i32 (c.toNat : Int)] w fun e w' => e = .returned (.bool (isDigitB c)) ∧ Below w.heap.size w w' := by
  go_enter Tryz.func215, Tryz.ntmps215
  go_wp2_with fail
  refine (From_any 48 57 w).mono ?_
  rintro e w1 ⟨a, b, rfl, hB1, h1, h2⟩
  have HB := Lib.hid hB1
  have HC := Lib.hid (fromC_any 48 57 c _ _ w1 h1 h2)
  clear hB1 h1 h2
  go_wp2_with fail
  refine HC.out.mono ?_
  rintro e w2 ⟨rfl, rfl⟩
  clear HC
  go_wp2
  go_ret
  refine ⟨?_, HB.out⟩
  have : (decide ((48 : Int) ≤ (c.toNat : Int)) && decide ((c.toNat : Int) ≤ 57)) = isDigitB c := by
    rw [Bool.eq_iff_iff]; simp [isDigitB]; omega
  rw [← this]; try rfl
set_option maxRecDepth 100000 in
theorem IsLetter_any (c : UInt8) (w : World) : Calls Tryz.prog 160 #[.int .i32 (c.toNat : Int)] w fun e w' => e = .returned (.bool (isLetterB c)) ∧ Below w.heap.size w w' := by
  go_enter Tryz.func160, Tryz.ntmps160
  go_wp2_with fail
  refine (From_any 97 122 w).mono ?_
  rintro e w1 ⟨a, b, rfl, hB1, h1, h2⟩
  have HB := Lib.hid hB1
  have HF := Lib.hid (fnsR2 (t := 170) (fnR_fn (enters_of Tryz.func166 (by kernel_rfl) rfl) IsUpper_any w1) (fnR_from h1 h2))
  have HE := Lib.hid (Either_any _ _ _ HF.out)
  have HB2 := Lib.hid (Below.from0 hB1 (below_alloc w1 (.cells #[.func (.func 166) #[] #[], .func (.func 213) #[] #[.pointer (some ⟨a, 0, none⟩), .pointer (some ⟨b, 0, none⟩)]] 170)))
  clear hB1 h1 h2
  go_wp2_with fail
  refine HE.out.mono ?_
  rintro e w2 ⟨g, rfl, hB2, h3, h4⟩
  have HB3 := Lib.hid (Below.from0 HB2.out hB2)
  have hc0 := (eitherC_any _ _ c _ w2 h3 h4)
  have hee : ([isUpperB, fun c => decide ((97 : Int) ≤ (c.toNat : Int)) && decide ((c.toNat : Int) ≤ 122)] : List (UInt8 → Bool)).any (fun p => p c) = isLetterB c := by
    have e1 : (decide ((97 : Int) ≤ (c.toNat : Int)) && decide ((c.toNat : Int) ≤ 122)) = (decide (97 ≤ c.toNat) && decide (c.toNat ≤ 122)) := by
      rw [Bool.eq_iff_iff]; simp; omega
    simp only [List.any_cons, List.any_nil, Bool.or_false, e1, isLetterB]
  rw [hee] at hc0
  have HC := Lib.hid hc0
  clear hc0 hee
  clear HE hB2 h3 h4 HF HB2 HB
  go_wp2_with fail
  refine HC.out.mono ?_
  rintro e w3 ⟨rfl, hB3⟩
  have HB4 := Lib.hid (Below.from0 HB3.out hB3)
  clear HC hB3
  go_wp2
  go_ret
  exact ⟨rfl, HB4.out⟩

set_option maxRecDepth 100000 in
theorem IsAlnum_any (c : UInt8) (w : World) : Calls Tryz.prog 165 #[.int .i32 (c.toNat : Int)] w fun e w' => e = .returned (.bool (isAlnumB c)) ∧ Below w.heap.size w w' := by
  have HF := Lib.hid (fnsR2 (t := 170) (fnR_fn (enters_of Tryz.func160 (by kernel_rfl) rfl) IsLetter_any w) (fnR_fn (enters_of Tryz.func215 (by kernel_rfl) rfl) IsDigit_any w))
  have HE := Lib.hid (Either_any _ _ _ HF.out)
  have HB2 := Lib.hid (below_alloc w (.cells #[.func (.func 160) #[] #[], .func (.func 215) #[] #[]] 170))
  go_enter Tryz.func165, Tryz.ntmps165
  go_wp2_with fail
  refine HE.out.mono ?_
  rintro e w2 ⟨g, rfl, hB2, h3, h4⟩
  have HB3 := Lib.hid (Below.from0 HB2.out hB2)
  have hc0 := (eitherC_any _ _ c _ w2 h3 h4)
  have hee : ([isLetterB, isDigitB] : List (UInt8 → Bool)).any (fun p => p c) = isAlnumB c := by
    simp [isAlnumB]
  rw [hee] at hc0
  have HC := Lib.hid hc0
  clear hc0 hee
  clear HE hB2 h3 h4 HF HB2
  go_wp2_with fail
  refine HC.out.mono ?_
  rintro e w3 ⟨rfl, hB3⟩
  have HB4 := Lib.hid (Below.from0 HB3.out hB3)
  clear HC hB3
  go_wp2
  go_ret
  exact ⟨rfl, HB4.out⟩

set_option maxRecDepth 100000 in
theorem IsSpace_any (c : UInt8) (w : World) : Calls Tryz.prog 211 #[.int .i32 (c.toNat : Int)] w fun e w' => e = .returned (.bool (isSpaceB c)) ∧ Below w.heap.size w w' := by
  go_enter Tryz.func211, Tryz.ntmps211
  go_wp2_with fail
  refine (From_any 9 10 w).mono ?_
  rintro e w1 ⟨a1, b1, rfl, hB1, h1, k1⟩
  go_wp2_with fail
  refine (From_any 12 13 w1).mono ?_
  rintro e w2 ⟨a2, b2, rfl, hB2, h2, k2⟩
  go_wp2_with fail
  refine (From_any 32 32 w2).mono ?_
  rintro e w3 ⟨a3, b3, rfl, hB3, h3, k3⟩
  have HF := Lib.hid (fnsR3 (t := 170) (((fnR_from h1 k1).below hB2).below hB3) ((fnR_from h2 k2).below hB3) (fnR_from h3 k3))
  have HE := Lib.hid (Either_any _ _ _ HF.out)
  have HB2 := Lib.hid (Below.from0 (Below.from0 (Below.from0 hB1 hB2) hB3) (below_alloc w3 (.cells #[.func (.func 213) #[] #[.pointer (some ⟨a1, 0, none⟩), .pointer (some ⟨b1, 0, none⟩)], .func (.func 213) #[] #[.pointer (some ⟨a2, 0, none⟩), .pointer (some ⟨b2, 0, none⟩)], .func (.func 213) #[] #[.pointer (some ⟨a3, 0, none⟩), .pointer (some ⟨b3, 0, none⟩)]] 170)))
  clear hB1 h1 k1 hB2 h2 k2 hB3 h3 k3
  go_wp2_with fail
  refine HE.out.mono ?_
  rintro e w4 ⟨g, rfl, hB2, h3, h4⟩
  have HB3 := Lib.hid (Below.from0 HB2.out hB2)
  have hc0 := (eitherC_any _ _ c _ w4 h3 h4)
  have hee : ([fun c => decide ((9 : Int) ≤ (c.toNat : Int)) && decide ((c.toNat : Int) ≤ 10), fun c => decide ((12 : Int) ≤ (c.toNat : Int)) && decide ((c.toNat : Int) ≤ 13), fun c => decide ((32 : Int) ≤ (c.toNat : Int)) && decide ((c.toNat : Int) ≤ 32)] : List (UInt8 → Bool)).any (fun p => p c) = isSpaceB c := by
    rw [Bool.eq_iff_iff]; simp only [isSpaceB, eqB, List.any_cons, List.any_nil, Bool.or_false, Bool.or_eq_true, Bool.and_eq_true, decide_eq_true_eq]
    have e1 : (9 : UInt8).toNat = 9 := rfl
    have e2 : (10 : UInt8).toNat = 10 := rfl
    have e3 : (12 : UInt8).toNat = 12 := rfl
    have e4 : (13 : UInt8).toNat = 13 := rfl
    have e5 : (32 : UInt8).toNat = 32 := rfl
    rw [e1, e2, e3, e4, e5]; omega
  rw [hee] at hc0
  have HC := Lib.hid hc0
  clear hc0 hee
  clear HE hB2 h3 h4 HF HB2
  go_wp2_with fail
  refine HC.out.mono ?_
  rintro e w5 ⟨rfl, hB3⟩
  have HB4 := Lib.hid (Below.from0 HB3.out hB3)
  clear HC hB3
  go_wp2
  go_ret
  exact ⟨rfl, HB4.out⟩

set_option maxRecDepth 100000 in
theorem noneC_any (others : ByteArray) (c : UInt8) (g : Nat) (w : World) (hg : w.cell? ⟨g, 0, none⟩ = some (.string others)) :
    Calls Tryz.prog 210 #[.int .i32 (c.toNat : Int), .pointer (some ⟨g, 0, none⟩)] w fun e w' => e = .returned (.bool (noneB others.data.toList c)) ∧ Below w.heap.size w w' := by
  have HC := Lib.hid (IsSpace_any c w)
  have HG := Lib.hid hg
  have hc8 : (c.toNat : Int) < 256 := by have := c.toNat_lt; omega
  have HN : Hid (noneB others.data.toList c = (!isSpaceB c && decide ((c.toNat : Int) ≠ 0) && decide (Lib.indexByte others.data.toList c < 0))) := Lib.hid (by
    unfold noneB
    rw [Lib.contains_iff_indexByte, bne, eqB]
    have e0 : (0 : UInt8).toNat = 0 := rfl
    rw [e0, Bool.eq_iff_iff]; simp)
  have HU : Hid (((c.toNat : Int)).toNat.toUInt8 = c) := Lib.hid (by simp)
  have hw8 := u8_wrap c
  clear hg
  generalize isSpaceB c = sp at *
  go_enter Tryz.func210, Tryz.ntmps210
  go_wp2_with fail
  refine HC.out.mono ?_
  rintro e w1 ⟨rfl, hB⟩
  clear HC
  cases sp with
  | true =>
    have HF : Hid (noneB others.data.toList c = false) := Lib.hid (by rw [HN.out]; simp)
    have HB := Lib.hid hB
    clear hB HN
    go_wp2
    go_ret
    exact ⟨by rw [HF.out]; try rfl, HB.out⟩
  | false =>
    by_cases h0 : (c.toNat : Int) = 0
    · have HF : Hid (noneB others.data.toList c = false) := Lib.hid (by rw [HN.out, h0]; simp)
      have HB := Lib.hid hB
      have h0' : ((c.toNat : Int) != 0) = false := by simp [h0]
      clear hB HN h0
      go_wp2
      go_ret
      exact ⟨by rw [HF.out]; try rfl, HB.out⟩
    · have HF : Hid (noneB others.data.toList c = decide (Lib.indexByte others.data.toList c < 0)) := Lib.hid (by rw [HN.out, decide_eq_true h0]; simp)
      have HB := Lib.hid hB
      have h0' : ((c.toNat : Int) != 0) = true := bne_iff_ne.2 h0
      have hg := Below.old hB HG.out
      clear hB HN h0
      go_wp2_with fail
      refine (IndexByte_any others (c.toNat : Int) w1).mono ?_
      rintro e w2 ⟨rfl, rfl⟩
      rw [HU.out]
      go_wp2
      go_ret
      exact ⟨by rw [HF.out]; try rfl, HB.out⟩
theorem None_any (others : ByteArray) (w : World) :
    Calls Tryz.prog 162 #[.string others] w fun e w' => ∃ g, e = .returned (.func (.func 210) #[] #[.pointer (some ⟨g, 0, none⟩)]) ∧ Below w.heap.size w w' ∧ w'.cell? ⟨g, 0, none⟩ = some (.string others) := by
  go_enter Tryz.func162, Tryz.ntmps162
  go_wp2
  go_ret
  exact ⟨_, rfl, below_alloc _ _, cell_new' rfl rfl⟩
theorem fnR_none {others : ByteArray} {g : Nat} {w : World} (hg : w.cell? ⟨g, 0, none⟩ = some (.string others)) :
    FnR w (.func (.func 210) #[] #[.pointer (some ⟨g, 0, none⟩)]) (noneB others.data.toList) :=
  ⟨_, _, rfl, enters_of Tryz.func210 (by kernel_rfl) rfl, fun w' hw c => noneC_any others c g w' (Below.old hw hg)⟩

set_option maxRecDepth 100000 in
theorem All_any (s : ByteArray) (v : Value) (p : UInt8 → Bool) (w : World) (hv : FnR w v p) (hs : s.size ≤ 1000000) :
    Calls Tryz.prog 161 #[.string s, v] w fun e w' => e = .returned (.bool (s.toList.all p)) ∧ Below w.heap.size w w' := by
  have HV := Lib.hid hv
  obtain ⟨n, caps, rfl, hE, -⟩ := hv
  unfold Enters at hE
  go_enter Tryz.func161, Tryz.ntmps161
  go_wp2
  go_loopw [8] (fun i wr => ∃ k : Nat, k ≤ s.size ∧ i = .int .i64 k ∧ Hid (Below w.heap.size w wr) ∧ Hid (∀ c ∈ s.toList.take k, p c = true)) (fun i _ => s.size - (intOf i).toNat)
  case atStart => exact ⟨0, Nat.zero_le _, rfl, Lib.hid (Below.refl _ _), Lib.hid (by simp)⟩
  case round =>
    obtain ⟨k, hk, rfl, hB, hT⟩ := hrel
    by_cases hlt : k < s.size
    · obtain ⟨n', caps', he, -, h7⟩ := HV.out.below hB.out
      have hnc : n = n' ∧ caps = caps' := by injection he with h1 h2 h3; injection h1 with h1; exact ⟨h1, h3⟩
      obtain ⟨rfl, rfl⟩ := hnc
      have hx : s.toList[k]? = some s[k] := by
        rw [Go.ByteArray.toList_eq, Array.getElem?_toList]
        exact Array.getElem?_eq_getElem (show k < s.data.size from hlt)
      have HX := Lib.hid hx
      have HC := Lib.hid (h7 wr (Below.refl _ _) s[k])
      have hw32 : wrap32 ((s[k].toNat : Nat) : Int) = s[k].toNat := wrap32_byte s[k]
      clear he h7 hx
      generalize hpc : p s[k] = pc at *
      have HPC := Lib.hid hpc
      clear hpc
      cases pc with
      | true =>
        go_wp2_with fail
        refine HC.out.mono ?_
        rintro e w1 ⟨rfl, hB1⟩
        have HB := Lib.hid (Below.from0 hB.out hB1)
        have HT2 : Hid (∀ q ∈ s.toList.take (k + 1), p q = true) := Lib.hid (fun q hq => by
          rw [List.take_add_one, HX.out] at hq
          rcases List.mem_append.1 hq with hq | hq
          · exact hT.out q hq
          · simp at hq; subst hq; exact HPC.out)
        clear HC hB1
        go_wp2
        go_roundw
        case rel => exact ⟨k + 1, hlt, by go_num, HB, HT2⟩
        case measure => simp [intOf]; omega
      | false =>
        have HF : Hid (s.toList.all p = false) := Lib.hid (by
          rw [List.all_eq_false]; exact ⟨s[k], List.mem_of_getElem? HX.out, by rw [HPC.out]; decide⟩)
        go_wp2_with fail
        refine HC.out.mono ?_
        rintro e w1 ⟨rfl, hB1⟩
        have HB := Lib.hid (Below.from0 hB.out hB1)
        clear HC hB1
        go_wp2
        go_ret
        exact ⟨by rw [HF.out]; try rfl, HB.out⟩
    · have hkl : s.toList.take k = s.toList := List.take_of_length_le (by
        rw [Go.ByteArray.toList_eq, Array.length_toList]; exact Nat.le_of_not_lt hlt)
      rw [hkl] at hT
      have HF : Hid (s.toList.all p = true) := Lib.hid (List.all_eq_true.2 hT.out)
      clear hT hkl
      go_wp2
      go_ret
      exact ⟨by rw [HF.out]; try rfl, hB.out⟩

/-- Bytes in a row that may be written. -/
def BRow (w : World) (g : Nat) (l : List UInt8) : Prop := ∀ j c, l[j]? = some c → w.cell? ⟨g, j, none⟩ = some (.int .u8 (c.toNat : Int)) ∧ w.frozen? ⟨g, j, none⟩ = false
theorem BRow.set {w : World} {g : Nat} {l : List UInt8} (h : BRow w g l) {k : Nat} (hk : k < l.length) (c : UInt8) : BRow (w.setCell ⟨g, k, none⟩ (.int .u8 (c.toNat : Int))) g (l.set k c) := by
  intro j d hj
  have hj' : j < l.length := by have := (List.getElem?_eq_some_iff.1 hj).1; simpa using this
  by_cases e : k = j
  · subst e
    rw [List.getElem?_set_self hk] at hj
    cases hj
    obtain ⟨h1, h2⟩ := h k l[k] (List.getElem?_eq_getElem hk)
    exact ⟨World.cell?_setCell_same w _ _ h1, by rw [World.frozen?_setCell]; exact h2⟩
  · rw [List.getElem?_set_ne e] at hj
    obtain ⟨h1, h2⟩ := h j d hj
    exact ⟨by rw [World.cell?_setCell_other _ _ _ _ (fun q => e (by injection q))]; exact h1, by rw [World.frozen?_setCell]; exact h2⟩

theorem BRow.drew {w : World} {g : Nat} {l : List UInt8} (h : BRow w g l) : BRow w.drew g l := h
theorem BRow.below {w w' : World} {g : Nat} {l : List UInt8} (h : BRow w g l) (hb : Below w.heap.size w w') : BRow w' g l := fun j c hj => by
  obtain ⟨h1, h2⟩ := h j c hj
  have hlt : g < w.heap.size := World.block_lt_of_cell? w _ h1
  exact ⟨Below.old hb h1, (Below.frozen hb (p := ⟨g, j, none⟩) hlt).trans h2⟩
theorem low_at {l : List UInt8} {k : Nat} {c : UInt8} (h : l[k]? = some c) : ((l.take k).map lowB ++ l.drop k)[k]? = some c := by
  have hk := (List.getElem?_eq_some_iff.1 h).1
  rw [List.getElem?_append_right (by simp; omega)]
  simp [List.length_take, Nat.min_eq_left (Nat.le_of_lt hk)]
  simpa using h
theorem low_set {l : List UInt8} {k : Nat} {c : UInt8} (h : l[k]? = some c) : (((l.take k).map lowB ++ l.drop k).set k (lowB c)) = (l.take (k + 1)).map lowB ++ l.drop (k + 1) := by
  have hk := (List.getElem?_eq_some_iff.1 h).1
  have e : l.drop k = c :: l.drop (k + 1) := by rw [List.drop_eq_getElem_cons hk, (List.getElem?_eq_some_iff.1 h).2]
  rw [e, List.take_add_one, h, List.set_append_right _ _ (by simp; omega)]
  simp [Nat.min_eq_left (Nat.le_of_lt hk)]
theorem set_self {α : Type} {L : List α} {k : Nat} {c : α} (h : L[k]? = some c) : L.set k c = L := by
  apply List.ext_getElem?
  intro j
  rw [List.getElem?_set]
  split
  · rename_i e
    subst e
    rw [if_pos (List.getElem?_eq_some_iff.1 h).1, h]
  · rfl
theorem strcat_len (s : ByteArray) : s.toList.length = s.size := by rw [Go.ByteArray.toList_eq, Array.length_toList]; rfl
theorem lowB_up {c : UInt8} (h : isUpperB c = true) : ((lowB c).toNat : Int) = c.toNat + 32 := by
  unfold isUpperB at h
  simp only [Bool.and_eq_true, decide_eq_true_eq] at h
  have : isUpperB c = true := by unfold isUpperB; simp [h]
  unfold lowB
  rw [if_pos this, UInt8.toNat_add]
  have e : (32 : UInt8).toNat = 32 := rfl
  rw [e]; omega
theorem lowB_no {c : UInt8} (h : isUpperB c = false) : lowB c = c := by unfold lowB; rw [h]; rfl

set_option maxRecDepth 100000 in
set_option maxHeartbeats 1000000 in
theorem Lower_any (s : ByteArray) (w : World) (hs : s.size ≤ 1000000) :
    Calls Tryz.prog 92 #[.string s] w fun e w' => e = .returned (.string (lowerS s)) ∧ Below w.heap.size w w' := by
  have hlen := strcat_len s
  obtain ⟨cap, C, hcap, hconv, hrow, hBB⟩ : ∃ cap C, s.size ≤ cap ∧ (convert 9 145 (.string s)).run Tryz.prog w = .ok (.slice (some ⟨w.heap.size, 0, none⟩) s.size cap) (w.drew.alloc (.cells C 5 (C.size, C.size + 1))) ∧
      BRow (w.alloc (.cells C 5 (C.size, C.size + 1))) w.heap.size s.toList ∧ Below w.heap.size w (w.alloc (.cells C 5 (C.size, C.size + 1))) := by
    have hc : s.size ≤ grownCap w s.size 0 5 := grownCap_ge _ _ _ _
    refine ⟨_, _, hc, run_bytes_of_string w 9 145 5 s Tryz.underlying9 Tryz.underlying145 Tryz.underlying5, fun j c hj => ?_, below_alloc _ _⟩
    have hj' : j < s.data.size := by have := (List.getElem?_eq_some_iff.1 hj).1; rw [hlen] at this; exact this
    refine ⟨?_, ?_⟩
    · rw [World.cell?_alloc_mark, bytesRow_at s _ j hj']
      rw [Go.ByteArray.toList_eq, Array.getElem?_toList, Array.getElem?_eq_getElem hj'] at hj
      cases hj; rfl
    · rw [World.frozen?_alloc_mark, decide_eq_false]
      · rfl
      · unfold bytesRow; simp; have : s.data.size = s.size := rfl; omega
  have HR := Lib.hid hrow
  have HB := Lib.hid hBB
  clear hrow hBB
  go_enter Tryz.func92, Tryz.ntmps92
  go_wp2
  generalize hW : w.alloc (.cells C 5 (C.size, C.size + 1)) = W at *
  generalize hg : w.heap.size = g at *
  have HG := Lib.hid hg
  clear hW hg hconv
  go_loopw [10] (fun i wr => ∃ k : Nat, k ≤ s.size ∧ i = .int .i64 k ∧ Hid (Below g w wr) ∧ Hid (BRow wr g ((s.toList.take k).map lowB ++ s.toList.drop k))) (fun i _ => s.size - (intOf i).toNat)
  case atStart => exact ⟨0, Nat.zero_le _, rfl, Lib.hid (Below.drew HB.out), Lib.hid (by simpa using HR.out.drew)⟩
  case round =>
    obtain ⟨k, hk, rfl, hB, hT⟩ := hrel
    by_cases hlt : k < s.size
    · obtain ⟨c, hc⟩ : ∃ c, s.toList[k]? = some c := ⟨_, List.getElem?_eq_getElem (by rw [hlen]; exact hlt)⟩
      have hat : ((s.toList.take k).map lowB ++ s.toList.drop k)[k]? = some c := low_at hc
      obtain ⟨c1, f1⟩ := hT.out k c hat
      have HC := Lib.hid hc
      have HL : Hid (k < ((s.toList.take k).map lowB ++ s.toList.drop k).length) := Lib.hid (List.getElem?_eq_some_iff.1 hat).1
      have HU := Lib.hid (IsUpper_any c wr)
      have hw32 : wrap32 ((c.toNat : Nat) : Int) = c.toNat := wrap32_byte c
      clear hc hat
      cases hu : isUpperB c with
      | true =>
        have hl := lowB_up hu
        rw [hu] at HU
        have HUP := Lib.hid hu
        clear hu
        go_wp2_with fail
        refine HU.out.mono ?_
        rintro e w1 ⟨rfl, hB1⟩
        have hT1 := hT.out.below hB1
        obtain ⟨c2, f2⟩ := hT1 k c (low_at HC.out)
        have HB1 := Lib.hid hB1
        have HT1 := Lib.hid hT1
        clear HU hB1 hT1 c1 f1
        have hb1 : 65 ≤ c.toNat ∧ c.toNat ≤ 90 := by have := HUP.out; unfold isUpperB at this; simpa using this
        have hv : ((c.toNat : Int) - 65 + 97) % 256 = (lowB c).toNat := by omega
        have HV := Lib.hid hv
        clear hv hb1 hl
        go_wp2
        go_roundw
        case rel =>
          refine ⟨k + 1, hlt, by go_num, Lib.hid ?_, Lib.hid ?_⟩
          · exact (hB.out.trans (HB1.out.mono (by rw [← HG.out]; exact hB.out.size))).setCell (Nat.le_refl _) _
          · rw [HV.out, ← low_set HC.out]; exact HT1.out.set HL.out _
        case measure => simp [intOf]; omega
      | false =>
        have hl := lowB_no hu
        rw [hu] at HU
        clear hu
        go_wp2_with fail
        refine HU.out.mono ?_
        rintro e w1 ⟨rfl, hB1⟩
        have HT1 : Hid (BRow w1 g ((s.toList.take (k + 1)).map lowB ++ s.toList.drop (k + 1))) := Lib.hid (by
          have h9 := hT.out.below hB1
          have h8 := low_set HC.out
          rw [hl, set_self (low_at HC.out)] at h8
          rw [← h8]; exact h9)
        have HB1 : Hid (Below g w w1) := Lib.hid (hB.out.trans (hB1.mono (by rw [← HG.out]; exact hB.out.size)))
        clear HU hB1 c1 f1 hl
        go_wp2
        go_roundw
        case rel => exact ⟨k + 1, hlt, by go_num, HB1, HT1⟩
        case measure => simp [intOf]; omega
    · have hkl : (s.toList.take k).map lowB ++ s.toList.drop k = s.toList.map lowB := by
        rw [List.take_of_length_le (by rw [hlen]; omega), List.drop_of_length_le (by rw [hlen]; omega), List.append_nil]
      rw [hkl] at hT
      have hback := run_convert_bytes_back wr 145 9 5 ⟨g, 0, none⟩ cap (s.toList.map lowB) Tryz.underlying145 Tryz.underlying5 Tryz.underlying9 (fun j hj => by
        have := (hT.out j _ (List.getElem?_eq_getElem hj)).1
        rw [show (⟨g, 0, none⟩ : Addr).add j = ⟨g, j, none⟩ by unfold Addr.add; split <;> simp_all]
        exact this)
      rw [List.length_map, hlen] at hback
      have HF : Hid (lowerS s = ⟨(s.toList.map lowB).toArray⟩) := Lib.hid rfl
      clear hT hkl
      generalize (⟨(s.toList.map lowB).toArray⟩ : ByteArray) = r at *
      go_wp2
      go_ret
      exact ⟨by rw [HF.out]; try rfl, by rw [HG.out]; exact hB.out⟩

end Go.Proofs.YtpicinjcmjaogaaGreat
