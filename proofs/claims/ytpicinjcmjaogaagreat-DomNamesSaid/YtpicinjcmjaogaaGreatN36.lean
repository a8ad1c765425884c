/-
  Parts: RT.
-/
import Derived.Test.YtpicinjcmjaogaaGreatN35

/- Contracts of the document's text: Upper, Letter, Digit, Alnum, Space, bare, Has, ValidAttribute, ValidElement, Lower. -/
namespace Go.Proofs.YtpicinjcmjaogaaGreat
open Go.RowKit Go.Shelf
set_option linter.unusedVariables false

theorem u8eq (c : UInt8) (n : Nat) (hn : n < 256) : (c == UInt8.ofNat n) = decide (c.toNat = n) := by
  rw [Bool.eq_iff_iff, beq_iff_eq, decide_eq_true_iff, ← UInt8.toNat_inj, UInt8.toNat_ofNat']
  rw [Nat.mod_eq_of_lt (by simpa using hn)]

theorem TUpper_any (c : UInt8) (w : World) : Calls Tryz.prog 170 #[.int .u8 (c.toNat : Int)] w fun e w' => e = .returned (.bool (isUpperB c)) ∧ w = w' := by
  have HU : Hid (isUpperB c = (decide (65 ≤ c.toNat) && decide (c.toNat ≤ 90))) := Lib.hid rfl
  by_cases h1 : 65 ≤ c.toNat
  · by_cases h2 : c.toNat ≤ 90
    · go_enter Tryz.func170, Tryz.ntmps170
      go_wp2
      go_ret
      exact ⟨by rw [HU.out]; simp [h1, h2] <;> omega, rfl⟩
    · go_enter Tryz.func170, Tryz.ntmps170
      go_wp2
      go_ret
      exact ⟨by rw [HU.out]; simp [h1, h2] <;> omega, rfl⟩
  · go_enter Tryz.func170, Tryz.ntmps170
    go_wp2
    go_ret
    exact ⟨by rw [HU.out]; simp [h1] <;> omega, rfl⟩
theorem TDigit_any (c : UInt8) (w : World) : Calls Tryz.prog 217 #[.int .u8 (c.toNat : Int)] w fun e w' => e = .returned (.bool (isDigitB c)) ∧ w = w' := by
  have HU : Hid (isDigitB c = (decide (48 ≤ c.toNat) && decide (c.toNat ≤ 57))) := Lib.hid rfl
  by_cases h1 : 48 ≤ c.toNat
  · by_cases h2 : c.toNat ≤ 57
    · go_enter Tryz.func217, Tryz.ntmps217
      go_wp2
      go_ret
      exact ⟨by rw [HU.out]; simp [h1, h2] <;> omega, rfl⟩
    · go_enter Tryz.func217, Tryz.ntmps217
      go_wp2
      go_ret
      exact ⟨by rw [HU.out]; simp [h1, h2] <;> omega, rfl⟩
  · go_enter Tryz.func217, Tryz.ntmps217
    go_wp2
    go_ret
    exact ⟨by rw [HU.out]; simp [h1] <;> omega, rfl⟩
theorem TLetter_any (c : UInt8) (w : World) : Calls Tryz.prog 167 #[.int .u8 (c.toNat : Int)] w fun e w' => e = .returned (.bool (isLetterB c)) ∧ w = w' := by
  have HU : Hid (isLetterB c = (isUpperB c || (decide (97 ≤ c.toNat) && decide (c.toNat ≤ 122)))) := Lib.hid rfl
  have HC := Lib.hid (TUpper_any c w)
  cases hu : isUpperB c with
  | true =>
    rw [hu] at HU HC
    clear hu
    go_enter Tryz.func167, Tryz.ntmps167
    go_wp2_with fail
    refine HC.out.mono ?_
    rintro e w1 ⟨rfl, rfl⟩
    go_wp2
    go_ret
    exact ⟨by rw [HU.out]; simp, rfl⟩
  | false =>
    rw [hu] at HU HC
    clear hu
    by_cases h1 : 97 ≤ c.toNat
    · by_cases h2 : c.toNat ≤ 122
      · go_enter Tryz.func167, Tryz.ntmps167
        go_wp2_with fail
        refine HC.out.mono ?_
        rintro e w1 ⟨rfl, rfl⟩
        go_wp2
        go_ret
        exact ⟨by rw [HU.out]; simp [h1, h2] <;> omega, rfl⟩
      · go_enter Tryz.func167, Tryz.ntmps167
        go_wp2_with fail
        refine HC.out.mono ?_
        rintro e w1 ⟨rfl, rfl⟩
        go_wp2
        go_ret
        exact ⟨by rw [HU.out]; simp [h1, h2] <;> omega, rfl⟩
    · go_enter Tryz.func167, Tryz.ntmps167
      go_wp2_with fail
      refine HC.out.mono ?_
      rintro e w1 ⟨rfl, rfl⟩
      go_wp2
      go_ret
      exact ⟨by rw [HU.out]; simp [h1] <;> omega, rfl⟩
theorem TAlnum_any (c : UInt8) (w : World) : Calls Tryz.prog 169 #[.int .u8 (c.toNat : Int)] w fun e w' => e = .returned (.bool (isAlnumB c)) ∧ w = w' := by
  have HU : Hid (isAlnumB c = (isLetterB c || isDigitB c)) := Lib.hid rfl
  have HC := Lib.hid (TLetter_any c w)
  have HD := Lib.hid (TDigit_any c w)
  cases hu : isLetterB c with
  | true =>
    rw [hu] at HU HC
    clear hu
    go_enter Tryz.func169, Tryz.ntmps169
    go_wp2_with fail
    refine HC.out.mono ?_
    rintro e w1 ⟨rfl, rfl⟩
    go_wp2
    go_ret
    exact ⟨by rw [HU.out]; simp, rfl⟩
  | false =>
    rw [hu] at HU HC
    clear hu
    go_enter Tryz.func169, Tryz.ntmps169
    go_wp2_with fail
    refine HC.out.mono ?_
    rintro e w1 ⟨rfl, rfl⟩
    go_wp2_with fail
    refine HD.out.mono ?_
    rintro e w1 ⟨rfl, rfl⟩
    go_wp2
    go_ret
    exact ⟨by rw [HU.out]; simp, rfl⟩
theorem TSpace_any (c : UInt8) (w : World) : Calls Tryz.prog 216 #[.int .u8 (c.toNat : Int)] w fun e w' => e = .returned (.bool (isSpaceB c)) ∧ w = w' := by
  have HU : Hid (isSpaceB c = (decide (c.toNat = 9) || decide (c.toNat = 10) || decide (c.toNat = 12) || decide (c.toNat = 13) || decide (c.toNat = 32))) := Lib.hid (by
    unfold isSpaceB
    rw [show (9 : UInt8) = UInt8.ofNat 9 from rfl, show (10 : UInt8) = UInt8.ofNat 10 from rfl, show (12 : UInt8) = UInt8.ofNat 12 from rfl, show (13 : UInt8) = UInt8.ofNat 13 from rfl, show (32 : UInt8) = UInt8.ofNat 32 from rfl]
    rw [u8eq c 9 (by decide), u8eq c 10 (by decide), u8eq c 12 (by decide), u8eq c 13 (by decide), u8eq c 32 (by decide)])
  by_cases h1 : c.toNat = 9
  · have e1 : ((c.toNat : Int) == 9) = true := by simp [h1]
    have H1 := Lib.hid h1
    clear h1
    go_enter Tryz.func216, Tryz.ntmps216
    go_wp2
    go_ret
    exact ⟨by rw [HU.out]; simp [H1.out], rfl⟩
  have e1 : ((c.toNat : Int) == 9) = false := by simp; omega
  by_cases h2 : c.toNat = 10
  · have e2 : ((c.toNat : Int) == 10) = true := by simp [h2]
    have H1 := Lib.hid h2
    clear h1 h2
    go_enter Tryz.func216, Tryz.ntmps216
    go_wp2
    go_ret
    exact ⟨by rw [HU.out]; simp [H1.out], rfl⟩
  have e2 : ((c.toNat : Int) == 10) = false := by simp; omega
  by_cases h3 : c.toNat = 12
  · have e3 : ((c.toNat : Int) == 12) = true := by simp [h3]
    have H1 := Lib.hid h3
    clear h1 h2 h3
    go_enter Tryz.func216, Tryz.ntmps216
    go_wp2
    go_ret
    exact ⟨by rw [HU.out]; simp [H1.out], rfl⟩
  have e3 : ((c.toNat : Int) == 12) = false := by simp; omega
  by_cases h4 : c.toNat = 13
  · have e4 : ((c.toNat : Int) == 13) = true := by simp [h4]
    have H1 := Lib.hid h4
    clear h1 h2 h3 h4
    go_enter Tryz.func216, Tryz.ntmps216
    go_wp2
    go_ret
    exact ⟨by rw [HU.out]; simp [H1.out], rfl⟩
  have e4 : ((c.toNat : Int) == 13) = false := by simp; omega
  by_cases h5 : c.toNat = 32
  · have e5 : ((c.toNat : Int) == 32) = true := by simp [h5]
    have H1 := Lib.hid h5
    clear h1 h2 h3 h4 h5
    go_enter Tryz.func216, Tryz.ntmps216
    go_wp2
    go_ret
    exact ⟨by rw [HU.out]; simp [H1.out], rfl⟩
  have e5 : ((c.toNat : Int) == 32) = false := by simp; omega
  have HN := Lib.hid (And.intro h1 (And.intro h2 (And.intro h3 (And.intro h4 h5))))
  clear h1 h2 h3 h4 h5
  go_enter Tryz.func216, Tryz.ntmps216
  go_wp2
  go_ret
  exact ⟨by rw [HU.out]; obtain ⟨a, b, c, d, e⟩ := HN.out; simp [a, b, c, d, e], rfl⟩

theorem noneB_bare (c : UInt8) : noneB [47, 62] c = (!isSpaceB c && !decide (c.toNat = 0) && !decide (c.toNat = 47) && !decide (c.toNat = 62)) := by
  unfold noneB
  rw [show (c != 0) = !(c == UInt8.ofNat 0) from rfl, u8eq c 0 (by decide)]
  rw [show List.contains [47, 62] c = ((c == UInt8.ofNat 47) || ((c == UInt8.ofNat 62) || false)) from rfl, u8eq c 47 (by decide), u8eq c 62 (by decide)]
  simp [Bool.and_assoc]
theorem noneB_attr (c : UInt8) : noneB [47, 61, 62] c = (noneB [47, 62] c && !(c == 61)) := by
  by_cases h : c = 61
  · subst h; decide
  · have h' : (c == 61) = false := by simpa using h
    unfold noneB
    rw [show List.contains [47, 61, 62] c = ((c == 47) || ((c == 61) || ((c == 62) || false))) from rfl, show List.contains [47, 62] c = ((c == 47) || ((c == 62) || false)) from rfl, h']
    simp
theorem str_at (s : ByteArray) {k : Nat} (h : k < s.size) : s.toList[k]? = some s[k] := by
  rw [Go.ByteArray.toList_eq, Array.getElem?_toList]
  exact Array.getElem?_eq_getElem (show k < s.data.size from h)

set_option maxRecDepth 100000 in
set_option maxHeartbeats 2000000 in
theorem TBare_any (s : ByteArray) (w : World) (hs : s.size ≤ 1000000) :
    Calls Tryz.prog 168 #[.string s] w fun e w' => e = .returned (.bool (s.toList.all (noneB [47, 62]))) ∧ w = w' := by
  go_enter Tryz.func168, Tryz.ntmps168
  go_wp2
  go_loop [3] (fun i => ∃ k : Nat, k ≤ s.size ∧ i = .int .i64 k ∧ Hid (∀ c ∈ s.toList.take k, noneB [47, 62] c = true)) (fun i => s.size - (intOf i).toNat)
  case atStart => exact ⟨0, Nat.zero_le _, rfl, Lib.hid (by simp)⟩
  case round =>
    obtain ⟨k, hk, rfl, hT⟩ := hrel
    by_cases hlt : k < s.size
    · have HX := Lib.hid (str_at s hlt)
      have HNB := Lib.hid (noneB_bare s[k])
      have HF : Hid (noneB [47, 62] s[k] = false → s.toList.all (noneB [47, 62]) = false) := Lib.hid (fun q => by
        rw [List.all_eq_false]; exact ⟨s[k], List.mem_of_getElem? HX.out, by rw [q]; decide⟩)
      have HC := Lib.hid (fun W => TSpace_any s[k] W)
      cases hsp : isSpaceB s[k] with
      | true =>
        rw [hsp] at HC HNB
        clear hsp
        go_wp2_with fail
        refine (HC.out _).mono ?_
        rintro e w1 ⟨rfl, rfl⟩
        go_wp2
        go_ret
        exact ⟨by rw [HF.out (by rw [HNB.out]; simp)]; try rfl, rfl⟩
      | false =>
      rw [hsp] at HC HNB
      clear hsp
      by_cases h0 : s[k].toNat = 0
      · have e0 : ((s[k].toNat : Int) == 0) = true := by simp [h0]
        have H0 := Lib.hid h0
        clear h0
        go_wp2_with fail
        refine (HC.out _).mono ?_
        rintro e w1 ⟨rfl, rfl⟩
        go_wp2
        go_ret
        exact ⟨by rw [HF.out (by rw [HNB.out]; simp [H0.out])]; try rfl, rfl⟩
      have e0 : ((s[k].toNat : Int) == 0) = false := by simp; omega
      by_cases h1 : s[k].toNat = 47
      · have e1 : ((s[k].toNat : Int) == 47) = true := by simp [h1]
        have H0 := Lib.hid h1
        clear h0 h1
        go_wp2_with fail
        refine (HC.out _).mono ?_
        rintro e w1 ⟨rfl, rfl⟩
        go_wp2
        go_ret
        exact ⟨by rw [HF.out (by rw [HNB.out]; simp [H0.out])]; try rfl, rfl⟩
      have e1 : ((s[k].toNat : Int) == 47) = false := by simp; omega
      by_cases h2 : s[k].toNat = 62
      · have e2 : ((s[k].toNat : Int) == 62) = true := by simp [h2]
        have H0 := Lib.hid h2
        clear h0 h1 h2
        go_wp2_with fail
        refine (HC.out _).mono ?_
        rintro e w1 ⟨rfl, rfl⟩
        go_wp2
        go_ret
        exact ⟨by rw [HF.out (by rw [HNB.out]; simp [H0.out])]; try rfl, rfl⟩
      have e2 : ((s[k].toNat : Int) == 62) = false := by simp; omega
      have HT2 : Hid (∀ c ∈ s.toList.take (k + 1), noneB [47, 62] c = true) := Lib.hid (fun q hq => by
        rw [List.take_add_one, HX.out] at hq
        rcases List.mem_append.1 hq with hq | hq
        · exact hT.out q hq
        · simp at hq; subst hq; rw [HNB.out]; simp [h0, h1, h2])
      clear h0 h1 h2
      go_wp2_with fail
      refine (HC.out _).mono ?_
      rintro e w1 ⟨rfl, rfl⟩
      go_wp2
      go_round
      case rel => exact ⟨k + 1, hlt, by go_num, HT2⟩
      case measure => simp [intOf]; omega
    · have hkl : s.toList.take k = s.toList := List.take_of_length_le (by
        rw [Go.ByteArray.toList_eq, Array.length_toList]; exact Nat.le_of_not_lt hlt)
      rw [hkl] at hT
      have HF : Hid (s.toList.all (noneB [47, 62]) = true) := Lib.hid (List.all_eq_true.2 hT.out)
      clear hT hkl
      go_wp2
      go_ret
      exact ⟨by rw [HF.out]; try rfl, rfl⟩

set_option maxRecDepth 100000 in
set_option maxHeartbeats 1000000 in
theorem THas61_any (s : ByteArray) (w : World) (hs : s.size ≤ 1000000) :
    Calls Tryz.prog 175 #[.string s, .int .u8 61] w fun e w' => e = .returned (.bool (s.toList.any (fun c => c == 61))) ∧ w = w' := by
  go_enter Tryz.func175, Tryz.ntmps175
  go_wp2
  go_loop [5] (fun i => ∃ k : Nat, k ≤ s.size ∧ i = .int .i64 k ∧ Hid (∀ c ∈ s.toList.take k, (c == 61) = false)) (fun i => s.size - (intOf i).toNat)
  case atStart => exact ⟨0, Nat.zero_le _, rfl, Lib.hid (by simp)⟩
  case round =>
    obtain ⟨k, hk, rfl, hT⟩ := hrel
    by_cases hlt : k < s.size
    · have HX := Lib.hid (str_at s hlt)
      have HE : Hid ((s[k] == 61) = decide (s[k].toNat = 61)) := Lib.hid (u8eq s[k] 61 (by decide))
      by_cases h1 : s[k].toNat = 61
      · have e1 : ((s[k].toNat : Int) == 61) = true := by simp [h1]
        have HF : Hid (s.toList.any (fun c => c == 61) = true) := Lib.hid (by
          rw [List.any_eq_true]; exact ⟨s[k], List.mem_of_getElem? HX.out, by rw [HE.out]; simp [h1]⟩)
        clear h1
        go_wp2
        go_ret
        exact ⟨by rw [HF.out]; try rfl, rfl⟩
      · have e1 : ((s[k].toNat : Int) == 61) = false := by simp; omega
        have HT2 : Hid (∀ c ∈ s.toList.take (k + 1), (c == 61) = false) := Lib.hid (fun q hq => by
          rw [List.take_add_one, HX.out] at hq
          rcases List.mem_append.1 hq with hq | hq
          · exact hT.out q hq
          · simp at hq; subst hq; rw [HE.out]; simp [h1])
        clear h1
        go_wp2
        go_round
        case rel => exact ⟨k + 1, hlt, by go_num, HT2⟩
        case measure => simp [intOf]; omega
    · have hkl : s.toList.take k = s.toList := List.take_of_length_le (by
        rw [Go.ByteArray.toList_eq, Array.length_toList]; exact Nat.le_of_not_lt hlt)
      rw [hkl] at hT
      have HF : Hid (s.toList.any (fun c => c == 61) = false) := Lib.hid (by
        rw [List.any_eq_false]; intro x hx; rw [hT.out x hx]; decide)
      clear hT hkl
      go_wp2
      go_ret
      exact ⟨by rw [HF.out]; try rfl, rfl⟩

theorem validAt_eq (s : ByteArray) : validAt s.toList = (decide (0 < s.size) && (s.toList.all (noneB [47, 62]) && !s.toList.any (fun c => c == 61))) := by
  unfold validAt
  rw [isEmpty_size]
  have e : s.toList.all (noneB [47, 61, 62]) = (s.toList.all (noneB [47, 62]) && !s.toList.any (fun c => c == 61)) := by
    induction s.toList with
    | nil => rfl
    | cons c l ih =>
      rw [List.all_cons, List.all_cons, List.any_cons, ih, noneB_attr]
      cases noneB [47, 62] c <;> cases (c == 61) <;> cases l.all (noneB [47, 62]) <;> simp
  rw [e]
  by_cases h : s.size = 0
  · simp [h]
  · have : 0 < s.size := by omega
    simp [h, this]

set_option maxRecDepth 100000 in
set_option maxHeartbeats 1000000 in
theorem TValidAttribute_any (s : ByteArray) (w : World) (hs : s.size ≤ 1000000) :
    Calls Tryz.prog 112 #[.string s] w fun e w' => e = .returned (.bool (validAt s.toList)) ∧ w = w' := by
  have HV := Lib.hid (validAt_eq s)
  have HB := Lib.hid (TBare_any s w hs)
  have HH := Lib.hid (THas61_any s w hs)
  by_cases h0 : 0 < s.size
  · have H0 := Lib.hid h0
    cases hb : s.toList.all (noneB [47, 62]) with
    | true =>
      rw [hb] at HV HB
      clear hb
      go_enter Tryz.func112, Tryz.ntmps112
      go_wp2_with fail
      refine HB.out.mono ?_
      rintro e w1 ⟨rfl, rfl⟩
      go_wp2_with fail
      refine HH.out.mono ?_
      rintro e w1 ⟨rfl, rfl⟩
      generalize s.toList.any (fun c => c == 61) = z at *
      go_wp2
      go_ret
      exact ⟨by rw [HV.out]; simp [H0.out], rfl⟩
    | false =>
      rw [hb] at HV HB
      clear hb
      go_enter Tryz.func112, Tryz.ntmps112
      go_wp2_with fail
      refine HB.out.mono ?_
      rintro e w1 ⟨rfl, rfl⟩
      go_wp2
      go_ret
      exact ⟨by rw [HV.out]; simp, rfl⟩
  · have H0 := Lib.hid h0
    go_enter Tryz.func112, Tryz.ntmps112
    go_wp2
    go_ret
    exact ⟨by rw [HV.out]; simp [H0.out], rfl⟩

end Go.Proofs.YtpicinjcmjaogaaGreat
