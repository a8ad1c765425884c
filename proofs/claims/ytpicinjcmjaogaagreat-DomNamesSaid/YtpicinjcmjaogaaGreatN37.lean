/-
  Parts: RT2.
-/
import Derived.Maps.AppendAt
import Derived.Test.YtpicinjcmjaogaaGreatN36

/- Contracts of the document's text: ValidElement, Lower. (Printed by genrt2.py.) -/
namespace Go.Proofs.YtpicinjcmjaogaaGreat
open Go.RowKit Go.Shelf
set_option linter.unusedVariables false

theorem firstB_eq (c : UInt8) : firstB c = (decide (c.toNat = 58) || decide (c.toNat = 95) || decide (128 ≤ c.toNat)) := by
  unfold firstB
  rw [show (c == 58) = (c == UInt8.ofNat 58) from rfl, show (c == 95) = (c == UInt8.ofNat 95) from rfl, u8eq c 58 (by decide), u8eq c 95 (by decide)]
theorem restB_eq (c : UInt8) : restB c = (isAlnumB c || decide (c.toNat = 45) || decide (c.toNat = 46) || decide (c.toNat = 58) || decide (c.toNat = 95) || decide (128 ≤ c.toNat)) := by
  unfold restB
  rw [show (c == 45) = (c == UInt8.ofNat 45) from rfl, show (c == 46) = (c == UInt8.ofNat 46) from rfl, show (c == 58) = (c == UInt8.ofNat 58) from rfl, show (c == 95) = (c == UInt8.ofNat 95) from rfl, u8eq c 45 (by decide), u8eq c 46 (by decide), u8eq c 58 (by decide), u8eq c 95 (by decide)]
theorem str_cons (s : ByteArray) (h : 0 < s.size) : s.toList = s[0] :: s.toList.drop 1 := by
  have h0 := str_at s h
  cases hl : s.toList with
  | nil => rw [hl] at h0; simp at h0
  | cons a l => rw [hl] at h0; simp at h0; simp [h0]

set_option maxRecDepth 100000 in
set_option maxHeartbeats 4000000 in
theorem TValidElement_any (s : ByteArray) (w : World) (hs : s.size ≤ 1000000) :
    Calls Tryz.prog 94 #[.string s] w fun e w' => e = .returned (.bool (validEl s.toList)) ∧ w = w' := by
  by_cases h0 : 0 < s.size
  case neg =>
    have hz : s.size = 0 := by omega
    have HF : Hid (validEl s.toList = false) := Lib.hid (by
      have : s.toList = [] := List.eq_nil_of_length_eq_zero (by rw [strcat_len]; exact hz)
      rw [this]; rfl)
    have e0 : ((s.size : Int) == 0) = true := by simp [hz]
    clear hz h0
    go_enter Tryz.func94, Tryz.ntmps94
    go_wp2
    go_ret
    exact ⟨by rw [HF.out]; try rfl, rfl⟩
  case pos =>
  have e0 : ((s.size : Int) == 0) = false := by rw [beq_eq_false_iff_ne]; omega
  have HV : Hid (validEl s.toList = if isLetterB s[0] then s.toList.all (noneB [47, 62]) else firstB s[0] && (s.toList.drop 1).all restB) := Lib.hid (by
    have e := str_cons s h0
    rw [show validEl s.toList = validEl (s[0] :: s.toList.drop 1) by rw [← e], validEl_cons, ← e])
  have HC := Lib.hid (fun W => TLetter_any s[0] W)
  have HB := Lib.hid (TBare_any s w hs)
  cases hl : isLetterB s[0] with
  | true =>
    rw [hl] at HV HC
    have HF := Lib.hid (HV.out.trans (if_pos rfl))
    clear hl
    go_enter Tryz.func94, Tryz.ntmps94
    go_wp2_with fail
    refine (HC.out _).mono ?_
    rintro e w1 ⟨rfl, rfl⟩
    go_wp2_with fail
    refine HB.out.mono ?_
    rintro e w1 ⟨rfl, rfl⟩
    rw [← HF.out]
    go_wp2
    go_ret
    exact ⟨rfl, rfl⟩
  | false =>
  rw [hl] at HV HC
  have HV2 := Lib.hid (HV.out.trans (if_neg (by decide)))
  have HFB := Lib.hid (firstB_eq s[0])
  clear hl HV HB
  by_cases h58 : s[0].toNat = 58 ∨ s[0].toNat = 95 ∨ 128 ≤ s[0].toNat
  case neg =>
    have a1 : ¬ s[0].toNat = 58 := fun q => h58 (.inl q)
    have a2 : ¬ s[0].toNat = 95 := fun q => h58 (.inr (.inl q))
    have a3 : ¬ 128 ≤ s[0].toNat := fun q => h58 (.inr (.inr q))
    have HF : Hid (validEl s.toList = false) := Lib.hid (by rw [HV2.out, HFB.out]; simp [a1, a2, a3])
    have e1 : ((s[0].toNat : Int) != 58) = true := by simp; omega
    have e2 : ((s[0].toNat : Int) != 95) = true := by simp; omega
    have e3 : decide ((s[0].toNat : Int) < 128) = true := by simp; omega
    have e4 : (s[0].toNat : Int) < 128 := by omega
    clear h58 a1 a2 a3 HV2 HFB
    go_enter Tryz.func94, Tryz.ntmps94
    go_wp2_with fail
    refine (HC.out _).mono ?_
    rintro e w1 ⟨rfl, rfl⟩
    go_wp2
    go_ret
    exact ⟨by rw [HF.out]; try rfl, rfl⟩
  case pos =>
  have HV3 : Hid (validEl s.toList = (s.toList.drop 1).all restB) := Lib.hid (by
    rw [HV2.out, HFB.out]
    rcases h58 with q | q | q <;> simp [q])
  clear HV2 HFB
  by_cases h1 : s[0].toNat = 58
  · have e1 : ((s[0].toNat : Int) != 58) = false := by simp [h1]
    clear h58 h1
    go_enter Tryz.func94, Tryz.ntmps94
    go_wp2_with fail
    refine (HC.out _).mono ?_
    rintro e w1 ⟨rfl, rfl⟩
    go_wp2
    go_loop [3] (fun i => ∃ k : Nat, 1 ≤ k ∧ k ≤ s.size ∧ i = .int .i64 k ∧ Hid (∀ (j : Nat) c, 1 ≤ j → j < k → s.toList[j]? = some c → restB c = true)) (fun i => s.size - (intOf i).toNat)
    case atStart => exact ⟨1, Nat.le_refl _, h0, rfl, Lib.hid (fun j c h1 h2 => by omega)⟩
    case round =>
      obtain ⟨k, hk1, hk, rfl, hT⟩ := hrel
      clear HC
      by_cases hlt : k < s.size
      · have HX := Lib.hid (str_at s hlt)
        have HNB := Lib.hid (restB_eq s[k])
        have HF : Hid (restB s[k] = false → validEl s.toList = false) := Lib.hid (fun q => by
          rw [HV3.out, List.all_eq_false]
          exact ⟨s[k], List.mem_of_getElem? (i := k - 1) (by rw [List.getElem?_drop, show 1 + (k - 1) = k by omega]; exact HX.out), by rw [q]; decide⟩)
        have HT2 : Hid (restB s[k] = true → ∀ (j : Nat) c, 1 ≤ j → j < k + 1 → s.toList[j]? = some c → restB c = true) := Lib.hid (fun q j c h1 h2 hc => by
          by_cases hj : j < k
          · exact hT.out j c h1 hj hc
          · rw [show j = k by omega, HX.out] at hc
            simp at hc
            rw [← hc]; exact q)
        have HCA := Lib.hid (fun W => TAlnum_any s[k] W)
        cases ha : isAlnumB s[k] with
        | true =>
          rw [ha] at HCA HNB
          have HT3 := Lib.hid (HT2.out (by rw [HNB.out]; simp))
          clear ha
          go_wp2_with fail
          refine (HCA.out _).mono ?_
          rintro e w1 ⟨rfl, rfl⟩
          go_wp2
          go_round
          case rel => exact ⟨k + 1, by omega, hlt, by go_num, HT3⟩
          case measure => simp [intOf]; omega
        | false =>
        rw [ha] at HCA HNB
        clear ha
        by_cases g0 : s[k].toNat = 45
        · have f0 : ((s[k].toNat : Int) != 45) = false := by simp [g0]
          have HT3 := Lib.hid (HT2.out (by rw [HNB.out]; simp [g0]))
          clear g0
          go_wp2_with fail
          refine (HCA.out _).mono ?_
          rintro e w1 ⟨rfl, rfl⟩
          go_wp2
          go_round
          case rel => exact ⟨k + 1, by omega, hlt, by go_num, HT3⟩
          case measure => simp [intOf]; omega
        have f0 : ((s[k].toNat : Int) != 45) = true := by simp; omega
        by_cases g1 : s[k].toNat = 46
        · have f1 : ((s[k].toNat : Int) != 46) = false := by simp [g1]
          have HT3 := Lib.hid (HT2.out (by rw [HNB.out]; simp [g1]))
          clear g0 g1
          go_wp2_with fail
          refine (HCA.out _).mono ?_
          rintro e w1 ⟨rfl, rfl⟩
          go_wp2
          go_round
          case rel => exact ⟨k + 1, by omega, hlt, by go_num, HT3⟩
          case measure => simp [intOf]; omega
        have f1 : ((s[k].toNat : Int) != 46) = true := by simp; omega
        by_cases g2 : s[k].toNat = 58
        · have f2 : ((s[k].toNat : Int) != 58) = false := by simp [g2]
          have HT3 := Lib.hid (HT2.out (by rw [HNB.out]; simp [g2]))
          clear g0 g1 g2
          go_wp2_with fail
          refine (HCA.out _).mono ?_
          rintro e w1 ⟨rfl, rfl⟩
          go_wp2
          go_round
          case rel => exact ⟨k + 1, by omega, hlt, by go_num, HT3⟩
          case measure => simp [intOf]; omega
        have f2 : ((s[k].toNat : Int) != 58) = true := by simp; omega
        by_cases g3 : s[k].toNat = 95
        · have f3 : ((s[k].toNat : Int) != 95) = false := by simp [g3]
          have HT3 := Lib.hid (HT2.out (by rw [HNB.out]; simp [g3]))
          clear g0 g1 g2 g3
          go_wp2_with fail
          refine (HCA.out _).mono ?_
          rintro e w1 ⟨rfl, rfl⟩
          go_wp2
          go_round
          case rel => exact ⟨k + 1, by omega, hlt, by go_num, HT3⟩
          case measure => simp [intOf]; omega
        have f3 : ((s[k].toNat : Int) != 95) = true := by simp; omega
        by_cases g4 : 128 ≤ s[k].toNat
        · have f4 : decide ((s[k].toNat : Int) < 128) = false := by simp; omega
          have f5 : (128 : Int) ≤ (s[k].toNat : Int) := by omega
          have HT3 := Lib.hid (HT2.out (by rw [HNB.out]; simp [g4]))
          clear g0 g1 g2 g3 g4
          go_wp2_with fail
          refine (HCA.out _).mono ?_
          rintro e w1 ⟨rfl, rfl⟩
          go_wp2
          go_round
          case rel => exact ⟨k + 1, by omega, hlt, by go_num, HT3⟩
          case measure => simp [intOf]; omega
        have f4 : decide ((s[k].toNat : Int) < 128) = true := by simp; omega
        have f5 : (s[k].toNat : Int) < 128 := by omega
        have HF2 := Lib.hid (HF.out (by rw [HNB.out]; simp [g0, g1, g2, g3, g4]))
        clear g0 g1 g2 g3 g4
        go_wp2_with fail
        refine (HCA.out _).mono ?_
        rintro e w1 ⟨rfl, rfl⟩
        go_wp2
        go_ret
        exact ⟨by rw [HF2.out]; try rfl, rfl⟩
      · have HF : Hid (validEl s.toList = true) := Lib.hid (by
          rw [HV3.out, List.all_eq_true]
          intro c hc
          obtain ⟨j, hj⟩ := List.getElem?_of_mem hc
          rw [List.getElem?_drop] at hj
          have := (List.getElem?_eq_some_iff.1 hj).1
          rw [strcat_len] at this
          exact hT.out (1 + j) c (by omega) (by omega) hj)
        clear hT
        go_wp2
        go_ret
        exact ⟨by rw [HF.out]; try rfl, rfl⟩
  have e1 : ((s[0].toNat : Int) != 58) = true := by simp; omega
  by_cases h2 : s[0].toNat = 95
  · have e2 : ((s[0].toNat : Int) != 95) = false := by simp [h2]
    clear h58 h1 h2
    go_enter Tryz.func94, Tryz.ntmps94
    go_wp2_with fail
    refine (HC.out _).mono ?_
    rintro e w1 ⟨rfl, rfl⟩
    go_wp2
    go_loop [3] (fun i => ∃ k : Nat, 1 ≤ k ∧ k ≤ s.size ∧ i = .int .i64 k ∧ Hid (∀ (j : Nat) c, 1 ≤ j → j < k → s.toList[j]? = some c → restB c = true)) (fun i => s.size - (intOf i).toNat)
    case atStart => exact ⟨1, Nat.le_refl _, h0, rfl, Lib.hid (fun j c h1 h2 => by omega)⟩
    case round =>
      obtain ⟨k, hk1, hk, rfl, hT⟩ := hrel
      clear HC
      by_cases hlt : k < s.size
      · have HX := Lib.hid (str_at s hlt)
        have HNB := Lib.hid (restB_eq s[k])
        have HF : Hid (restB s[k] = false → validEl s.toList = false) := Lib.hid (fun q => by
          rw [HV3.out, List.all_eq_false]
          exact ⟨s[k], List.mem_of_getElem? (i := k - 1) (by rw [List.getElem?_drop, show 1 + (k - 1) = k by omega]; exact HX.out), by rw [q]; decide⟩)
        have HT2 : Hid (restB s[k] = true → ∀ (j : Nat) c, 1 ≤ j → j < k + 1 → s.toList[j]? = some c → restB c = true) := Lib.hid (fun q j c h1 h2 hc => by
          by_cases hj : j < k
          · exact hT.out j c h1 hj hc
          · rw [show j = k by omega, HX.out] at hc
            simp at hc
            rw [← hc]; exact q)
        have HCA := Lib.hid (fun W => TAlnum_any s[k] W)
        cases ha : isAlnumB s[k] with
        | true =>
          rw [ha] at HCA HNB
          have HT3 := Lib.hid (HT2.out (by rw [HNB.out]; simp))
          clear ha
          go_wp2_with fail
          refine (HCA.out _).mono ?_
          rintro e w1 ⟨rfl, rfl⟩
          go_wp2
          go_round
          case rel => exact ⟨k + 1, by omega, hlt, by go_num, HT3⟩
          case measure => simp [intOf]; omega
        | false =>
        rw [ha] at HCA HNB
        clear ha
        by_cases g0 : s[k].toNat = 45
        · have f0 : ((s[k].toNat : Int) != 45) = false := by simp [g0]
          have HT3 := Lib.hid (HT2.out (by rw [HNB.out]; simp [g0]))
          clear g0
          go_wp2_with fail
          refine (HCA.out _).mono ?_
          rintro e w1 ⟨rfl, rfl⟩
          go_wp2
          go_round
          case rel => exact ⟨k + 1, by omega, hlt, by go_num, HT3⟩
          case measure => simp [intOf]; omega
        have f0 : ((s[k].toNat : Int) != 45) = true := by simp; omega
        by_cases g1 : s[k].toNat = 46
        · have f1 : ((s[k].toNat : Int) != 46) = false := by simp [g1]
          have HT3 := Lib.hid (HT2.out (by rw [HNB.out]; simp [g1]))
          clear g0 g1
          go_wp2_with fail
          refine (HCA.out _).mono ?_
          rintro e w1 ⟨rfl, rfl⟩
          go_wp2
          go_round
          case rel => exact ⟨k + 1, by omega, hlt, by go_num, HT3⟩
          case measure => simp [intOf]; omega
        have f1 : ((s[k].toNat : Int) != 46) = true := by simp; omega
        by_cases g2 : s[k].toNat = 58
        · have f2 : ((s[k].toNat : Int) != 58) = false := by simp [g2]
          have HT3 := Lib.hid (HT2.out (by rw [HNB.out]; simp [g2]))
          clear g0 g1 g2
          go_wp2_with fail
          refine (HCA.out _).mono ?_
          rintro e w1 ⟨rfl, rfl⟩
          go_wp2
          go_round
          case rel => exact ⟨k + 1, by omega, hlt, by go_num, HT3⟩
          case measure => simp [intOf]; omega
        have f2 : ((s[k].toNat : Int) != 58) = true := by simp; omega
        by_cases g3 : s[k].toNat = 95
        · have f3 : ((s[k].toNat : Int) != 95) = false := by simp [g3]
          have HT3 := Lib.hid (HT2.out (by rw [HNB.out]; simp [g3]))
          clear g0 g1 g2 g3
          go_wp2_with fail
          refine (HCA.out _).mono ?_
          rintro e w1 ⟨rfl, rfl⟩
          go_wp2
          go_round
          case rel => exact ⟨k + 1, by omega, hlt, by go_num, HT3⟩
          case measure => simp [intOf]; omega
        have f3 : ((s[k].toNat : Int) != 95) = true := by simp; omega
        by_cases g4 : 128 ≤ s[k].toNat
        · have f4 : decide ((s[k].toNat : Int) < 128) = false := by simp; omega
          have f5 : (128 : Int) ≤ (s[k].toNat : Int) := by omega
          have HT3 := Lib.hid (HT2.out (by rw [HNB.out]; simp [g4]))
          clear g0 g1 g2 g3 g4
          go_wp2_with fail
          refine (HCA.out _).mono ?_
          rintro e w1 ⟨rfl, rfl⟩
          go_wp2
          go_round
          case rel => exact ⟨k + 1, by omega, hlt, by go_num, HT3⟩
          case measure => simp [intOf]; omega
        have f4 : decide ((s[k].toNat : Int) < 128) = true := by simp; omega
        have f5 : (s[k].toNat : Int) < 128 := by omega
        have HF2 := Lib.hid (HF.out (by rw [HNB.out]; simp [g0, g1, g2, g3, g4]))
        clear g0 g1 g2 g3 g4
        go_wp2_with fail
        refine (HCA.out _).mono ?_
        rintro e w1 ⟨rfl, rfl⟩
        go_wp2
        go_ret
        exact ⟨by rw [HF2.out]; try rfl, rfl⟩
      · have HF : Hid (validEl s.toList = true) := Lib.hid (by
          rw [HV3.out, List.all_eq_true]
          intro c hc
          obtain ⟨j, hj⟩ := List.getElem?_of_mem hc
          rw [List.getElem?_drop] at hj
          have := (List.getElem?_eq_some_iff.1 hj).1
          rw [strcat_len] at this
          exact hT.out (1 + j) c (by omega) (by omega) hj)
        clear hT
        go_wp2
        go_ret
        exact ⟨by rw [HF.out]; try rfl, rfl⟩
  have e2 : ((s[0].toNat : Int) != 95) = true := by simp; omega
  have h3 : 128 ≤ s[0].toNat := by omega
  have e3 : decide ((s[0].toNat : Int) < 128) = false := by simp; omega
  have e4 : (128 : Int) ≤ (s[0].toNat : Int) := by omega
  clear h58 h1 h2 h3
  go_enter Tryz.func94, Tryz.ntmps94
  go_wp2_with fail
  refine (HC.out _).mono ?_
  rintro e w1 ⟨rfl, rfl⟩
  go_wp2
  go_loop [3] (fun i => ∃ k : Nat, 1 ≤ k ∧ k ≤ s.size ∧ i = .int .i64 k ∧ Hid (∀ (j : Nat) c, 1 ≤ j → j < k → s.toList[j]? = some c → restB c = true)) (fun i => s.size - (intOf i).toNat)
  case atStart => exact ⟨1, Nat.le_refl _, h0, rfl, Lib.hid (fun j c h1 h2 => by omega)⟩
  case round =>
    obtain ⟨k, hk1, hk, rfl, hT⟩ := hrel
    clear HC
    by_cases hlt : k < s.size
    · have HX := Lib.hid (str_at s hlt)
      have HNB := Lib.hid (restB_eq s[k])
      have HF : Hid (restB s[k] = false → validEl s.toList = false) := Lib.hid (fun q => by
        rw [HV3.out, List.all_eq_false]
        exact ⟨s[k], List.mem_of_getElem? (i := k - 1) (by rw [List.getElem?_drop, show 1 + (k - 1) = k by omega]; exact HX.out), by rw [q]; decide⟩)
      have HT2 : Hid (restB s[k] = true → ∀ (j : Nat) c, 1 ≤ j → j < k + 1 → s.toList[j]? = some c → restB c = true) := Lib.hid (fun q j c h1 h2 hc => by
        by_cases hj : j < k
        · exact hT.out j c h1 hj hc
        · rw [show j = k by omega, HX.out] at hc
          simp at hc
          rw [← hc]; exact q)
      have HCA := Lib.hid (fun W => TAlnum_any s[k] W)
      cases ha : isAlnumB s[k] with
      | true =>
        rw [ha] at HCA HNB
        have HT3 := Lib.hid (HT2.out (by rw [HNB.out]; simp))
        clear ha
        go_wp2_with fail
        refine (HCA.out _).mono ?_
        rintro e w1 ⟨rfl, rfl⟩
        go_wp2
        go_round
        case rel => exact ⟨k + 1, by omega, hlt, by go_num, HT3⟩
        case measure => simp [intOf]; omega
      | false =>
      rw [ha] at HCA HNB
      clear ha
      by_cases g0 : s[k].toNat = 45
      · have f0 : ((s[k].toNat : Int) != 45) = false := by simp [g0]
        have HT3 := Lib.hid (HT2.out (by rw [HNB.out]; simp [g0]))
        clear g0
        go_wp2_with fail
        refine (HCA.out _).mono ?_
        rintro e w1 ⟨rfl, rfl⟩
        go_wp2
        go_round
        case rel => exact ⟨k + 1, by omega, hlt, by go_num, HT3⟩
        case measure => simp [intOf]; omega
      have f0 : ((s[k].toNat : Int) != 45) = true := by simp; omega
      by_cases g1 : s[k].toNat = 46
      · have f1 : ((s[k].toNat : Int) != 46) = false := by simp [g1]
        have HT3 := Lib.hid (HT2.out (by rw [HNB.out]; simp [g1]))
        clear g0 g1
        go_wp2_with fail
        refine (HCA.out _).mono ?_
        rintro e w1 ⟨rfl, rfl⟩
        go_wp2
        go_round
        case rel => exact ⟨k + 1, by omega, hlt, by go_num, HT3⟩
        case measure => simp [intOf]; omega
      have f1 : ((s[k].toNat : Int) != 46) = true := by simp; omega
      by_cases g2 : s[k].toNat = 58
      · have f2 : ((s[k].toNat : Int) != 58) = false := by simp [g2]
        have HT3 := Lib.hid (HT2.out (by rw [HNB.out]; simp [g2]))
        clear g0 g1 g2
        go_wp2_with fail
        refine (HCA.out _).mono ?_
        rintro e w1 ⟨rfl, rfl⟩
        go_wp2
        go_round
        case rel => exact ⟨k + 1, by omega, hlt, by go_num, HT3⟩
        case measure => simp [intOf]; omega
      have f2 : ((s[k].toNat : Int) != 58) = true := by simp; omega
      by_cases g3 : s[k].toNat = 95
      · have f3 : ((s[k].toNat : Int) != 95) = false := by simp [g3]
        have HT3 := Lib.hid (HT2.out (by rw [HNB.out]; simp [g3]))
        clear g0 g1 g2 g3
        go_wp2_with fail
        refine (HCA.out _).mono ?_
        rintro e w1 ⟨rfl, rfl⟩
        go_wp2
        go_round
        case rel => exact ⟨k + 1, by omega, hlt, by go_num, HT3⟩
        case measure => simp [intOf]; omega
      have f3 : ((s[k].toNat : Int) != 95) = true := by simp; omega
      by_cases g4 : 128 ≤ s[k].toNat
      · have f4 : decide ((s[k].toNat : Int) < 128) = false := by simp; omega
        have f5 : (128 : Int) ≤ (s[k].toNat : Int) := by omega
        have HT3 := Lib.hid (HT2.out (by rw [HNB.out]; simp [g4]))
        clear g0 g1 g2 g3 g4
        go_wp2_with fail
        refine (HCA.out _).mono ?_
        rintro e w1 ⟨rfl, rfl⟩
        go_wp2
        go_round
        case rel => exact ⟨k + 1, by omega, hlt, by go_num, HT3⟩
        case measure => simp [intOf]; omega
      have f4 : decide ((s[k].toNat : Int) < 128) = true := by simp; omega
      have f5 : (s[k].toNat : Int) < 128 := by omega
      have HF2 := Lib.hid (HF.out (by rw [HNB.out]; simp [g0, g1, g2, g3, g4]))
      clear g0 g1 g2 g3 g4
      go_wp2_with fail
      refine (HCA.out _).mono ?_
      rintro e w1 ⟨rfl, rfl⟩
      go_wp2
      go_ret
      exact ⟨by rw [HF2.out]; try rfl, rfl⟩
    · have HF : Hid (validEl s.toList = true) := Lib.hid (by
        rw [HV3.out, List.all_eq_true]
        intro c hc
        obtain ⟨j, hj⟩ := List.getElem?_of_mem hc
        rw [List.getElem?_drop] at hj
        have := (List.getElem?_eq_some_iff.1 hj).1
        rw [strcat_len] at this
        exact hT.out (1 + j) c (by omega) (by omega) hj)
      clear hT
      go_wp2
      go_ret
      exact ⟨by rw [HF.out]; try rfl, rfl⟩


set_option maxRecDepth 100000 in
set_option maxHeartbeats 2000000 in
theorem TLower_any (s : ByteArray) (w : World) (hs : s.size ≤ 1000000) :
    Calls Tryz.prog 95 #[.string s] w fun e w' => e = .returned (.string (lowerS s)) ∧ Below w.heap.size w w' := by
  have hlen := strcat_len s
  obtain ⟨i0, hi, hz0, hz1, hz2⟩ := info_parts infoByte
  have HII := Lib.hid hi
  have HO0 := Lib.hid (bytes_nil (Own.start w))
  clear hi
  go_enter Tryz.func95, Tryz.ntmps95
  go_wp2
  go_loopw [3, 4] (fun v i wr => ∃ k : Nat, k ≤ s.size ∧ i = .int .i64 k ∧ ∃ va vc, v = .slice va ((s.toList.take k).map lowB).length vc ∧ Hid (Own w w.heap.size [.bytes (.slice va ((s.toList.take k).map lowB).length vc) ((s.toList.take k).map lowB)] wr)) (fun _ i _ => s.size - (intOf i).toNat)
  case atStart => exact ⟨0, Nat.zero_le _, rfl, none, 0, rfl, HO0⟩
  case round =>
    obtain ⟨k, hk, rfl, va, vc, rfl, hT⟩ := hrel
    clear HO0
    by_cases hlt : k < s.size
    · have HX := Lib.hid (str_at s hlt)
      have HTK : Hid ((s.toList.take (k + 1)).map lowB = (s.toList.take k).map lowB ++ [lowB s[k]]) := Lib.hid (by rw [List.take_add_one, HX.out]; simp)
      have hyl : ((s.toList.take k).map lowB).length ≤ 1000000 := by simp; omega
      have hBW : w.heap.size ≤ wr.heap.size := hT.out.big
      have HU := Lib.hid (fun W => TUpper_any s[k] W)
      generalize hys : (s.toList.take k).map lowB = ys at *
      clear hys
      have hown := hT.out.row (e := 5) (size := 1) (v := .slice va ys.length vc) (n := ys.length) (xs := ys.map u8v) (by simp)
      have HOWN := Lib.hid hown
      clear hown
      cases hu : isUpperB s[k] with
      | true =>
        rw [hu] at HU
        have hl := lowB_up hu
        have hb1 : 65 ≤ s[k].toNat ∧ s[k].toNat ≤ 90 := by have := hu; unfold isUpperB at this; simpa using this
        have hw : IntKind.u8.wrap ((s[k].toNat : Int) + 32) = (s[k].toNat : Int) + 32 := by
          have := u8_wrap (lowB s[k]); rw [hl] at this; exact this
        have HL := Lib.hid hl
        clear hu hb1 hl
        go_wp2_with fail
        refine (HU.out _).mono ?_
        rintro e w1 ⟨rfl, rfl⟩
        go_wp2_with (at_builtin; rw [← HL.out]; refine wpList_append_own_at _ rfl _ _ 145 rfl w.heap.size 5 i0 _ 1 1 Tryz.underlying145 HII.out hz0 hz1 hz2 rfl (by decide) _ _ _ rfl (HOWN.out.alloc _) ⟨wr.heap.size, 0, none⟩ 1 1 [u8v (lowB s[k])] rfl rfl (by intro j u hj; rw [Addr.add_mid, Nat.zero_add]; exact cell_new' rfl (by simpa [u8v] using hj)) (by intro u hu; simp at hu; subst hu; rfl) (by unfold maxLen; omega) (by omega) (by simp; omega) ?_)
        intro v' w1 hg hgrow _ hat
        have o3 := (((hT.out.alloc (.cells #[.int .u8 (lowB s[k]).toNat] 5)).swap).grow hg hgrow (by simpa using hat)).swap.drop
        obtain ⟨va', vc', rfl⟩ := ownsForm hg
        have HK : Hid (Own w w.heap.size [.bytes (.slice va' (ys ++ [lowB s[k]]).length vc') (ys ++ [lowB s[k]])] w1) := Lib.hid (by
          unfold Asrt.bytes
          rw [List.length_append, List.map_append]; exact o3)
        rw [show ys.length + 1 = (ys ++ [lowB s[k]]).length by simp]
        rw [← HTK.out] at HK ⊢
        clear o3 hg hgrow hat HOWN hT
        go_wp2
        go_roundw
        case rel => exact ⟨k + 1, hlt, by go_num, va', vc', rfl, HK⟩
        case measure => simp [intOf]; omega
      | false =>
        rw [hu] at HU
        have hl := lowB_no hu
        rw [hl] at HTK
        clear hu hl
        go_wp2_with fail
        refine (HU.out _).mono ?_
        rintro e w1 ⟨rfl, rfl⟩
        go_wp2_with (at_builtin; refine wpList_append_own_at _ rfl _ _ 145 rfl w.heap.size 5 i0 _ 1 1 Tryz.underlying145 HII.out hz0 hz1 hz2 rfl (by decide) _ _ _ rfl (HOWN.out.alloc _) ⟨wr.heap.size, 0, none⟩ 1 1 [u8v s[k]] rfl rfl (by intro j u hj; rw [Addr.add_mid, Nat.zero_add]; exact cell_new' rfl (by simpa [u8v] using hj)) (by intro u hu; simp at hu; subst hu; rfl) (by unfold maxLen; omega) (by omega) (by simp; omega) ?_)
        intro v' w1 hg hgrow _ hat
        have o3 := (((hT.out.alloc (.cells #[.int .u8 s[k].toNat] 5)).swap).grow hg hgrow (by simpa using hat)).swap.drop
        obtain ⟨va', vc', rfl⟩ := ownsForm hg
        have HK : Hid (Own w w.heap.size [.bytes (.slice va' (ys ++ [s[k]]).length vc') (ys ++ [s[k]])] w1) := Lib.hid (by
          unfold Asrt.bytes
          rw [List.length_append, List.map_append]; exact o3)
        rw [show ys.length + 1 = (ys ++ [s[k]]).length by simp]
        rw [← HTK.out] at HK ⊢
        clear o3 hg hgrow hat HOWN hT
        go_wp2
        go_roundw
        case rel => exact ⟨k + 1, hlt, by go_num, va', vc', rfl, HK⟩
        case measure => simp [intOf]; omega
    · have hkl : s.toList.take k = s.toList := List.take_of_length_le (by rw [hlen]; exact Nat.le_of_not_lt hlt)
      rw [hkl] at hT ⊢
      have HF : Hid (lowerS s = ⟨(s.toList.map lowB).toArray⟩) := Lib.hid rfl
      have HL := Lib.hid hT.out.low
      clear hkl
      generalize s.toList.map lowB = zs at *
      have hback := bytes_back (hT.out.row (e := 5) (size := 1) (v := .slice va zs.length vc) (n := zs.length) (xs := zs.map u8v) (by simp))
      clear hT
      generalize (⟨zs.toArray⟩ : ByteArray) = r at *
      go_wp2
      go_ret
      exact ⟨by rw [HF.out]; try rfl, HL.out⟩

end Go.Proofs.YtpicinjcmjaogaaGreat
