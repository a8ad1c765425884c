/-
  strings.Replacer with three bytes to replace: Replace.
-/
import Derived.Test.YtnfdcfagdidmhaaGreatDoorQO
import Derived.Test.YtnfdcfagdidmhaaGreatDoorQL
import Derived.Deep.CutRange
import Derived.LoopTactic
import Derived.Deep.RegionLaw
import Derived.Deep.RegionHeld3
import Derived.Deep.OwnRows
import Derived.Laws.CopyOwn
import Derived.Lib.Bytealg
import Derived.Lib.BufferMore
import Derived.Laws.OwnMore
namespace Go.Proofs.YtnfdcfagdidmhaaGreatDoor
open Go.RowKit
set_option linter.unusedVariables false

/-- The table that NewReplacer's Replacer builds here: three bytes are replaced, each by two. -/
structure RepT (w : World) (g : Nat) : Prop where
  tab : ∀ c : Nat, c < 256 → ¬ (c = 10 ∨ c = 34 ∨ c = 92) → w.cell? ⟨g, c, none⟩ = some (.slice none 0 0)
  esc : ∀ c : Nat, (c = 10 ∨ c = 34 ∨ c = 92) → ∃ r k, w.cell? ⟨g, c, none⟩ = some (.slice (some ⟨r, 0, none⟩) 2 k) ∧ w.cell? ⟨r, 0, none⟩ = some (.int .u8 92) ∧ w.cell? ⟨r, 1, none⟩ = some (.int .u8 (if c = 10 then 110 else (c : Int)))
  rep : ∃ t k, w.cell? ⟨g, 256, none⟩ = some (.slice (some ⟨t, 0, none⟩) 3 k) ∧ w.cell? ⟨t, 0, none⟩ = some (.string ⟨#[10]⟩) ∧ w.cell? ⟨t, 1, none⟩ = some (.string ⟨#[92]⟩) ∧ w.cell? ⟨t, 2, none⟩ = some (.string ⟨#[34]⟩)
theorem RepT.below {w w' : World} {g : Nat} (h : RepT w g) (hb : Below w.heap.size w w') : RepT w' g := by
  refine ⟨fun c h1 h2 => Below.old hb (h.tab c h1 h2), fun c hc => ?_, ?_⟩
  · obtain ⟨r, k, h1, h2, h3⟩ := h.esc c hc
    exact ⟨r, k, Below.old hb h1, Below.old hb h2, Below.old hb h3⟩
  · obtain ⟨t, k, h1, h2, h3, h4⟩ := h.rep
    exact ⟨t, k, Below.old hb h1, Below.old hb h2, Below.old hb h3, Below.old hb h4⟩

def q8 (b : UInt8) : Value := .int .u8 (b.toNat : Int)
theorem q_infoU8 : (Tryz.prog.info? 5).map (fun i => (i.zero, i.size, i.bytes)) = some (some (.int .u8 0), 1, 1) := by kernel_rfl

def isEsc (c : UInt8) : Bool := decide (c = 10 ∨ c = 34 ∨ c = 92)
/-- How many bytes are replaced. -/
def escN (l : List UInt8) : Nat := (l.filter isEsc).length
theorem escB_eq (c : UInt8) : escB c = if isEsc c = true then [92, if c = 10 then 110 else c] else [c] := by
  unfold escB isEsc
  by_cases h1 : c = 10
  · simp [h1]
  · by_cases h2 : c = 34 ∨ c = 92
    · simp [h1, h2]
    · simp [h1, h2]
theorem esc_flat_len : ∀ l : List UInt8, (l.flatMap escB).length = l.length + escN l
  | [] => rfl
  | c :: l => by
    have := esc_flat_len l
    rw [List.flatMap_cons, List.length_append, this, escB_eq]
    unfold escN at *
    by_cases h : isEsc c = true
    · rw [if_pos h, List.filter_cons_of_pos h]; simp only [List.length_cons, List.length_nil]; omega
    · rw [if_neg h, List.filter_cons_of_neg h]; simp only [List.length_cons, List.length_nil]; omega
theorem esc_none : ∀ l : List UInt8, escN l = 0 → l.flatMap escB = l
  | [], _ => rfl
  | c :: l, h => by
    unfold escN at h
    by_cases hc : isEsc c = true
    · rw [List.filter_cons_of_pos hc] at h; simp at h
    · rw [List.filter_cons_of_neg hc] at h
      rw [List.flatMap_cons, esc_none l h, escB_eq, if_neg hc]; rfl
theorem escN_count (l : List UInt8) : escN l = Lib.countByte l 10 + Lib.countByte l 92 + Lib.countByte l 34 := by
  unfold escN Lib.countByte
  induction l with
  | nil => rfl
  | cons c l ih =>
    simp only [List.count_cons]
    by_cases h : isEsc c = true
    · rw [List.filter_cons_of_pos h, List.length_cons, ih]
      unfold isEsc at h
      rcases of_decide_eq_true h with rfl | rfl | rfl
      all_goals (simp; omega)
    · rw [List.filter_cons_of_neg h, ih]
      have h' : ¬ (c = 10 ∨ c = 34 ∨ c = 92) := fun q => h (decide_eq_true q)
      have h1 : (c == 10) = false := by simp; exact fun q => h' (.inl q)
      have h2 : (c == 34) = false := by simp; exact fun q => h' (.inr (.inl q))
      have h3 : (c == 92) = false := by simp; exact fun q => h' (.inr (.inr q))
      simp [h1, h2, h3]

theorem escN_take {l : List UInt8} {k : Nat} {c : UInt8} (h : l[k]? = some c) : escN (l.take (k + 1)) = escN (l.take k) + (if isEsc c = true then 1 else 0) := by
  unfold escN
  rw [List.take_add_one, h, List.filter_append, List.length_append]
  congr 1
  by_cases hc : isEsc c = true <;> simp [hc]
theorem escN_le (l : List UInt8) : escN l ≤ l.length := List.length_filter_le _ _
/-- What the buffer holds behind some bytes. -/
def bufL (N : Nat) (x : List UInt8) : List Value := x.map q8 ++ List.replicate (N - x.length) (Value.int .u8 0)
theorem bufL_len {N : Nat} {x : List UInt8} (h : x.length ≤ N) : (bufL N x).length = N := by unfold bufL; simp; omega
theorem bufL_set {N : Nat} {x : List UInt8} (c : UInt8) (h : x.length < N) : (bufL N x).set x.length (q8 c) = bufL N (x ++ [c]) := by
  obtain ⟨m, hm⟩ : ∃ m, N - x.length = m + 1 := ⟨N - x.length - 1, by omega⟩
  unfold bufL
  rw [hm, List.replicate_succ, List.set_append_right _ _ (by simp)]
  simp only [List.length_map, Nat.sub_self, List.set_cons_zero, List.map_append, List.map_cons, List.map_nil, List.append_assoc, List.cons_append, List.nil_append, List.length_append, List.length_cons, List.length_nil]
  rw [show N - (x.length + (0 + 1)) = m by omega]
theorem bufL_splice {N : Nat} {x y : List UInt8} (h : x.length + y.length ≤ N) : splice (bufL N x) x.length (y.map q8) = bufL N (x ++ y) := by
  unfold splice bufL
  rw [List.take_append_of_le_length (by simp), List.take_of_length_le (by simp), List.drop_append, List.drop_eq_nil_of_le (by simp), List.nil_append, List.drop_replicate]
  simp only [List.length_map, List.map_append, List.length_append, List.append_assoc]
  congr 3
  omega
theorem flat_step {l : List UInt8} {k : Nat} {c : UInt8} (h : l[k]? = some c) : (l.take (k + 1)).flatMap escB = (l.take k).flatMap escB ++ escB c := by
  rw [List.take_add_one, h, List.flatMap_append]
  congr 1
  simp
theorem flat_take_le (l : List UInt8) (k : Nat) : ((l.take k).flatMap escB).length ≤ (l.flatMap escB).length := by
  have := congrArg List.length (congrArg (List.flatMap escB) (List.take_append_drop k l))
  rw [List.flatMap_append, List.length_append] at this
  omega
/-- The partial sums of the first way of counting. -/
def cntK (l : List UInt8) (k : Nat) : Nat := if k = 0 then 0 else if k = 1 then Lib.countByte l 10 else if k = 2 then Lib.countByte l 10 + Lib.countByte l 92 else escN l

set_option maxRecDepth 100000 in
set_option maxHeartbeats 4000000 in
theorem q_replace (g : Nat) (s : ByteArray) (w : World) (hR : RepT w g) (hs : s.size ≤ 1000000) :
    Calls Tryz.prog 199 #[.pointer (some ⟨g, 0, none⟩), .string s] w fun e w' => e = .returned (.string ⟨(s.toList.flatMap escB).toArray⟩) ∧ Below w.heap.size w w' := by
  have HR := Lib.hid hR
  obtain ⟨t, k, r0, r1, r2, r3⟩ := hR.rep
  have HEN : Hid (escN s.toList ≤ s.size) := Lib.hid (by have := escN_le s.toList; have : s.toList.length = s.size := by { rw [Go.ByteArray.toList_eq, Array.length_toList]; rfl }; omega)
  clear hR
  go_enter Tryz.func199, Tryz.ntmps199
  go_upto_if 26 with (fail)
  go_cut [5, 6, 26] from 27 to 80 (fun p q _ wx => p = .int .i64 (s.size + escN s.toList) ∧ q = .bool (decide (escN s.toList ≠ 0)) ∧ Hid (Below w.heap.size w wx))
  case first =>
    by_cases h24 : (24 : Int) ≤ (s.size : Int)
    case pos =>
      have HCN : Hid (∀ c : UInt8, Lib.countByte s.data.toList c ≤ s.size) := Lib.hid (fun c => by
        have h1 : s.data.toList.length = s.size := by rw [Array.length_toList]; rfl
        have h2 : Lib.countByte s.data.toList c ≤ s.data.toList.length := List.count_le_length
        omega)
      have HC4 : Hid (cntK s.toList 0 = 0 ∧ cntK s.toList 1 = cntK s.toList 0 + Lib.countByte s.data.toList 10 ∧ cntK s.toList 2 = cntK s.toList 1 + Lib.countByte s.data.toList 92 ∧ cntK s.toList 3 = cntK s.toList 2 + Lib.countByte s.data.toList 34 ∧ cntK s.toList 3 = escN s.toList) := Lib.hid (by
        have := escN_count s.toList
        rw [Go.ByteArray.toList_eq] at *
        unfold cntK
        simp
        omega)
      have hd24 : decide ((24 : Int) ≤ (s.size : Int)) = true := decide_eq_true h24
      go_wp2_with fail
      try simp only [hd24]
      clear hd24
      go_loopw [5, 6, 32] (fun p q i wr => ∃ k : Nat, k ≤ 3 ∧ i = .int .i64 k ∧ p = .int .i64 (s.size + cntK s.toList k) ∧ q = .bool (decide (cntK s.toList k ≠ 0)) ∧ Hid (Below w.heap.size w wr)) (fun _ _ i _ => 3 - (intOf i).toNat)
      case atStart => exact ⟨0, by omega, rfl, by rw [HC4.out.1]; simp, by rw [HC4.out.1]; rfl, Lib.hid (Below.refl _ _)⟩
      case round =>
        obtain ⟨j, hj, rfl, rfl, rfl, hT⟩ := hrel
        have r0 := Below.old hT.out r0
        have r1 := Below.old hT.out r1
        have r2 := Below.old hT.out r2
        have r3 := Below.old hT.out r3
        by_cases hlt : j < 3
        case neg =>
          obtain rfl : j = 3 := by omega
          have HN := HC4.out.2.2.2.2
          go_wp2
          go_meet
          exact ⟨by rw [HN], by rw [HN], hT⟩
        case pos =>
        have hen := HCN.out
        have hcs := HC4.out
        obtain ⟨hc0, hc1, hc2, hc3, hc4⟩ := hcs
        rcases (by omega : j = 0 ∨ j = 1 ∨ j = 2) with rfl | rfl | rfl
        · obtain ⟨r, kk, e0, -, -⟩ := (HR.out.below hT.out).esc 10 (by omega)
          have hnb := hen 10
          have HQ := Lib.hid (q_count s 10)
          have hx : (((⟨#[10]⟩ : ByteArray)[0]'(by decide)).toNat : Int) = 10 := rfl
          generalize Lib.countByte s.data.toList 10 = n at *
          obtain ⟨D, hD0⟩ : ∃ D, cntK s.toList 0 = D := ⟨_, rfl⟩
          have HD := Lib.hid hc1
          have hDn : D ≤ 4000000 := by have := hen 10; have := hen 92; have := hen 34; omega
          have hwr : IntKind.i64.wrap ((s.size : Int) + D + n) = (s.size : Int) + D + n := IntWalk.i64_in _ (by omega)
          have hwn : IntKind.i64.wrap (n : Int) = n := IntWalk.i64_in _ (by omega)
          clear hen hc0 hc1 hc2 hc3 hc4 HC4 HCN
          by_cases hn : n = 0
          · have hz : ((n : Int) != 0) = false := by simp [hn]
            have HN := Lib.hid hn
            clear hn
            go_wp2_with (first | (go_at_call 201; refine (HQ.out _).mono ?_; rintro e w' ⟨rfl, rfl⟩) | fail)
            go_roundw
            case rel => exact ⟨1, by omega, rfl, by rw [HD.out, hD0, HN.out]; rfl, by rw [HD.out, hD0, HN.out]; simp, hT⟩
            case measure => simp [intOf]
          · have hz : ((n : Int) != 0) = true := by simp [hn]
            have HN := Lib.hid hn
            clear hn
            go_wp2_with (first | (go_at_call 201; refine (HQ.out _).mono ?_; rintro e w' ⟨rfl, rfl⟩) | fail)
            go_quiet (fail)
            go_wp2
            go_roundw
            case rel => exact ⟨1, by omega, rfl, by simp only [show IntKind.i64.wrap 1 = 1 from rfl, Int.mul_one, hwn, hwr, HD.out, hD0]; congr 1; omega, by rw [HD.out, decide_eq_true (by have := HN.out; omega)], Lib.hid (Below.drewN hT.out _)⟩
            case measure => simp [intOf]
        · obtain ⟨r, kk, e0, -, -⟩ := (HR.out.below hT.out).esc 92 (by omega)
          have hnb := hen 92
          have HQ := Lib.hid (q_count s 92)
          have hx : (((⟨#[92]⟩ : ByteArray)[0]'(by decide)).toNat : Int) = 92 := rfl
          generalize Lib.countByte s.data.toList 92 = n at *
          obtain ⟨D, hD0⟩ : ∃ D, cntK s.toList 1 = D := ⟨_, rfl⟩
          have HD := Lib.hid hc2
          have hDn : D ≤ 4000000 := by have := hen 10; have := hen 92; have := hen 34; omega
          have hwr : IntKind.i64.wrap ((s.size : Int) + D + n) = (s.size : Int) + D + n := IntWalk.i64_in _ (by omega)
          have hwn : IntKind.i64.wrap (n : Int) = n := IntWalk.i64_in _ (by omega)
          clear hen hc0 hc1 hc2 hc3 hc4 HC4 HCN
          by_cases hn : n = 0
          · have hz : ((n : Int) != 0) = false := by simp [hn]
            have HN := Lib.hid hn
            clear hn
            go_wp2_with (first | (go_at_call 201; refine (HQ.out _).mono ?_; rintro e w' ⟨rfl, rfl⟩) | fail)
            go_roundw
            case rel => exact ⟨2, by omega, rfl, by rw [HD.out, hD0, HN.out]; rfl, by rw [HD.out, hD0, HN.out]; simp, hT⟩
            case measure => simp [intOf]
          · have hz : ((n : Int) != 0) = true := by simp [hn]
            have HN := Lib.hid hn
            clear hn
            go_wp2_with (first | (go_at_call 201; refine (HQ.out _).mono ?_; rintro e w' ⟨rfl, rfl⟩) | fail)
            go_quiet (fail)
            go_wp2
            go_roundw
            case rel => exact ⟨2, by omega, rfl, by simp only [show IntKind.i64.wrap 1 = 1 from rfl, Int.mul_one, hwn, hwr, HD.out, hD0]; congr 1; omega, by rw [HD.out, decide_eq_true (by have := HN.out; omega)], Lib.hid (Below.drewN hT.out _)⟩
            case measure => simp [intOf]
        · obtain ⟨r, kk, e0, -, -⟩ := (HR.out.below hT.out).esc 34 (by omega)
          have hnb := hen 34
          have HQ := Lib.hid (q_count s 34)
          have hx : (((⟨#[34]⟩ : ByteArray)[0]'(by decide)).toNat : Int) = 34 := rfl
          generalize Lib.countByte s.data.toList 34 = n at *
          obtain ⟨D, hD0⟩ : ∃ D, cntK s.toList 2 = D := ⟨_, rfl⟩
          have HD := Lib.hid hc3
          have hDn : D ≤ 4000000 := by have := hen 10; have := hen 92; have := hen 34; omega
          have hwr : IntKind.i64.wrap ((s.size : Int) + D + n) = (s.size : Int) + D + n := IntWalk.i64_in _ (by omega)
          have hwn : IntKind.i64.wrap (n : Int) = n := IntWalk.i64_in _ (by omega)
          clear hen hc0 hc1 hc2 hc3 hc4 HC4 HCN
          by_cases hn : n = 0
          · have hz : ((n : Int) != 0) = false := by simp [hn]
            have HN := Lib.hid hn
            clear hn
            go_wp2_with (first | (go_at_call 201; refine (HQ.out _).mono ?_; rintro e w' ⟨rfl, rfl⟩) | fail)
            go_roundw
            case rel => exact ⟨3, by omega, rfl, by rw [HD.out, hD0, HN.out]; rfl, by rw [HD.out, hD0, HN.out]; simp, hT⟩
            case measure => simp [intOf]
          · have hz : ((n : Int) != 0) = true := by simp [hn]
            have HN := Lib.hid hn
            clear hn
            go_wp2_with (first | (go_at_call 201; refine (HQ.out _).mono ?_; rintro e w' ⟨rfl, rfl⟩) | fail)
            go_quiet (fail)
            go_wp2
            go_roundw
            case rel => exact ⟨3, by omega, rfl, by simp only [show IntKind.i64.wrap 1 = 1 from rfl, Int.mul_one, hwn, hwr, HD.out, hD0]; congr 1; omega, by rw [HD.out, decide_eq_true (by have := HN.out; omega)], Lib.hid (Below.drewN hT.out _)⟩
            case measure => simp [intOf]
    case neg =>
      have hd24 : decide ((24 : Int) ≤ (s.size : Int)) = false := decide_eq_false h24
      go_wp2_with fail
      try simp only [hd24]
      clear hd24
      go_loopw [5, 6, 10] (fun p q i wr => ∃ k : Nat, k ≤ s.size ∧ i = .int .i64 k ∧ p = .int .i64 (s.size + escN (s.toList.take k)) ∧ q = .bool (decide (escN (s.toList.take k) ≠ 0)) ∧ Hid (Below w.heap.size w wr)) (fun _ _ i _ => s.size - (intOf i).toNat)
      case atStart => exact ⟨0, by omega, rfl, by simp [escN], by simp [escN], Lib.hid (Below.refl _ _)⟩
      case round =>
        obtain ⟨j, hj, rfl, rfl, rfl, hT⟩ := hrel
        by_cases hlt : j < s.size
        case neg =>
          obtain rfl : j = s.size := by omega
          have HN : s.toList.take s.size = s.toList := List.take_of_length_le (by rw [Go.ByteArray.toList_eq, Array.length_toList]; exact Nat.le_refl _)
          go_wp2
          go_meet
          exact ⟨by rw [HN], by rw [HN], hT⟩
        case pos =>
        have hsl : s.toList.length = s.size := by rw [Go.ByteArray.toList_eq, Array.length_toList]; rfl
        obtain ⟨c, hc⟩ : ∃ c, s[j]'hlt = c := ⟨_, rfl⟩
        have hcl : s.toList[j]? = some c := by
          rw [Go.ByteArray.toList_eq, Array.getElem?_toList, ← hc]
          exact Array.getElem?_eq_getElem (show j < s.data.size from hlt)
        have hcn : c.toNat < 256 := c.toNat_lt
        have HT1 := Lib.hid (escN_take hcl)
        have hle : escN (s.toList.take j) ≤ 1000000 := by
          have h1 := escN_le (s.toList.take j)
          have h2 := List.length_take_le j s.toList
          omega
        obtain ⟨D, hD0⟩ : ∃ D, escN (s.toList.take j) = D := ⟨_, rfl⟩
        have hwr : IntKind.i64.wrap ((s.size : Int) + D + 1) = (s.size : Int) + D + 1 := IntWalk.i64_in _ (by omega)
        by_cases hi : isEsc c = true
        case neg =>
          have e0 := (HR.out.below hT.out).tab c.toNat hcn (fun q => hi (decide_eq_true (by
            rcases q with q | q | q
            · exact .inl (UInt8.toNat.inj q)
            · exact .inr (.inl (UInt8.toNat.inj q))
            · exact .inr (.inr (UInt8.toNat.inj q)))))
          rw [if_neg hi] at HT1
          clear hcl hsl
          go_wp2_with fail
          go_roundw
          case rel => exact ⟨j + 1, by omega, by go_num, by rw [HT1.out]; rfl, by rw [HT1.out]; rfl, hT⟩
          case measure => simp [intOf]; omega
        case pos =>
          obtain ⟨r, kk, e0, -, -⟩ := (HR.out.below hT.out).esc c.toNat (by
            rcases of_decide_eq_true hi with rfl | rfl | rfl
            · exact .inl rfl
            · exact .inr (.inl rfl)
            · exact .inr (.inr rfl))
          rw [if_pos hi] at HT1
          clear hcl hsl
          go_wp2_with fail
          go_roundw
          case rel => exact ⟨j + 1, by omega, by go_num, by rw [HT1.out, hD0]; simp; try omega, by rw [HT1.out]; simp, hT⟩
          case measure => simp [intOf]; omega
  case rest =>
    obtain ⟨rfl, rfl, hB⟩ := hcut
    by_cases hz : escN s.toList = 0
    case pos =>
      have hd : decide (escN s.toList ≠ 0) = false := decide_eq_false (fun q => q hz)
      have HV : Hid ((⟨(s.toList.flatMap escB).toArray⟩ : ByteArray) = s) := Lib.hid (by rw [esc_none _ hz, Go.ByteArray.toList_eq])
      rw [hd]
      clear hz hd
      go_wp2
      go_ret
      exact ⟨congrArg (fun x => Ending.returned (Value.string x)) HV.out.symm, hB.out⟩
    case neg =>
      have hd : decide (escN s.toList ≠ 0) = true := decide_eq_true hz
      have hsl : s.toList.length = s.size := by rw [Go.ByteArray.toList_eq, Array.length_toList]; rfl
      obtain ⟨N, hNe⟩ : ∃ N : Nat, s.size + escN s.toList = N := ⟨_, rfl⟩
      have hNi : ((s.size : Int) + (escN s.toList : Int)) = (N : Int) := by omega
      have hN2 : N ≤ 2000000 := by have := HEN.out; omega
      have HNL : Hid ((s.toList.flatMap escB).length = N) := Lib.hid (by rw [esc_flat_len, hsl]; exact hNe)
      have hmk := fun w => run_make_row' (P := Tryz.prog) 74 5 (.int .u8 0) 1 Tryz.underlying74 q_infoU8 rfl .i64 .i64 N (by omega) (by omega) w
      rw [hd, hNi]
      clear hz hd hNi r0 r1 r2 r3
      go_wp2_with fail
      generalize hgb : wc.heap.size = gb at *
      have hgw : w.heap.size ≤ gb := by rw [← hgb]; exact hB.out.size
      go_loopw [13, 14] (fun p i wr => ∃ k : Nat, k ≤ s.size ∧ i = .int .i64 k ∧ p = .int .i64 ((s.toList.take k).flatMap escB).length ∧ Hid (wr.heap[gb]? = some (.cells (bufL N ((s.toList.take k).flatMap escB)).toArray 5 (0, 0))) ∧ Hid (Below w.heap.size w wr)) (fun _ i _ => s.size - (intOf i).toNat)
      case atStart =>
        refine ⟨0, by omega, rfl, by simp, Lib.hid ?_, Lib.hid (hB.out.alloc hB.out.size _)⟩
        have hm0 : madeCells #[Value.int .u8 0] N = (List.replicate N (Value.int .u8 0)).toArray := by
          rw [← toList_madeCells_one (Value.int .u8 0) N]
        rw [← hgb]
        have := heap_alloc_new wc (.cells (madeCells #[Value.int .u8 0] N) 5)
        rw [hm0] at this
        rw [hm0]
        simpa [bufL] using this
      case round =>
        obtain ⟨j, hj, rfl, rfl, hG, hT⟩ := hrel
        by_cases hlt : j < s.size
        case neg =>
          obtain rfl : j = s.size := by omega
          have HX : Hid (s.toList.take s.size = s.toList) := Lib.hid (List.take_of_length_le (by omega))
          have hcv : (convert 74 9 (.slice (some ⟨gb, 0, none⟩) N N)).run Tryz.prog wr = .ok (.string ⟨(s.toList.flatMap escB).toArray⟩) wr := by
            have h1 := run_convert_bytes_back wr 74 9 5 ⟨gb, 0, none⟩ N (s.toList.flatMap escB) Tryz.underlying74 Tryz.underlying5 Tryz.underlying9 (fun q hq => by
              have hg := hG.out
              rw [HX.out] at hg
              have hl := HNL.out
              rw [Addr.add_mid, Nat.zero_add]
              refine (cell_of_row wr gb q _ _ _ hg).trans ?_
              unfold bufL
              rw [List.getElem?_toArray, List.getElem?_append_left (by simpa using hq)]
              simp only [List.getElem?_map, List.getElem?_eq_getElem hq, Option.map_some, q8])
            rw [HNL.out] at h1
            exact h1
          have HB := Lib.hid hT.out
          clear hsl hmk
          go_wp2
          go_ret
          exact ⟨rfl, HB.out⟩
        case pos =>
        obtain ⟨c, hc⟩ : ∃ c, s[j]'hlt = c := ⟨_, rfl⟩
        have hcl : s.toList[j]? = some c := by
          rw [Go.ByteArray.toList_eq, Array.getElem?_toList, ← hc]
          exact Array.getElem?_eq_getElem (show j < s.data.size from hlt)
        have hcn : c.toNat < 256 := c.toNat_lt
        have HS := Lib.hid (flat_step hcl)
        have hstep : ((s.toList.take j).flatMap escB).length + (escB c).length ≤ N := by
          have h1 := flat_take_le s.toList (j + 1)
          rw [HS.out, List.length_append, HNL.out] at h1
          exact h1
        obtain ⟨x, hx⟩ : ∃ x, (s.toList.take j).flatMap escB = x := ⟨_, rfl⟩
        rw [hx] at hG hstep HS
        rw [hx]
        by_cases hi : isEsc c = true
        case neg =>
          have e0 := (HR.out.below hT.out).tab c.toNat hcn (fun q => hi (decide_eq_true (by
            rcases q with q | q | q
            · exact .inl (UInt8.toNat.inj q)
            · exact .inr (.inl (UInt8.toNat.inj q))
            · exact .inr (.inr (UInt8.toNat.inj q)))))
          have es : escB c = [c] := by rw [escB_eq, if_neg hi]
          rw [es] at HS hstep
          have hst2 : x.length < N := by simp at hstep; omega
          have g0 : wr.cell? ⟨gb, x.length, none⟩ = some (.int .u8 0) := (cell_of_row wr gb x.length _ _ _ hG.out).trans (by
            unfold bufL
            rw [List.getElem?_toArray, List.getElem?_append_right (by simp)]
            rw [List.length_map, Nat.sub_self, List.getElem?_replicate, if_pos (by omega)])
          have gf : wr.frozen? ⟨gb, x.length, none⟩ = false := frozen_of_row wr gb x.length _ _ hG.out
          have HK : Hid ((wr.setCell ⟨gb, x.length, none⟩ (.int .u8 (c.toNat : Int))).heap[gb]? = some (.cells (bufL N (x ++ [c])).toArray 5 (0, 0))) := Lib.hid (by
            have h1 := Lib.heap_setCell_same hG.out (i := x.length) (q8 c)
            rw [show (bufL N x).toArray.setIfInBounds x.length (q8 c) = (bufL N (x ++ [c])).toArray by rw [← bufL_set c hst2]; simp] at h1
            exact h1)
          have HB2 : Hid (Below w.heap.size w (wr.setCell ⟨gb, x.length, none⟩ (.int .u8 (c.toNat : Int)))) := Lib.hid (hT.out.setCell (p := ⟨gb, x.length, none⟩) hgw _)
          have hwr : IntKind.i64.wrap ((x.length : Int) + 1) = (x.length : Int) + 1 := IntWalk.i64_in _ (by omega)
          clear hcl hsl hmk hG es
          go_wp2_with fail
          go_roundw
          case rel => exact ⟨j + 1, by omega, by go_num, by rw [HS.out]; simp, by rw [HS.out]; exact HK, HB2⟩
          case measure => simp [intOf]; omega
        case pos =>
          obtain ⟨r, kk, e0, e1, e2⟩ := (HR.out.below hT.out).esc c.toNat (by
            rcases of_decide_eq_true hi with rfl | rfl | rfl
            · exact .inl rfl
            · exact .inr (.inl rfl)
            · exact .inr (.inr rfl))
          obtain ⟨y, hy⟩ : ∃ y, (if c = 10 then (110 : UInt8) else c) = y := ⟨_, rfl⟩
          have es : escB c = [92, y] := by rw [escB_eq, if_pos hi, hy]
          have e3 : wr.cell? ⟨r, 1, none⟩ = some (q8 y) := by
            rw [e2]; congr 1
            unfold q8
            rw [← hy]
            by_cases q : c = 10
            · rw [if_pos q, q]; rfl
            · rw [if_neg q, if_neg (show ¬ c.toNat = 10 from fun z => q (UInt8.toNat.inj z))]
          rw [es] at HS hstep
          have hst2 : x.length + 2 ≤ N := by simpa using hstep
          have hst3 : ¬ ((N : Int) - x.length = 0) := by omega
          have hst4 : ¬ (N - x.length = 0) := by omega
          have hst5 : ¬ (N = x.length) := by omega
          clear hcl hsl hmk es
          go_wp2_with fail
          have HGD : Hid (wr.drew.heap[gb]? = some (.cells (bufL N x).toArray 5 (0, 0))) := Lib.hid hG.out
          have HTD := Lib.hid (Below.drew hT.out)
          have HMIN : Hid ([q8 92, q8 y].length = Nat.min 2 (N - x.length)) := Lib.hid (by
            show 2 = Nat.min 2 (N - x.length)
            exact (Nat.min_eq_left (by omega)).symm)
          have HSRC : Hid (∀ (q : Nat) v, [q8 92, q8 y][q]? = some v → wr.drew.cell? ((⟨r, 0, none⟩ : Addr).add q) = some v) := Lib.hid (fun q v hq => by
            rw [Addr.add_mid, Nat.zero_add]
            rcases q with _ | _ | q
            · simp at hq; rw [← hq]; exact e1
            · simp at hq; rw [← hq]; exact e3
            · simp at hq)
          have HFIT : Hid (x.length + [q8 92, q8 y].length ≤ (bufL N x).length) := Lib.hid (by rw [bufL_len (by omega)]; exact hst2)
          have hwr : IntKind.i64.wrap ((x.length : Int) + 2) = (x.length : Int) + 2 := IntWalk.i64_in _ (by omega)
          have HSP : Hid (splice (bufL N x) x.length [q8 92, q8 y] = bufL N (x ++ [92, y])) := Lib.hid (bufL_splice (y := [92, y]) hst2)
          have hxn : x.length ≤ N := by omega
          have hcn2 : (c.toNat : Int) < 256 := by omega
          have hcn0 : (0 : Int) ≤ (c.toNat : Int) := by omega
          have d0 : wr.drew.cell? ⟨g, c.toNat, none⟩ = some (.slice (some ⟨r, 0, none⟩) 2 kk) := e0
          clear hG hT e0 e1 e2 e3 hstep
          go_region_law (refine step_copy_splice (by rfl) (.tmp 105) (.tmp 111) 74 74 (by rfl) 5 Tryz.underlying74 (by kernel_rfl) (some ⟨gb, x.length, none⟩) (some ⟨r, 0, none⟩) (N - x.length) (N - x.length) 2 kk (by rfl) (by rfl) gb x.length (bufL N x) 5 HGD.out [q8 92, q8 y] HMIN.out (fun _ => ⟨rfl, ⟨r, 0, none⟩, rfl, HSRC.out⟩) HFIT.out (by simp [q8]; exact ⟨rfl, rfl⟩) w.heap.size w HTD.out hgw ?_; intro w4 hg4 hb4)
          all_goals
            clear d0
            go_wp2_with fail
            go_roundw
            case rel => exact ⟨j + 1, by omega, by go_num, by rw [HS.out]; simp; try omega, by rw [HS.out, ← HSP.out]; exact hg4, Lib.hid hb4⟩
            case measure => simp [intOf]; omega
end Go.Proofs.YtnfdcfagdidmhaaGreatDoor
