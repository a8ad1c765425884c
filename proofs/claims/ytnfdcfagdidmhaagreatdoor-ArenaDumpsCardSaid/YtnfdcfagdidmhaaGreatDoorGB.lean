/-
  Parts: P1, P2, P3, P4, P5, P6, P7, P8, S1, S2, P9.
-/
import Derived.Test.YtnfdcfagdidmhaaGreatDoorRows
import Derived.Test.YtnfdcfagdidmhaaGreatDoorGA
import Derived.Deep.QuietTactic
import Derived.BigQuiet
import Derived.Deep.RegionHeld3
import Derived.Deep.DeepFit
import Derived.Deep.LoopGhost
import Derived.Deep.MidRow
import Derived.Deep.RegionLaw
import Derived.Deep.AppendLies
import Derived.Ground.Names2Prog
import Derived.Shelf.Slices.Delete
import Derived.Shelf.Slices.Cells
import Derived.Shelf.Spec.SlicesInsertGrow

/- Contracts of the small functions of the program's arena. -/
namespace Go.Proofs.YtnfdcfagdidmhaaGreatDoor
open Go.RowKit

theorem ret_bool {a b : Bool} (h : a = b) : Ending.returned (.bool a) = .returned (.bool b) := by rw [h]
theorem ret_int {a b : Int} (h : a = b) : Ending.returned (.int .i64 a) = .returned (.int .i64 b) := by rw [h]

/-- 'has' at an arena. -/
theorem has_any (A : Ar) (b : Nat) (a : Option Addr) (c : Nat) (h : Int) (w : World) (h0 : w.cell? ⟨b, 0, none⟩ = some (.slice a A.ns.length c)) :
    Calls Tryz.prog 37 #[.pointer (some ⟨b, 0, none⟩), .int .i64 h] w fun e w' => e = .returned (.bool (decide (A.has h))) ∧ w = w' := by
  by_cases h1 : 1 ≤ h
  · go_enter Tryz.func37, Tryz.ntmps37
    go_wp2
    go_ret
    exact ⟨ret_bool (by simp [Ar.has, Ar.n, h1]), rfl⟩
  · go_enter Tryz.func37, Tryz.ntmps37
    go_wp2
    go_ret
    exact ⟨ret_bool (decide_eq_false (fun hc => by have := hc.1; omega)).symm, rfl⟩

theorem len_any (A : Ar) (b : Nat) (a : Option Addr) (c : Nat) (w : World) (h0 : w.cell? ⟨b, 0, none⟩ = some (.slice a A.ns.length c)) :
    Calls Tryz.prog 26 #[.pointer (some ⟨b, 0, none⟩)] w fun e w' => e = .returned (.int .i64 A.n) ∧ w = w' := by
  go_enter Tryz.func26, Tryz.ntmps26
  go_wp2
  go_ret
  exact ⟨rfl, rfl⟩

/-- 'at': the pointer to a node. -/
theorem at_any (b nb : Nat) (n c : Nat) (h : Int) (w : World) (h0 : w.cell? ⟨b, 0, none⟩ = some (.slice (some ⟨nb, 0, none⟩) n c)) (h1 : 1 ≤ h) (h2 : h ≤ n) (hm : (n : Int) ≤ 9223372036854775807) :
    Calls Tryz.prog 42 #[.pointer (some ⟨b, 0, none⟩), .int .i64 h] w fun e w' => e = .returned (.pointer (some ⟨nb, (h.toNat - 1) * 13, none⟩)) ∧ w = w' := by
  go_enter Tryz.func42, Tryz.ntmps42
  go_wp2
  go_ret
  exact ⟨by simp, rfl⟩

/-- The first handle of a list that is none: ErrHandle. -/
def checkL (A : Ar) (l : List Int) : Int := if ∀ h ∈ l, A.has h then 0 else 3

theorem check_any (A : Ar) (b : Nat) (a : Option Addr) (c : Nat) (v : Value) (l : List Int) (w : World) (h0 : w.cell? ⟨b, 0, none⟩ = some (.slice a A.ns.length c)) (hv : RInts w v l) :
    Calls Tryz.prog 46 #[.pointer (some ⟨b, 0, none⟩), v] w fun e w' => e = .returned (.int .i64 (checkL A l)) ∧ w = w' := by
  obtain ⟨av, cv, rfl, hc1, hc2, hc3⟩ := hv.form
  go_enter Tryz.func46, Tryz.ntmps46
  go_wp2
  go_loop [11] (fun i => ∃ k : Nat, k ≤ l.length ∧ i = .int .i64 k ∧ Hid (∀ j, j < k → A.has (l[j]?.getD 0))) (fun i => l.length - (intOf i).toNat)
  case atStart => exact ⟨0, Nat.zero_le _, rfl, fun j hj => by omega⟩
  case round =>
    obtain ⟨k, hk, rfl, hT⟩ := hrel
    by_cases hlt : k < l.length
    · obtain ⟨b1, o1, rfl, hcs⟩ := hc3 (by omega)
      have hck := hcs k hlt
      clear hc3 hcs
      generalize hx : l[k]?.getD 0 = x at hck
      have HX := Lib.hid hx
      clear hx
      by_cases hh : A.has x
      · have hd : decide (A.has x) = true := by simp [hh]
        have HH := Lib.hid hh
        clear hh
        go_wp2_with (go_at_call 37; refine (has_any A b a c _ _ h0).mono ?_; rintro e w' ⟨rfl, rfl⟩)
        go_round
        case rel => exact ⟨k + 1, hlt, by go_num, fun j hj => by
          by_cases hjk : j < k
          · exact hT.out j hjk
          · have : j = k := by omega
            rw [this, HX.out]; exact HH.out⟩
        case measure => simp [intOf]; omega
      · have hd : decide (A.has x) = false := by simp [hh]
        have HH := Lib.hid hh
        clear hh
        go_wp2_with (go_at_call 37; refine (has_any A b a c _ _ h0).mono ?_; rintro e w' ⟨rfl, rfl⟩)
        go_ret
        refine ⟨ret_int ?_, rfl⟩
        have : ¬ ∀ h ∈ l, A.has h := fun hall => HH.out (by rw [← HX.out]; simp only [List.getElem?_eq_getElem hlt, Option.getD_some]; exact hall _ (List.getElem_mem hlt))
        rw [checkL, if_neg this]
    · go_wp2
      go_ret
      refine ⟨ret_int ?_, rfl⟩
      have : ∀ h ∈ l, A.has h := by
        intro h hh
        obtain ⟨j, hj, rfl⟩ := List.getElem_of_mem hh
        have := hT.out j (by omega)
        simpa [hj] using this
      rw [checkL, if_pos this]

end Go.Proofs.YtnfdcfagdidmhaaGreatDoor

/- Contracts of the program's arena: document, template, spaces, once. -/
namespace Go.Proofs.YtnfdcfagdidmhaaGreatDoor
open Go.RowKit

theorem document_any (A : Ar) (ρ : Nat → Nat) (b : Nat) (d : Int) (w : World) (hA : AMem w ρ b A) :
    Calls Tryz.prog 67 #[.pointer (some ⟨b, 0, none⟩), .int .i64 d] w fun e w' => e = .returned (.int .i64 (A.ofDoc d)) ∧ Below w.heap.size w w' := by
  obtain ⟨a, c, mv, h0, h1, hf, hlt, hm, hN⟩ := hA.head
  by_cases hh : A.has d
  · have hck : (checkL A [d] != 0) = false := by simp [checkL, hh]
    have hp := hh.1; have hq := hh.2; unfold Ar.n at hq
    obtain ⟨nb, rfl, hr, hnb, hfn, hNx⟩ := hN (by omega)
    obtain ⟨kv, av, F, -, -⟩ := hNx d hh
    have c0 := Below.old (below_alloc w (.cells #[.int .i64 d] 3)) F.c0
    have h0' := Below.old (below_alloc w (.cells #[.int .i64 d] 3)) h0
    by_cases hk : (A.get d).kind = 1
    · have hk1 : ((A.get d).kind != 1) = false := by simp [hk]
      have hfin : A.ofDoc d = 0 := by simp [Ar.ofDoc, hh, hk]
      have Hfin := Lib.hid hfin
      clear hfin hk F hNx hN hh
      go_enter Tryz.func67, Tryz.ntmps67
      go_wp2_with fail
      refine (check_any A b _ c _ [d] _ h0' (RInts_new1 _ _ _)).mono ?_
      rintro e w' ⟨rfl, rfl⟩
      go_wp2_with (go_at_call 42; refine (at_any b nb _ c d _ h0' hp hq hm).mono ?_; rintro e w' ⟨rfl, rfl⟩)
      go_ret
      exact ⟨ret_int Hfin.out.symm, below_alloc _ _⟩
    · have hk1 : ((A.get d).kind != 1) = true := by simp [hk]
      have hfin : A.ofDoc d = 9 := by simp [Ar.ofDoc, hh, hk]
      have Hfin := Lib.hid hfin
      clear hfin hk F hNx hN hh
      go_enter Tryz.func67, Tryz.ntmps67
      go_wp2_with fail
      refine (check_any A b _ c _ [d] _ h0' (RInts_new1 _ _ _)).mono ?_
      rintro e w' ⟨rfl, rfl⟩
      go_wp2_with (go_at_call 42; refine (at_any b nb _ c d _ h0' hp hq hm).mono ?_; rintro e w' ⟨rfl, rfl⟩)
      go_ret
      exact ⟨ret_int Hfin.out.symm, below_alloc _ _⟩
  · have hck0 : checkL A [d] = 3 := by simp [checkL, hh]
    have hfin : A.ofDoc d = 3 := by simp [Ar.ofDoc, hh]
    have Hfin := Lib.hid hfin
    clear hfin hN hh
    have h0' := Below.old (below_alloc w (.cells #[.int .i64 d] 3)) h0
    go_enter Tryz.func67, Tryz.ntmps67
    go_wp2_with fail
    refine (check_any A b _ c _ [d] _ h0' (RInts_new1 _ _ _)).mono ?_
    rintro e w' ⟨rfl, rfl⟩
    go_wp2
    go_ret
    exact ⟨ret_int Hfin.out.symm, below_alloc _ _⟩

/-- 'template' at a stored node (or at a description that lies in memory). -/
theorem template_any (nb o : Nat) (n : Nd) (kv av : Value) (w : World) (F : NodeF w nb o n kv av) :
    Calls Tryz.prog 70 #[.pointer (some ⟨nb, o, none⟩)] w fun e w' => e = .returned (.bool (decide (isTemplate n))) ∧ w = w' := by
  have c0 := F.c0; have c4 := F.c4; have c5 := F.c5
  clear F
  by_cases h1 : n.kind = 4
  · have e1 : (n.kind == 4) = true := by simp [h1]
    by_cases h2 : n.space = 1
    · have e2 : (n.space == 1) = true := by simp [h2]
      have hfin : decide (isTemplate n) = (n.name.toList == [116, 101, 109, 112, 108, 97, 116, 101]) := by rw [Bool.eq_iff_iff]; simp [isTemplate, h1, h2, templateL]
      have Hfin := Lib.hid hfin
      clear hfin h1 h2
      go_enter Tryz.func70, Tryz.ntmps70
      go_wp2
      go_ret
      exact ⟨ret_bool Hfin.out.symm, rfl⟩
    · have e2 : (n.space == 1) = false := by simp [h2]
      have hfin : decide (isTemplate n) = false := by simp [isTemplate, h2]
      have Hfin := Lib.hid hfin
      clear hfin h1 h2
      go_enter Tryz.func70, Tryz.ntmps70
      go_wp2
      go_ret
      exact ⟨ret_bool Hfin.out.symm, rfl⟩
  · have e1 : (n.kind == 4) = false := by simp [h1]
    have hfin : decide (isTemplate n) = false := by simp [isTemplate, h1]
    have Hfin := Lib.hid hfin
    clear hfin h1
    go_enter Tryz.func70, Tryz.ntmps70
    go_wp2
    go_ret
    exact ⟨ret_bool Hfin.out.symm, rfl⟩

end Go.Proofs.YtnfdcfagdidmhaaGreatDoor

/- Contracts of the program's arena: spaces, the search for an attribute, once. -/
namespace Go.Proofs.YtnfdcfagdidmhaaGreatDoor
open Go.RowKit

theorem spaces_any (v : Value) (l : List Int) (w : World) (hv : RInts w v l) :
    Calls Tryz.prog 69 #[v] w fun e w' => e = .returned (.bool (decide (∀ s ∈ l, inSpaces s))) ∧ w = w' := by
  obtain ⟨av, cv, rfl, hc1, hc2, hc3⟩ := hv.form
  go_enter Tryz.func69, Tryz.ntmps69
  go_wp2
  go_loop [7] (fun i => ∃ k : Nat, k ≤ l.length ∧ i = .int .i64 k ∧ Hid (∀ j, j < k → inSpaces (l[j]?.getD 0))) (fun i => l.length - (intOf i).toNat)
  case atStart => exact ⟨0, Nat.zero_le _, rfl, fun j hj => by omega⟩
  case round =>
    obtain ⟨k, hk, rfl, hT⟩ := hrel
    by_cases hlt : k < l.length
    · obtain ⟨b1, o1, rfl, hcs⟩ := hc3 (by omega)
      have hck := hcs k hlt
      clear hc3 hcs
      generalize hx : l[k]?.getD 0 = x at hck
      have HX := Lib.hid hx
      clear hx
      have hno : ¬ inSpaces x → ¬ ∀ s ∈ l, inSpaces s := fun h hall => h (by rw [← HX.out]; simp only [List.getElem?_eq_getElem hlt, Option.getD_some]; exact hall _ (List.getElem_mem hlt))
      have HNO := Lib.hid hno
      clear hno
      by_cases h1 : x < 0
      · go_wp2
        go_ret
        exact ⟨ret_bool (decide_eq_false (HNO.out (fun h => by have := h.1; omega))).symm, rfl⟩
      · by_cases h2 : 7 < x
        · go_wp2
          go_ret
          exact ⟨ret_bool (decide_eq_false (HNO.out (fun h => by have := h.2; omega))).symm, rfl⟩
        · have h3 : 0 ≤ x := by omega
          have h4 : x ≤ 7 := by omega
          clear h1 h2
          go_wp2
          go_round
          case rel => exact ⟨k + 1, hlt, by go_num, fun j hj => by
            by_cases hjk : j < k
            · exact hT.out j hjk
            · have : j = k := by omega
              rw [this, HX.out]; exact ⟨h3, h4⟩⟩
          case measure => simp [intOf]; omega
    · go_wp2
      go_ret
      refine ⟨ret_bool (decide_eq_true ?_).symm, rfl⟩
      intro h hh
      obtain ⟨j, hj, rfl⟩ := List.getElem_of_mem hh
      have := hT.out j (by omega)
      simpa [hj] using this

def attrV (a : AttrD) : Value := .agg #[.int .i64 a.1, .string a.2.1, .string a.2.2]

/-- The closure of 'once': does the attribute y bear the name of x? -/
theorem once1_any (xb : Nat) (x y : AttrD) (w : World) (h0 : w.cell? ⟨xb, 0, none⟩ = some (.int .i64 x.1)) (h1 : w.cell? ⟨xb, 1, none⟩ = some (.string x.2.1)) :
    Calls Tryz.prog 101 #[attrV y, .pointer (some ⟨xb, 0, none⟩)] w fun e w' => e = .returned (.bool (sameName x y)) ∧ Below w.heap.size w w' := by
  obtain ⟨ys, yn, yv⟩ := y
  have hlt := World.block_lt_of_cell? w _ h0
  unfold attrV
  by_cases e1 : x.1 = ys
  · have he : (x.1 == ys) = true := by simp [e1]
    have hfin : sameName x (ys, yn, yv) = (x.2.1.toList == yn.toList) := by rw [str_beq]; simp [sameName, e1]
    have Hfin := Lib.hid hfin
    clear hfin e1
    go_enter Tryz.func101, Tryz.ntmps101
    go_wp2
    go_ret
    exact ⟨ret_bool Hfin.out.symm, below_alloc _ _⟩
  · have he : (x.1 == ys) = false := by simp [e1]
    have hfin : sameName x (ys, yn, yv) = false := by simp [sameName, e1]
    have Hfin := Lib.hid hfin
    clear hfin e1
    go_enter Tryz.func101, Tryz.ntmps101
    go_wp2
    go_ret
    exact ⟨ret_bool Hfin.out.symm, below_alloc _ _⟩

/-- The index of the first that fits, or -1. -/
def findI {α : Type} (p : α → Bool) (l : List α) : Int := match l.findIdx? p with | some i => (i : Int) | none => -1

theorem findI_hit {α : Type} {p : α → Bool} {l : List α} {k : Nat} {x : α} (hx : l[k]? = some x) (hp : p x = true) (hno : ∀ j y, j < k → l[j]? = some y → p y = false) : findI p l = k := by
  have hk : k < l.length := (List.getElem?_eq_some_iff.1 hx).1
  have : l.findIdx? p = some k := by
    rw [List.findIdx?_eq_some_iff_getElem]
    refine ⟨hk, ?_, fun j hj => ?_⟩
    · have := (List.getElem?_eq_some_iff.1 hx).2; rw [this]; exact hp
    · simp [hno j _ hj (List.getElem?_eq_getElem (by omega))]
  simp [findI, this]
theorem findI_none {α : Type} {p : α → Bool} {l : List α} (hno : ∀ (j : Nat) (y : α), l[j]? = some y → p y = false) : findI p l = -1 := by
  have : l.findIdx? p = none := by
    rw [List.findIdx?_eq_none_iff]
    intro x hx
    obtain ⟨j, hj, rfl⟩ := List.getElem_of_mem hx
    simp [hno j _ (List.getElem?_eq_getElem hj)]
  simp [findI, this]
theorem findI_any {α : Type} (p : α → Bool) (l : List α) : decide (0 ≤ findI p l) = l.any p := by
  unfold findI
  cases h : l.findIdx? p with
  | none => rw [List.findIdx?_eq_none_iff] at h; simp; intro x hx; simpa using h x hx
  | some i => rw [List.findIdx?_eq_some_iff_getElem] at h; obtain ⟨hi, hp, _⟩ := h; simp; exact ⟨_, List.getElem_mem hi, hp⟩

set_option maxHeartbeats 400000 in
theorem IndexFunc_any (v : Value) (l : List AttrD) (xb : Nat) (x : AttrD) (w : World) (hv : RAttrs w v l) (h0 : w.cell? ⟨xb, 0, none⟩ = some (.int .i64 x.1)) (h1 : w.cell? ⟨xb, 1, none⟩ = some (.string x.2.1)) :
    Calls Tryz.prog 116 #[v, .func (.func 101) #[] #[.pointer (some ⟨xb, 0, none⟩)]] w fun e w' => e = .returned (.int .i64 (findI (sameName x) l)) ∧ Below w.heap.size w w' := by
  obtain ⟨av, cv, rfl, hc1, hc2, hc3⟩ := hv.form
  go_enter Tryz.func116, Tryz.ntmps116
  go_wp2
  go_loopw [8] (fun i wr => ∃ k : Nat, k ≤ l.length ∧ i = .int .i64 k ∧ Hid (∀ j y, j < k → l[j]? = some y → sameName x y = false) ∧ Below w.heap.size w wr) (fun i _ => l.length - (intOf i).toNat)
  case atStart => exact ⟨0, Nat.zero_le _, rfl, fun j y hj => by omega, Below.refl _ _⟩
  case round =>
    obtain ⟨k, hk, rfl, hT, hB⟩ := hrel
    by_cases hlt : k < l.length
    · obtain ⟨b1, o1, rfl, hcs⟩ := hc3 (by omega)
      obtain ⟨y, hy⟩ : ∃ y, l[k]? = some y := ⟨_, List.getElem?_eq_getElem hlt⟩
      obtain ⟨d0, d1, d2⟩ := hcs k y hy
      have d0 := Below.old hB d0
      have d1 := Below.old hB d1
      have d2 := Below.old hB d2
      have g0 := Below.old hB h0
      have g1 := Below.old hB h1
      have HY := Lib.hid hy
      clear hc3 hcs hy
      cases hp : sameName x y with
      | true =>
        have HP := Lib.hid hp
        clear hp
        go_wp2_with fail
        refine (once1_any xb x y _ g0 g1).mono ?_
        rintro e w1 ⟨rfl, hB1⟩
        rw [HP.out]
        go_wp2
        go_ret
        exact ⟨ret_int (findI_hit HY.out HP.out hT.out).symm, Below.from0 hB hB1⟩
      | false =>
        have HP := Lib.hid hp
        clear hp
        go_wp2_with fail
        refine (once1_any xb x y _ g0 g1).mono ?_
        rintro e w1 ⟨rfl, hB1⟩
        rw [HP.out]
        go_wp2
        go_roundw
        case rel => exact ⟨k + 1, hlt, by go_num, fun j z hj hz => by
          by_cases hjk : j < k
          · exact hT.out j z hjk hz
          · have hjk : j = k := by omega
            rw [hjk, HY.out] at hz; cases hz; exact HP.out, Below.from0 hB hB1⟩
        case measure => simp [intOf]; omega
    · go_wp2
      go_ret
      exact ⟨ret_int (findI_none (fun j y hj => hT.out j y (by have := (List.getElem?_eq_some_iff.1 hj).1; omega) hj)).symm, hB⟩

theorem ContainsFunc_any (v : Value) (l : List AttrD) (xb : Nat) (x : AttrD) (w : World) (hv : RAttrs w v l) (h0 : w.cell? ⟨xb, 0, none⟩ = some (.int .i64 x.1)) (h1 : w.cell? ⟨xb, 1, none⟩ = some (.string x.2.1)) :
    Calls Tryz.prog 100 #[v, .func (.func 101) #[] #[.pointer (some ⟨xb, 0, none⟩)]] w fun e w' => e = .returned (.bool (l.any (sameName x))) ∧ Below w.heap.size w w' := by
  go_enter Tryz.func100, Tryz.ntmps100
  go_wp2_with fail
  refine (IndexFunc_any v l xb x w hv h0 h1).mono ?_
  rintro e w1 ⟨rfl, hB1⟩
  go_wp2
  go_ret
  exact ⟨ret_bool (findI_any _ _), hB1⟩

end Go.Proofs.YtnfdcfagdidmhaaGreatDoor

/- Contracts of the program's arena: once. -/
namespace Go.Proofs.YtnfdcfagdidmhaaGreatDoor
open Go.RowKit

theorem infoAttr : (Tryz.prog.info? 123).map (fun i => (i.zero, i.size, i.bytes)) = some (some (.agg #[.int .i64 0, .string ByteArray.empty, .string ByteArray.empty]), 3, 40) := by kernel_rfl
theorem infoInt : (Tryz.prog.info? 3).map (fun i => (i.zero, i.size, i.bytes)) = some (some (.int .i64 0), 1, 8) := by kernel_rfl

theorem onceL_length_le : ∀ (l acc : List AttrD), (l.foldl onceStep acc).length ≤ acc.length + l.length
  | [], acc => by simp
  | x :: l, acc => by
    have := onceL_length_le l (onceStep acc x)
    have h2 : (onceStep acc x).length ≤ acc.length + 1 := by unfold onceStep; split <;> simp
    simp only [List.foldl_cons, List.length_cons]; omega
theorem onceL_take {l : List AttrD} {k : Nat} {x : AttrD} (hx : l[k]? = some x) : onceL (l.take (k + 1)) = onceStep (onceL (l.take k)) x := by
  have hk := (List.getElem?_eq_some_iff.1 hx).1
  rw [List.take_succ_eq_append_getElem hk, onceL, List.foldl_append]
  have := (List.getElem?_eq_some_iff.1 hx).2
  rw [this]; rfl
theorem ROwn_attr_reads {w : World} {b : Nat} {v : Value} {l : List AttrD} (h : w.ownsRow b 123 3 v l.length (l.flatMap attrCells)) : RAttrs w v l := by
  have h' : ROwn w (fun k => if v.ownBlock = some k then 1 else 0) 1 123 3 v l.length (l.flatMap attrCells) := by
    refine ⟨⟨h.1, ?_⟩, fun g hg => by simp [hg]⟩
    rcases h.2 with h2 | ⟨g, cap, cur, h3, _, h4⟩
    · exact .inl h2
    · exact .inr ⟨g, cap, cur, h3, Nat.zero_le _, h4⟩
  exact h'.reads

/-- What 'once' hands back. -/
def OnceR (w : World) (l : List AttrD) (e : Ending) (w' : World) : Prop :=
  Below w.heap.size w w' ∧ (attrSpaces l → ∃ v, e = .returned (.tuple #[v, .bool true]) ∧ w'.ownsRow w.heap.size 123 3 v (onceL l).length ((onceL l).flatMap attrCells)) ∧
    (¬ attrSpaces l → e = .returned (.tuple #[.slice none 0 0, .bool false]))

theorem flatMap_snoc (l : List AttrD) (x : AttrD) : (l ++ [x]).flatMap attrCells = l.flatMap attrCells ++ attrCells x := by simp [List.flatMap_append]

set_option maxHeartbeats 1000000 in
theorem once_any (v : Value) (l : List AttrD) (w : World) (hv : RAttrs w v l) (hsmall : l.length ≤ 1000000) :
    Calls Tryz.prog 68 #[v] w (OnceR w l) := by
  obtain ⟨i0, hi, hz0, hz1, hz2⟩ := info_parts infoAttr
  obtain ⟨av, cv, rfl, hc1, hc2, hc3⟩ := hv.form
  go_enter Tryz.func68, Tryz.ntmps68
  go_wp2
  go_loopw [4, 9] (fun out i wr => ∃ k : Nat, k ≤ l.length ∧ i = .int .i64 k ∧ Hid (attrSpaces (l.take k)) ∧ Hid (wr.ownsRow w.heap.size 123 3 out (onceL (l.take k)).length ((onceL (l.take k)).flatMap attrCells)) ∧ Below w.heap.size w wr) (fun _ i _ => l.length - (intOf i).toNat)
  case atStart => exact ⟨0, Nat.zero_le _, rfl, by intro a ha; simp at ha, World.ownsRow_nil _ _ _ _, Below.refl _ _⟩
  case round =>
    obtain ⟨k, hk, rfl, hT, hO, hB⟩ := hrel
    by_cases hlt : k < l.length
    · obtain ⟨b1, o1, rfl, hcs⟩ := hc3 (by omega)
      obtain ⟨y, hy⟩ : ∃ y, l[k]? = some y := ⟨_, List.getElem?_eq_getElem hlt⟩
      obtain ⟨d0, d1, d2⟩ := hcs k y hy
      have d0 := Below.old hB d0
      have d1 := Below.old hB d1
      have d2 := Below.old hB d2
      have HY := Lib.hid hy
      clear hc3 hcs hy
      have HI := Lib.hid hi
      clear hi
      go_wp2_with fail
      refine (spaces_any _ [y.1] _ (RInts_new1' _ _ (by simp))).mono ?_
      rintro e w1 ⟨rfl, rfl⟩
      by_cases hs : inSpaces y.1
      · have hs1 : decide (∀ s ∈ [y.1], inSpaces s) = true := by simp [hs]
        have HS := Lib.hid hs
        clear hs
        rw [hs1]
        go_wp2_with fail
        have hsz := hB.size
        have hO1 := (hO.out.alloc (.cells #[.int .i64 y.1, .string y.2.1, .string y.2.2] 123)).alloc (.cells #[.int .i64 y.1] 43)
        have x0 : ((wr.alloc (.cells #[.int .i64 y.1, .string y.2.1, .string y.2.2] 123)).alloc (.cells #[.int .i64 y.1] 43)).cell? ⟨wr.heap.size, 0, none⟩ = some (.int .i64 y.1) := cell_old' _ (cell_new' rfl rfl)
        have x1 : ((wr.alloc (.cells #[.int .i64 y.1, .string y.2.1, .string y.2.2] 123)).alloc (.cells #[.int .i64 y.1] 43)).cell? ⟨wr.heap.size, 1, none⟩ = some (.string y.2.1) := cell_old' _ (cell_new' rfl rfl)
        have x2 : ((wr.alloc (.cells #[.int .i64 y.1, .string y.2.1, .string y.2.2] 123)).alloc (.cells #[.int .i64 y.1] 43)).cell? ⟨wr.heap.size, 2, none⟩ = some (.string y.2.2) := cell_old' _ (cell_new' rfl rfl)
        refine (ContainsFunc_any _ _ wr.heap.size y _ (ROwn_attr_reads hO1) x0 x1).mono ?_
        rintro e w2 ⟨rfl, hB2⟩
        have hB2' : Below w.heap.size w w2 := ((hB.alloc hsz _).alloc (by simp; omega) _).trans (hB2.mono (by simp; omega))
        have hO2 := owns_below hO1 hB2
        have x0 := Below.old hB2 x0
        have x1 := Below.old hB2 x1
        have x2 := Below.old hB2 x2
        have hlen := onceL_length_le (l.take k) []
        simp only [List.length_nil, Nat.zero_add, List.length_take] at hlen
        have hstep : attrSpaces (l.take (k + 1)) := by
          rw [List.take_succ_eq_append_getElem hlt]
          intro a ha
          rcases List.mem_append.1 ha with ha | ha
          · exact hT.out a ha
          · have := (List.getElem?_eq_some_iff.1 HY.out).2
            simp at ha; rw [ha, this]; exact HS.out
        have HST := Lib.hid hstep
        clear hstep hO1
        have hcl : (onceL (l.take k)).length ≤ 1000000 := by change (List.foldl onceStep [] _).length ≤ _; omega
        clear hlen
        cases ha : (onceL (l.take k)).any (sameName y) with
        | true =>
          have hone : onceL (l.take (k + 1)) = onceL (l.take k) := by rw [onceL_take HY.out, onceStep, if_pos ha]
          have HO2 := Lib.hid hO2
          have HONE := Lib.hid hone
          clear ha hone hO2
          go_wp2
          go_roundw
          case rel => exact ⟨k + 1, hlt, by go_num, HST.out, by rw [HONE.out]; exact HO2.out, hB2'⟩
          case measure => simp [intOf]; omega
        | false =>
          have hone : onceL (l.take (k + 1)) = onceL (l.take k) ++ [y] := by rw [onceL_take HY.out, onceStep, if_neg (by rw [ha]; simp)]
          have HONE := Lib.hid hone
          clear ha hone
          have hlt2 : wr.heap.size < w2.heap.size := by have := hB2.size; simp at this; omega
          have hwi : w.heap.size ≤ w2.heap.size := hB2'.size
          generalize hL : onceL (l.take k) = L at *
          have HL := Lib.hid hL
          clear hL
          go_wp2_with (at_builtin; refine wpList_append_own _ rfl _ _ 44 rfl w.heap.size 123 i0 _ 3 40 Tryz.underlying44 HI.out hz0 hz1 hz2 rfl (by decide) _ _ _ rfl (hO2.alloc _) ⟨w2.heap.size, 0, none⟩ 1 1 (attrCells y) rfl rfl ?c1 ?c2 ?c3 ?c4 ?c5 ?_)
          case c1 => intro j u hj; rw [Addr.add_mid, Nat.zero_add]; exact cell_new' rfl (by simpa [attrCells] using hj)
          case c2 => intro u hu; simp [attrCells] at hu; rcases hu with rfl | rfl | rfl <;> rfl
          case c3 => unfold maxLen; omega
          case c4 => omega
          case c5 => simp; omega
          intro v' w3 hown hgrow _
          have hB3 : Below w.heap.size w w3 := (hB2'.alloc hwi _).grown hgrow (by simp; omega) (fun k hk => (owns_block hO2 k hk).1)
          have hown' : w3.ownsRow w.heap.size 123 3 v' (L ++ [y]).length ((L ++ [y]).flatMap attrCells) := by
            rw [flatMap_snoc, List.length_append]; exact hown
          have HO3 := Lib.hid hown'
          clear hown hown' hgrow hO2
          go_wp2
          go_roundw
          case rel => exact ⟨k + 1, hlt, by go_num, HST.out, by rw [HONE.out]; exact HO3.out, hB3⟩
          case measure => simp [intOf]; omega
      · have hs1 : decide (∀ s ∈ [y.1], inSpaces s) = false := by simp [hs]
        have HS := Lib.hid hs
        clear hs
        rw [hs1]
        go_wp2
        go_ret2
        refine ⟨(hB.alloc hB.size _).alloc (by have := hB.size; simp; omega) _, fun h => ?_, fun _ => rfl⟩
        exact absurd (h y (List.mem_of_getElem? HY.out)) HS.out
    · go_wp2
      go_ret2
      have hkl : l.take k = l := List.take_of_length_le (by omega)
      have h1 := hT.out; have h2 := hO.out
      rw [hkl] at h1 h2
      exact ⟨hB, fun _ => ⟨_, rfl, h2⟩, fun h => absurd h1 h⟩

end Go.Proofs.YtnfdcfagdidmhaaGreatDoor

/- Contracts of the program's arena: add. -/
namespace Go.Proofs.YtnfdcfagdidmhaaGreatDoor
open Go.RowKit

theorem infoNode : (Tryz.prog.info? 83).map (fun i => (i.zero, i.size, i.bytes)) = some (some (.agg #[.int .i64 0, .int .i64 0, .slice none 0 0, .int .i64 0, .int .i64 0, .string ByteArray.empty, .slice none 0 0, .string ByteArray.empty, .string ByteArray.empty, .string ByteArray.empty, .bool false, .int .i64 0, .int .i64 0]), 13, 168) := by kernel_rfl

theorem cellsOneCell (n : Nd) (kv av : Value) (hk : kv.oneCell' = true) (ha : av.oneCell' = true) : ∀ u ∈ n.cells kv av, u.oneCell' = true := by
  intro u hu
  simp only [Nd.cells, List.mem_cons, List.not_mem_nil, or_false] at hu
  rcases hu with rfl | rfl | rfl | rfl | rfl | rfl | rfl | rfl | rfl | rfl | rfl | rfl | rfl <;> first | rfl | assumption

/-- What a call leaves that adds a node. -/
def AddR (A' : Ar) (ρ : Nat → Nat) (b : Nat) (w : World) (v : Value) (e : Ending) (w' : World) : Prop := e = .returned v ∧ ∃ ρ', AMem w' ρ' b A' ∧ Turn ρ ρ' w w'

set_option maxRecDepth 100000 in
set_option maxHeartbeats 2000000 in
theorem add_any (A : Ar) (ρ : Nat → Nat) (b : Nat) (n : Nd) (aa : Option Addr) (ac : Nat) (w : World) (hA : AMem w ρ b A) (hsmall : A.ns.length ≤ 1000000) (hkids : n.kids = []) (hav : ROwn w ρ (2 * A.ns.length + 5) 123 3 (.slice aa n.attrs.length ac) n.attrs.length (n.attrs.flatMap attrCells)) :
    Calls Tryz.prog 66 #[.pointer (some ⟨b, 0, none⟩), .agg (n.cells (.slice none 0 0) (.slice aa n.attrs.length ac)).toArray] w (AddR (A.add n) ρ b w (.int .i64 (A.n + 1))) := by
  obtain ⟨i0, hi, hz0, hz1, hz2⟩ := info_parts infoNode
  obtain ⟨h1, h2, h3, nv, mv, h4, ⟨rows, hN1, hN2, hN3⟩, h6⟩ := hA
  obtain ⟨hown, hrole⟩ := hN1
  have hlt := lt_of_block h4
  have hne : some b ≠ nv.ownBlock := fun h => by have := hrole b h.symm; omega
  have c0 : w.cell? ⟨b, 0, none⟩ = some nv := by rw [cell_of_row w b _ _ _ _ h4]; rfl
  have f0 : w.frozen? ⟨b, 0, none⟩ = false := frozen_of_row w b _ _ _ h4
  have hone := cellsOneCell n (.slice none 0 0) (.slice aa n.attrs.length ac) rfl rfl
  have hfrom : ∀ (W : World), W.heap[w.heap.size + 1]? = some (.cells (n.cells (.slice none 0 0) (.slice aa n.attrs.length ac)).toArray 83 (0, 0)) → ∀ (j : Nat) (u : Value), (n.cells (.slice none 0 0) (.slice aa n.attrs.length ac))[j]? = some u → W.cell? ((⟨w.heap.size + 1, 0, none⟩ : Addr).add j) = some u := by
    intro W hW j u hu
    rw [Addr.add_mid, Nat.zero_add, cell_of_row W _ _ _ _ _ hW]
    simpa using hu
  have HFROM := Lib.hid hfrom
  have HONE := Lib.hid hone
  have HOWN := Lib.hid hown
  have HI := Lib.hid hi
  have hend : ∀ (w1 w' : World) (gg cap : Nat), (w.alloc (.cells (n.cells (.slice none 0 0) (.slice aa n.attrs.length ac)).toArray 56)).heap.size = w.heap.size + 1 → w1.ownsRow 0 83 13 (.slice (some ⟨gg, 0, none⟩) (A.ns.length + 1) cap) (A.ns.length + 1) (rows.flatten ++ n.cells (.slice none 0 0) (.slice aa n.attrs.length ac)) →
      (((w.alloc (.cells (n.cells (.slice none 0 0) (.slice aa n.attrs.length ac)).toArray 56)).alloc (.cells (n.cells (.slice none 0 0) (.slice aa n.attrs.length ac)).toArray 83)).drew).grownBy w1 nv.ownBlock → (nv.ownBlock = some gg ∨ gg = w.heap.size + 2) → gg < w1.heap.size → w'.heap = (w1.setCell ⟨b, 0, none⟩ (.slice (some ⟨gg, 0, none⟩) (A.ns.length + 1) cap)).heap → w'.os = w1.os → w'.tape = w1.tape → w'.output = w1.output → ∃ ρ', AMem w' ρ' b (A.add n) ∧ Turn ρ ρ' w w' := by
    intro w1 w' gg cap _ ho hg hat hl q1 q2 q3 q4
    refine AMem.added h1 h2 h3 h4 hrole hN2 hN3 h6 hkids hav ?_ ho (hat.imp id (fun h => by omega)) hl q1 q2 q3 q4
    exact ((((Upd.refl _ w).alloc _).alloc _).drew).trans (Upd.grown hg (fun k hk => hk))
  have HEND := Lib.hid hend
  clear hend hfrom hone hN2 hN3 hrole h6 h1 h2 h3 hown hi hkids hav
  unfold Nd.cells
  go_enter Tryz.func66, Tryz.ntmps66
  go_wp2_with fail
  go_region_law (first
    | (refine step_append_lies _ (by rfl) _ _ 48 (by rfl) 0 83 i0 _ 13 168 Tryz.underlying48 HI.out hz0 hz1 hz2 rfl (by omega) nv A.ns.length rows.flatten (by rfl) ?_ ⟨w.heap.size + 1, 0, none⟩ 1 1 (n.cells (.slice none 0 0) (.slice aa n.attrs.length ac)) (by rfl) (by rfl) (HFROM.out _ (heap_alloc2_new w _ _)) HONE.out (by omega) (by unfold maxLen; omega) (by omega) (by omega) (w.heap.size + 2) (by simp) ?_
       · exact ((HOWN.out.alloc _).alloc _).drew
       intro gg cap w1 hown1 hgrow hat hlt1
       have gb : w1.heap[b]? = some (.cells #[nv, mv] 51 (0, 0)) := (hgrow.block b (by simp; omega) hne).trans ((Below.heap_alloc _ _ b (by simp; omega)).trans ((Below.heap_alloc _ _ b hlt).trans h4))
       have g0 : w1.cell? ⟨b, 0, none⟩ = some nv := by rw [cell_of_row w1 b _ _ _ _ gb]; rfl
       have gf : w1.frozen? ⟨b, 0, none⟩ = false := frozen_of_row w1 b _ _ _ gb))
  all_goals
    have hs0 := hgrow.size
    simp at hs0
    go_wp2
    go_ret
    refine ⟨ret_int (by simp [Ar.n]), HEND.out w1 _ gg cap (by simp) hown1 hgrow hat hlt1 rfl rfl rfl rfl⟩

end Go.Proofs.YtnfdcfagdidmhaaGreatDoor

/- Contracts of the program's arena: the calls that create nodes other than elements; the calls that set a field. -/
namespace Go.Proofs.YtnfdcfagdidmhaaGreatDoor
open Go.RowKit

theorem newNd_bound {A : Ar} (n : Nd) : (A.add n).has (A.n + 1) := by simp [Ar.has, Ar.n, Ar.add]; omega
theorem add_get {A : Ar} (n : Nd) : (A.add n).get (A.n + 1) = n := by simp [Ar.get, Ar.add, Ar.n]

theorem add_mod {A : Ar} (n : Nd) (f : Nd → Nd) : (A.add n).mod (A.n + 1) f = A.add (f n) := by
  have h : (A.n + 1).toNat - 1 = A.ns.length := by unfold Ar.n; omega
  simp only [Ar.mod, Ar.add, h]
  congr 1
  apply List.ext_getElem?
  intro i
  rw [List.getElem?_modify, List.getElem?_append, List.getElem?_append]
  by_cases hi : i < A.ns.length
  · have hne : A.ns.length ≠ i := by omega
    rw [if_pos hi, if_pos hi]; simp [hne]
  · rw [if_neg hi, if_neg hi]
    by_cases hi2 : i = A.ns.length
    · subst hi2; simp
    · have : i - A.ns.length ≠ 0 := by omega
      rw [List.getElem?_singleton, List.getElem?_singleton]; simp [this]
theorem hav_nil (w : World) (ρ : Nat → Nat) (r : Nat) : ROwn w ρ r 123 3 (.slice none (List.length (α := AttrD) []) 0) (List.length (α := AttrD) []) (([] : List AttrD).flatMap attrCells) := ⟨World.ownsRow_nil _ _ _ _, fun g hg => by simp [Value.ownBlock] at hg⟩

set_option maxRecDepth 100000 in
set_option maxHeartbeats 400000 in
theorem Document_any (A : Ar) (ρ : Nat → Nat) (b : Nat) (q : Bool) (w : World) (hA : AMem w ρ b A) (hsmall : A.ns.length ≤ 1000000) :
    Calls Tryz.prog 33 #[.pointer (some ⟨b, 0, none⟩), .bool q] w (AddR (A.document q) ρ b w (.int .i64 (A.n + 1))) := by
  have hc := add_any A ρ b { zeroNd with kind := 1, quirks := q } none 0 w hA hsmall rfl (hav_nil _ _ _)
  have HC := Lib.hid hc
  clear hc
  go_enter Tryz.func33, Tryz.ntmps33
  go_wp2_with fail
  refine HC.out.mono ?_
  rintro e w1 ⟨rfl, ρ', hA1, hT⟩
  obtain ⟨a1, c1, mv1, h01, -, hf1, hlt1, hm1, hN1⟩ := hA1.head
  obtain ⟨nb, rfl, hr1, hnb, hfn, hNx⟩ := hN1 (by simp [Ar.add])
  obtain ⟨kv, av, F, -, -⟩ := hNx _ (newNd_bound _)
  have hlen : ((A.add { zeroNd with kind := 1, quirks := q }).ns.length : Int) = A.n + 1 := by simp [Ar.add, Ar.n]
  have hp : 1 ≤ A.n + 1 := by unfold Ar.n; omega
  have HL := Lib.hid hlen
  clear hlen
  go_wp2_with fail
  refine (at_any b nb _ c1 (A.n + 1) _ h01 hp (by rw [HL.out]; exact Int.le_refl _) hm1).mono ?_
  rintro e w2 ⟨rfl, rfl⟩
  have c3 := F.c3
  have f3 := hfn (((A.n + 1).toNat - 1) * 13 + 3)
  generalize ho : ((A.n + 1).toNat - 1) * 13 = o at *
  have HO := Lib.hid ho
  clear ho
  go_wp2
  go_ret
  refine ⟨rfl, ρ', ?_, hT.trans ⟨(Upd.refl _ _).setCell (.inr (by dsimp only; omega)) _, fun _ _ => rfl⟩⟩
  have := hA1.store (x := A.n + 1) (f := fun n => { n with doc := A.n + 1 }) (j := 3) (v := .int .i64 (A.n + 1)) (newNd_bound _) h01 (Upd.refl _ _) (fun _ _ => rfl) hA1.1 (by omega)
    (fun kv av hk ha _ _ => ⟨kv, av, rfl, hk, ha⟩)
  rw [HO.out] at this
  rw [add_mod] at this
  exact this

theorem ret2_int {a b c d : Int} (h : a = c) (h' : b = d) : Ending.returned (.tuple #[.int .i64 a, .int .i64 b]) = .returned (.tuple #[.int .i64 c, .int .i64 d]) := by rw [h, h']

/-- The result of a call that hands back a handle and an error. -/
def pairV (r : Int × Int) : Value := .tuple #[.int .i64 r.1, .int .i64 r.2]

set_option maxRecDepth 100000 in
set_option maxHeartbeats 400000 in
theorem create_any (A : Ar) (ρ : Nat → Nat) (b : Nat) (d : Int) (n : Nd) (w : World) (hA : AMem w ρ b A) (hsmall : A.ns.length ≤ 1000000) (hk : n.kids = []) (ha : n.attrs = []) :
    Calls Tryz.prog 94 #[.pointer (some ⟨b, 0, none⟩), .int .i64 d, .agg (n.cells (.slice none 0 0) (.slice none 0 0)).toArray] w (AddR (A.make d n).2 ρ b w (pairV (A.make d n).1)) := by
  obtain ⟨nkind, nparent, nkids, ndoc, nspace, nname, nattrs, ndata, npub, nsys, nquirks, ncontents, nhost⟩ := n
  dsimp only at hk ha
  subst hk
  subst ha
  generalize hnn : (⟨nkind, nparent, [], ndoc, nspace, nname, [], ndata, npub, nsys, nquirks, ncontents, nhost⟩ : Nd) = n
  have hfin : A.make d n = if A.ofDoc d ≠ 0 then ((0, A.ofDoc d), A) else ((A.n + 1, 0), A.add { n with doc := d }) := rfl
  have HF := Lib.hid hfin
  clear hfin
  have hd := document_any A ρ b d (w.alloc (.cells (n.cells (.slice none 0 0) (.slice none 0 0)).toArray 56)) (hA.below (below_alloc _ _))
  have HD := Lib.hid hd
  clear hd
  have hbox : ∀ j v, (n.cells (.slice none 0 0) (.slice none 0 0))[j]? = some v → (w.alloc (.cells (n.cells (.slice none 0 0) (.slice none 0 0)).toArray 56)).cell? ⟨w.heap.size, j, none⟩ = some v := fun j v hv => cell_new' rfl (by simpa using hv)
  have b0 := hbox 0 _ rfl; have b1 := hbox 1 _ rfl; have b2 := hbox 2 _ rfl; have b3 := hbox 3 _ rfl; have b4 := hbox 4 _ rfl; have b5 := hbox 5 _ rfl; have b6 := hbox 6 _ rfl
  have b7 := hbox 7 _ rfl; have b8 := hbox 8 _ rfl; have b9 := hbox 9 _ rfl; have b10 := hbox 10 _ rfl; have b11 := hbox 11 _ rfl; have b12 := hbox 12 _ rfl
  have bf : ∀ j, (w.alloc (.cells (n.cells (.slice none 0 0) (.slice none 0 0)).toArray 56)).frozen? ⟨w.heap.size, j, none⟩ = false := fun j => frozen_of_row _ _ j _ _ (heap_alloc_new w _)
  have bf3 := bf 3
  clear hbox bf
  have hA0 := hA.below (below_alloc w (.cells (n.cells (.slice none 0 0) (.slice none 0 0)).toArray 56))
  have hB0 := below_alloc w (.cells (n.cells (.slice none 0 0) (.slice none 0 0)).toArray 56)
  have hsz0 : (w.alloc (.cells (n.cells (.slice none 0 0) (.slice none 0 0)).toArray 56)).heap.size = w.heap.size + 1 := by simp
  unfold Nd.cells at *
  go_enter Tryz.func94, Tryz.ntmps94
  go_wp2_with fail
  generalize hw0 : w.alloc _ = w0 at *
  refine HD.out.mono ?_
  rintro e w1 ⟨rfl, hB⟩
  have hHW := Lib.hid hw0
  have hHS := Lib.hid hsz0
  clear hw0 hsz0
  by_cases he : A.ofDoc d = 0
  · have he1 : (A.ofDoc d != 0) = false := by simp [he]
    have HE := Lib.hid he
    rw [he]
    clear he
    have c0 := Below.old hB b0; have c1 := Below.old hB b1; have c2 := Below.old hB b2; have c3 := Below.old hB b3; have c4 := Below.old hB b4; have c5 := Below.old hB b5; have c6 := Below.old hB b6
    have c7 := Below.old hB b7; have c8 := Below.old hB b8; have c9 := Below.old hB b9; have c10 := Below.old hB b10; have c11 := Below.old hB b11; have c12 := Below.old hB b12
    have cf3 : w1.frozen? ⟨w.heap.size, 3, none⟩ = false := (Below.frozen hB (by have := hHS.out; dsimp only; omega)).trans bf3
    clear b0 b1 b2 b3 b4 b5 b6 b7 b8 b9 b10 b11 b12 bf3 he1
    go_wp2_with fail
    have hb1 : w.heap.size ≠ b := by have := hA.head; obtain ⟨_, _, _, _, _, _, hl, _⟩ := this; omega
    have hU1 : Upd (fun k => k = w.heap.size) w1 (w1.setCell ⟨w.heap.size, 3, none⟩ (.int .i64 d)) := (Upd.refl (fun k => k = w.heap.size) w1).setCell (p := ⟨w.heap.size, 3, none⟩) (.inr rfl) _
    have hA2 : AMem (w1.setCell ⟨w.heap.size, 3, none⟩ (.int .i64 d)) ρ b A := (hA0.below hB).upd hU1 (fun k hk e => by have := hA.1 k hk; omega)
    have hT2 : Turn ρ ρ w (w1.setCell ⟨w.heap.size, 3, none⟩ (.int .i64 d)) := by
      refine Turn.below (Below.trans (hB0.trans (hB.mono (by have := hHS.out; omega))) ?_)
      exact (Below.refl _ _).setCell (by dsimp only; omega) _
    subst hnn
    have hadd := add_any A ρ b ⟨nkind, nparent, [], d, nspace, nname, [], ndata, npub, nsys, nquirks, ncontents, nhost⟩ none 0 _ hA2 hsmall rfl (hav_nil _ _ _)
    refine hadd.mono ?_
    rintro e w3 ⟨rfl, ρ', hA3, hT3⟩
    go_wp2
    go_ret2
    have hz : A.make d ⟨nkind, nparent, [], ndoc, nspace, nname, [], ndata, npub, nsys, nquirks, ncontents, nhost⟩ = ((A.n + 1, 0), A.add ⟨nkind, nparent, [], d, nspace, nname, [], ndata, npub, nsys, nquirks, ncontents, nhost⟩) := by
      rw [HF.out, if_neg (fun h => h HE.out)]
    rw [hz]
    exact ⟨rfl, ρ', hA3, hT2.trans hT3⟩
  · have he1 : (A.ofDoc d != 0) = true := by simp [he]
    go_wp2
    go_ret2
    have hz : A.make d n = ((0, A.ofDoc d), A) := by rw [HF.out, if_pos he]
    rw [hz]
    exact ⟨rfl, ρ, hA0.below hB, Turn.below (hB0.trans (hB.mono (by have := hHS.out; omega)))⟩

def docTypeNd (name pub sys : ByteArray) : Nd := { zeroNd with kind := 3, name := name, pub := pub, sys := sys }
def textNd (s : ByteArray) : Nd := { zeroNd with kind := 5, data := s }
def commentNd (s : ByteArray) : Nd := { zeroNd with kind := 6, data := s }
def fragNd : Nd := { zeroNd with kind := 2 }

theorem Doctype_any (A : Ar) (ρ : Nat → Nat) (b : Nat) (d : Int) (name pub sys : ByteArray) (w : World) (hA : AMem w ρ b A) (hsmall : A.ns.length ≤ 1000000) :
    Calls Tryz.prog 51 #[.pointer (some ⟨b, 0, none⟩), .int .i64 d, .string name, .string pub, .string sys] w (AddR (A.make d (docTypeNd name pub sys)).2 ρ b w (pairV (A.make d (docTypeNd name pub sys)).1)) := by
  have HC := Lib.hid (create_any A ρ b d (docTypeNd name pub sys) w hA hsmall rfl rfl)
  go_enter Tryz.func51, Tryz.ntmps51
  go_wp2_with fail
  refine HC.out.mono ?_
  rintro e w1 ⟨rfl, hR⟩
  unfold pairV
  go_wp2
  go_ret2
  exact ⟨rfl, hR⟩
theorem Text_any (A : Ar) (ρ : Nat → Nat) (b : Nat) (d : Int) (s : ByteArray) (w : World) (hA : AMem w ρ b A) (hsmall : A.ns.length ≤ 1000000) :
    Calls Tryz.prog 52 #[.pointer (some ⟨b, 0, none⟩), .int .i64 d, .string s] w (AddR (A.make d (textNd s)).2 ρ b w (pairV (A.make d (textNd s)).1)) := by
  have HC := Lib.hid (create_any A ρ b d (textNd s) w hA hsmall rfl rfl)
  go_enter Tryz.func52, Tryz.ntmps52
  go_wp2_with fail
  refine HC.out.mono ?_
  rintro e w1 ⟨rfl, hR⟩
  unfold pairV
  go_wp2
  go_ret2
  exact ⟨rfl, hR⟩
theorem Comment_any (A : Ar) (ρ : Nat → Nat) (b : Nat) (d : Int) (s : ByteArray) (w : World) (hA : AMem w ρ b A) (hsmall : A.ns.length ≤ 1000000) :
    Calls Tryz.prog 53 #[.pointer (some ⟨b, 0, none⟩), .int .i64 d, .string s] w (AddR (A.make d (commentNd s)).2 ρ b w (pairV (A.make d (commentNd s)).1)) := by
  have HC := Lib.hid (create_any A ρ b d (commentNd s) w hA hsmall rfl rfl)
  go_enter Tryz.func53, Tryz.ntmps53
  go_wp2_with fail
  refine HC.out.mono ?_
  rintro e w1 ⟨rfl, hR⟩
  unfold pairV
  go_wp2
  go_ret2
  exact ⟨rfl, hR⟩
theorem Fragment_any (A : Ar) (ρ : Nat → Nat) (b : Nat) (d : Int) (w : World) (hA : AMem w ρ b A) (hsmall : A.ns.length ≤ 1000000) :
    Calls Tryz.prog 54 #[.pointer (some ⟨b, 0, none⟩), .int .i64 d] w (AddR (A.make d fragNd).2 ρ b w (pairV (A.make d fragNd).1)) := by
  have HC := Lib.hid (create_any A ρ b d fragNd w hA hsmall rfl rfl)
  go_enter Tryz.func54, Tryz.ntmps54
  go_wp2_with fail
  refine HC.out.mono ?_
  rintro e w1 ⟨rfl, hR⟩
  unfold pairV
  go_wp2
  go_ret2
  exact ⟨rfl, hR⟩

end Go.Proofs.YtnfdcfagdidmhaaGreatDoor

/- Contracts of the program's arena: the calls that set a field. -/
namespace Go.Proofs.YtnfdcfagdidmhaaGreatDoor
open Go.RowKit

theorem ofDoc_has {A : Ar} {d : Int} (h : A.ofDoc d = 0) : A.has d := by
  unfold Ar.ofDoc at h
  by_cases hh : A.has d
  · exact hh
  · rw [if_pos hh] at h; exact absurd h (by decide)
theorem ofDoc_kind {A : Ar} {d : Int} (h : A.ofDoc d = 0) : (A.get d).kind = 1 := by
  have hh := ofDoc_has h
  unfold Ar.ofDoc at h
  rw [if_neg (fun hn => hn hh)] at h
  by_cases hk : (A.get d).kind = 1
  · exact hk
  · rw [if_pos hk] at h; exact absurd h (by decide)

/-- A plain store into a field of a node that is no list. -/
theorem AMem.field {w : World} {ρ : Nat → Nat} {b : Nat} {A : Ar} {x : Int} {f : Nd → Nd} {j nb c o : Nat} {v : Value} (hA : AMem w ρ b A) (hx : A.has x)
    (hc0 : w.cell? ⟨b, 0, none⟩ = some (.slice (some ⟨nb, 0, none⟩) A.ns.length c)) (ho : o = (x.toNat - 1) * 13) (hj : j < 13)
    (hf : ∀ kv av, (f (A.get x)).cells kv av = ((A.get x).cells kv av).set j v) (hk : (f (A.get x)).kids = (A.get x).kids) (ha : (f (A.get x)).attrs = (A.get x).attrs) :
    AMem (w.setCell ⟨nb, o + j, none⟩ v) ρ b (A.mod x f) := by
  subst ho
  exact hA.store hx hc0 (Upd.refl _ _) (fun _ _ => rfl) hA.1 hj (fun kv av h1 h2 _ _ => ⟨kv, av, (hf kv av).symm, by rw [hk]; exact h1, by rw [ha]; exact h2⟩)

theorem Turn.set {w : World} {ρ : Nat → Nat} {a : Addr} (h : ρ a.block ≠ 0) (v : Value) : Turn ρ ρ w (w.setCell a v) := ⟨(Upd.refl (fun k => ρ k ≠ 0) w).setCell (.inr h) v, fun _ _ => rfl⟩

theorem SetQuirks_any (A : Ar) (ρ : Nat → Nat) (b : Nat) (h : Int) (q : Bool) (w : World) (hA : AMem w ρ b A) :
    Calls Tryz.prog 58 #[.pointer (some ⟨b, 0, none⟩), .int .i64 h, .bool q] w (AddR (A.setQuirks h q).2 ρ b w (.int .i64 (A.setQuirks h q).1)) := by
  have HD := Lib.hid (document_any A ρ b h w hA)
  by_cases he : A.ofDoc h = 0
  · have hh := ofDoc_has he
    have hfin : A.setQuirks h q = (0, A.mod h (fun x => { x with quirks := q })) := by
      simp [Ar.setQuirks, hh, ofDoc_kind he]
    rw [hfin]
    go_enter Tryz.func58, Tryz.ntmps58
    go_wp2_with fail
    refine HD.out.mono ?_
    rintro e w1 ⟨rfl, hB⟩
    rw [he]
    have hA1 := hA.below hB
    obtain ⟨a1, c1, mv1, h01, -, hf1, hlt1, hm1, hN1⟩ := hA1.head
    have hp := hh.1; have hq := hh.2; unfold Ar.n at hq
    obtain ⟨nb, rfl, hr1, hnb, hfn, hNx⟩ := hN1 (by omega)
    obtain ⟨kv, av, F, -, -⟩ := hNx h hh
    have c10 := F.c10
    have f10 := hfn ((h.toNat - 1) * 13 + 10)
    go_wp2_with fail
    refine (at_any b nb _ c1 h _ h01 hp hq hm1).mono ?_
    rintro e w2 ⟨rfl, rfl⟩
    generalize ho : (h.toNat - 1) * 13 = o at *
    have HO := Lib.hid ho
    clear ho
    go_wp2
    go_ret
    exact ⟨rfl, ρ, hA1.field hh h01 HO.out.symm (j := 10) (by omega) (fun _ _ => rfl) rfl rfl, (Turn.below hB).trans (Turn.set (by dsimp only; omega) _)⟩
  · have hfin : A.setQuirks h q = (A.ofDoc h, A) := by
      unfold Ar.ofDoc at he ⊢
      unfold Ar.setQuirks
      by_cases hh : A.has h
      · simp only [hh, not_true_eq_false, if_false] at he ⊢
        by_cases hk : (A.get h).kind = 1
        · simp [hk] at he
        · simp [hk]
      · simp [hh]
    have he1 : (A.ofDoc h != 0) = true := by simp [he]
    rw [hfin]
    go_enter Tryz.func58, Tryz.ntmps58
    go_wp2_with fail
    refine HD.out.mono ?_
    rintro e w1 ⟨rfl, hB⟩
    go_wp2
    go_ret
    exact ⟨rfl, ρ, hA.below hB, Turn.below hB⟩

theorem SetData_any (A : Ar) (ρ : Nat → Nat) (b : Nat) (h : Int) (s : ByteArray) (w : World) (hA : AMem w ρ b A) :
    Calls Tryz.prog 56 #[.pointer (some ⟨b, 0, none⟩), .int .i64 h, .string s] w (AddR (A.setData h s).2 ρ b w (.int .i64 (A.setData h s).1)) := by
  obtain ⟨a, c, mv, h0, h1, hf, hlt, hm, hN⟩ := hA.head
  have hA0 := hA.below (below_alloc w (.cells #[.int .i64 h] 3))
  have h0' := Below.old (below_alloc w (.cells #[.int .i64 h] 3)) h0
  have hB0 := below_alloc w (.cells #[.int .i64 h] 3)
  by_cases hh : A.has h
  · have hp := hh.1; have hq := hh.2; unfold Ar.n at hq
    obtain ⟨nb, rfl, hr, hnb, hfn, hNx⟩ := hN (by omega)
    obtain ⟨kv, av, F, -, -⟩ := hNx h hh
    have c0 := Below.old hB0 F.c0
    have c7 := Below.old hB0 F.c7
    have f7 : (w.alloc (.cells #[.int .i64 h] 3)).frozen? ⟨nb, (h.toNat - 1) * 13 + 7, none⟩ = false := (Below.frozen hB0 hnb).trans (hfn _)
    have hck : checkL A [h] = 0 := by simp [checkL, hh]
    by_cases hk : (A.get h).kind = 5 ∨ (A.get h).kind = 6
    · have hfin : A.setData h s = (0, A.mod h (fun x => { x with data := s })) := by simp [Ar.setData, hh, hk]
      rw [hfin]
      have HR : AMem ((w.alloc (.cells #[.int .i64 h] 3)).setCell ⟨nb, (h.toNat - 1) * 13 + 7, none⟩ (.string s)) ρ b (A.mod h (fun x => { x with data := s })) :=
        hA0.field hh h0' rfl (j := 7) (by omega) (fun _ _ => rfl) rfl rfl
      have HT : Turn ρ ρ w ((w.alloc (.cells #[.int .i64 h] 3)).setCell ⟨nb, (h.toNat - 1) * 13 + 7, none⟩ (.string s)) := (Turn.below hB0).trans (Turn.set (by dsimp only; omega) _)
      rw [World.setCell_alloc_past _ _ _ _ hnb] at HR HT
      have HE := Lib.hid (And.intro HR HT)
      clear HR HT hfin F hNx hN hfn
      generalize ho : (h.toNat - 1) * 13 = o at *
      have HO := Lib.hid ho
      clear ho
      rcases hk with hk | hk
      all_goals
        rw [hk] at c0
        clear hk
        go_enter Tryz.func56, Tryz.ntmps56
        go_wp2_with fail
        refine (check_any A b _ c _ [h] _ h0' (RInts_new1 _ _ _)).mono ?_
        rintro e w' ⟨rfl, rfl⟩
        rw [hck]
        go_wp2_with fail
        refine (at_any b nb _ c h _ h0' hp hq hm).mono ?_
        rintro e w2 ⟨rfl, rfl⟩
        rw [HO.out]
        go_wp2
        go_ret
        exact ⟨rfl, ρ, HE.out.1, HE.out.2⟩
    · have hfin : A.setData h s = (9, A) := by simp [Ar.setData, hh, hk]
      rw [hfin]
      have k1 : ((A.get h).kind != 5) = true := by simp; exact fun e => hk (.inl e)
      have k2 : ((A.get h).kind != 6) = true := by simp; exact fun e => hk (.inr e)
      clear hfin hk F hNx hN hfn c7 f7
      go_enter Tryz.func56, Tryz.ntmps56
      go_wp2_with fail
      refine (check_any A b _ c _ [h] _ h0' (RInts_new1 _ _ _)).mono ?_
      rintro e w' ⟨rfl, rfl⟩
      rw [hck]
      go_wp2_with fail
      refine (at_any b nb _ c h _ h0' hp hq hm).mono ?_
      rintro e w2 ⟨rfl, rfl⟩
      go_wp2
      go_ret
      exact ⟨rfl, ρ, hA0, Turn.below hB0⟩
  · have hfin : A.setData h s = (3, A) := by simp [Ar.setData, hh]
    have hck : checkL A [h] = 3 := by simp [checkL, hh]
    rw [hfin]
    clear hfin hN hh
    go_enter Tryz.func56, Tryz.ntmps56
    go_wp2_with fail
    refine (check_any A b _ c _ [h] _ h0' (RInts_new1 _ _ _)).mono ?_
    rintro e w' ⟨rfl, rfl⟩
    rw [hck]
    go_wp2
    go_ret
    exact ⟨rfl, ρ, hA0, Turn.below hB0⟩

theorem SetDoc_any (A : Ar) (ρ : Nat → Nat) (b : Nat) (h d : Int) (w : World) (hA : AMem w ρ b A) :
    Calls Tryz.prog 59 #[.pointer (some ⟨b, 0, none⟩), .int .i64 h, .int .i64 d] w (AddR (A.setDoc h d).2 ρ b w (.int .i64 (A.setDoc h d).1)) := by
  obtain ⟨a, c, mv, h0, h1, hf, hlt, hm, hN⟩ := hA.head
  have hA0 := hA.below (below_alloc w (.cells #[.int .i64 h, .int .i64 d] 3))
  have h0' := Below.old (below_alloc w (.cells #[.int .i64 h, .int .i64 d] 3)) h0
  have hB0 := below_alloc w (.cells #[.int .i64 h, .int .i64 d] 3)
  by_cases hh : A.has h ∧ A.has d
  · obtain ⟨hh, hd⟩ := hh
    have hp := hh.1; have hq := hh.2; have hp2 := hd.1; have hq2 := hd.2; unfold Ar.n at hq hq2
    obtain ⟨nb, rfl, hr, hnb, hfn, hNx⟩ := hN (by omega)
    obtain ⟨kv, av, F, -, -⟩ := hNx h hh
    obtain ⟨kv2, av2, F2, -, -⟩ := hNx d hd
    have c0 := Below.old hB0 F.c0
    have c3 := Below.old hB0 F.c3
    have d0 := Below.old hB0 F2.c0
    have f3 : (w.alloc (.cells #[.int .i64 h, .int .i64 d] 3)).frozen? ⟨nb, (h.toNat - 1) * 13 + 3, none⟩ = false := (Below.frozen hB0 hnb).trans (hfn _)
    have hck : checkL A [h, d] = 0 := by simp [checkL, hh, hd]
    generalize hw0 : w.alloc _ = w0 at *
    by_cases hk : (A.get h).kind = 1
    · have hfin : A.setDoc h d = (9, A) := by simp [Ar.setDoc, hh, hd, hk]
      rw [hfin]
      have k1 : ((A.get h).kind == 1) = true := by simp [hk]
      have HW := Lib.hid hw0
      clear hfin hk F hNx hN hfn c3 f3 F2 hw0
      go_enter Tryz.func59, Tryz.ntmps59
      go_wp2_with fail
      rw [HW.out]
      refine (check_any A b _ c _ [h, d] _ h0' (by rw [← HW.out]; exact RInts_new2 _ _ _ _)).mono ?_
      rintro e w' ⟨rfl, rfl⟩
      rw [hck]
      go_wp2_with fail
      refine (at_any b nb _ c h _ h0' hp hq hm).mono ?_
      rintro e w2 ⟨rfl, rfl⟩
      go_wp2
      go_ret
      exact ⟨rfl, ρ, hA0, Turn.below hB0⟩
    · have k1 : ((A.get h).kind == 1) = false := by simp [hk]
      by_cases hk2 : (A.get d).kind = 1
      · have hfin : A.setDoc h d = (0, A.mod h (fun x => { x with doc := d })) := by simp [Ar.setDoc, hh, hd, hk, hk2]
        rw [hfin]
        have k2 : ((A.get d).kind != 1) = false := by simp [hk2]
        have HR : AMem (w0.setCell ⟨nb, (h.toNat - 1) * 13 + 3, none⟩ (.int .i64 d)) ρ b (A.mod h (fun x => { x with doc := d })) :=
          hA0.field hh h0' rfl (j := 3) (by omega) (fun _ _ => rfl) rfl rfl
        have HT : Turn ρ ρ w (w0.setCell ⟨nb, (h.toNat - 1) * 13 + 3, none⟩ (.int .i64 d)) := (Turn.below hB0).trans (Turn.set (by dsimp only; omega) _)
        have HE := Lib.hid (And.intro HR HT)
        have HW := Lib.hid hw0
        clear hfin hk hk2 F hNx hN hfn F2 HR HT hw0
        go_enter Tryz.func59, Tryz.ntmps59
        go_wp2_with fail
        rw [HW.out]
        refine (check_any A b _ c _ [h, d] _ h0' (by rw [← HW.out]; exact RInts_new2 _ _ _ _)).mono ?_
        rintro e w' ⟨rfl, rfl⟩
        rw [hck]
        go_wp2_with fail
        refine (at_any b nb _ c h _ h0' hp hq hm).mono ?_
        rintro e w2 ⟨rfl, rfl⟩
        go_wp2_with fail
        refine (at_any b nb _ c d _ h0' hp2 hq2 hm).mono ?_
        rintro e w2 ⟨rfl, rfl⟩
        go_wp2_with fail
        refine (at_any b nb _ c h _ h0' hp hq hm).mono ?_
        rintro e w2 ⟨rfl, rfl⟩
        go_wp2
        go_ret
        exact ⟨rfl, ρ, HE.out.1, HE.out.2⟩
      · have hfin : A.setDoc h d = (9, A) := by simp [Ar.setDoc, hh, hd, hk2]
        rw [hfin]
        have k2 : ((A.get d).kind != 1) = true := by simp [hk2]
        have HW := Lib.hid hw0
        clear hfin hk hk2 F hNx hN hfn F2 c3 f3 hw0
        go_enter Tryz.func59, Tryz.ntmps59
        go_wp2_with fail
        rw [HW.out]
        refine (check_any A b _ c _ [h, d] _ h0' (by rw [← HW.out]; exact RInts_new2 _ _ _ _)).mono ?_
        rintro e w' ⟨rfl, rfl⟩
        rw [hck]
        go_wp2_with fail
        refine (at_any b nb _ c h _ h0' hp hq hm).mono ?_
        rintro e w2 ⟨rfl, rfl⟩
        go_wp2_with fail
        refine (at_any b nb _ c d _ h0' hp2 hq2 hm).mono ?_
        rintro e w2 ⟨rfl, rfl⟩
        go_wp2
        go_ret
        exact ⟨rfl, ρ, hA0, Turn.below hB0⟩
  · have hfin : A.setDoc h d = (3, A) := by
      have : ¬ A.has h ∨ ¬ A.has d := by
        by_cases q : A.has h
        · exact .inr (fun r => hh ⟨q, r⟩)
        · exact .inl q
      simp [Ar.setDoc, this]
    have hck : checkL A [h, d] = 3 := by simp [checkL]; exact fun q r => hh ⟨q, r⟩
    rw [hfin]
    clear hfin hN hh
    go_enter Tryz.func59, Tryz.ntmps59
    go_wp2_with fail
    refine (check_any A b _ c _ [h, d] _ h0' (RInts_new2 _ _ _ _)).mono ?_
    rintro e w' ⟨rfl, rfl⟩
    rw [hck]
    go_wp2
    go_ret
    exact ⟨rfl, ρ, hA0, Turn.below hB0⟩

theorem roleNew {w w1 : World} {ρ : Nat → Nat} {b : Nat} {A : Ar} {v : Value} {e : TypeId} {size n r : Nat} {xs : List Value} (hA : AMem w ρ b A) (hB : Below w.heap.size w w1) (ho : w1.ownsRow w.heap.size e size v n xs) :
    ∃ ρ', AMem w1 ρ' b A ∧ (∀ k, k < w.heap.size → ρ' k = ρ k) ∧ ROwn w1 ρ' r e size v n xs ∧ ∀ k, ρ' k ≠ 0 → k < w1.heap.size := by
  have hA1 := hA.below hB
  cases hv : v.ownBlock with
  | none => exact ⟨ρ, hA1, fun _ _ => rfl, ⟨owns_base ho (Nat.zero_le _), fun g hg => by rw [hv] at hg; cases hg⟩, hA1.1⟩
  | some g =>
    obtain ⟨h1, h2⟩ := owns_block ho g hv
    have h0 : ρ g = 0 := by
      by_cases h : ρ g = 0
      · exact h
      · have := hA.1 g h; omega
    have hn := hA1.newRole g r h0 h2
    exact ⟨_, hn, fun k hk => by rw [if_neg (by omega)], ⟨owns_base ho (Nat.zero_le _), fun g' hg' => by rw [hv] at hg'; cases hg'; simp⟩, hn.1⟩

end Go.Proofs.YtnfdcfagdidmhaaGreatDoor

/- Contracts of the program's arena: SetAttrs. -/
namespace Go.Proofs.YtnfdcfagdidmhaaGreatDoor
open Go.RowKit

theorem ownsForm {w : World} {base : Nat} {e : TypeId} {size : Nat} {v : Value} {n : Nat} {xs : List Value} (h : w.ownsRow base e size v n xs) : ∃ a c, v = .slice a n c := by
  rcases h.2 with ⟨rfl, rfl⟩ | ⟨g, cap, cur, rfl, _⟩
  · exact ⟨_, _, rfl⟩
  · exact ⟨_, _, rfl⟩

set_option maxHeartbeats 400000 in
theorem SetAttrs_any (A : Ar) (ρ : Nat → Nat) (b : Nat) (h : Int) (v : Value) (l : List AttrD) (w : World) (hA : AMem w ρ b A) (hv : RAttrs w v l) (hsmall : l.length ≤ 1000000) :
    Calls Tryz.prog 57 #[.pointer (some ⟨b, 0, none⟩), .int .i64 h, v] w (AddR (A.setAttrs h l).2 ρ b w (.int .i64 (A.setAttrs h l).1)) := by
  obtain ⟨a, c, mv, h0, h1, hf, hlt, hm, hN⟩ := hA.head
  have hA0 := hA.below (below_alloc w (.cells #[.int .i64 h] 3))
  have h0' := Below.old (below_alloc w (.cells #[.int .i64 h] 3)) h0
  have hB0 := below_alloc w (.cells #[.int .i64 h] 3)
  have hv0 := hv.below hB0
  by_cases hh : A.has h
  · have hp := hh.1; have hq := hh.2; unfold Ar.n at hq
    obtain ⟨nb, rfl, hr, hnb, hfn, hNx⟩ := hN (by omega)
    obtain ⟨kv, av, F, -, -⟩ := hNx h hh
    have c0 := Below.old hB0 F.c0
    have c6 := Below.old hB0 F.c6
    have f6 : (w.alloc (.cells #[.int .i64 h] 3)).frozen? ⟨nb, (h.toNat - 1) * 13 + 6, none⟩ = false := (Below.frozen hB0 hnb).trans (hfn _)
    have hck : checkL A [h] = 0 := by simp [checkL, hh]
    have hnb0 : nb < (w.alloc (.cells #[.int .i64 h] 3)).heap.size := by simp; omega
    generalize hw0 : w.alloc _ = w0 at *
    have HW := Lib.hid hw0
    clear hw0
    by_cases hk : (A.get h).kind = 4
    · have k1 : ((A.get h).kind != 4) = false := by simp [hk]
      have HO := Lib.hid (once_any v l w0 hv0 hsmall)
      by_cases hs : attrSpaces l
      · have hfin : A.setAttrs h l = (0, A.mod h (fun x => { x with attrs := onceL l })) := by simp [Ar.setAttrs, hh, hk, hs]
        rw [hfin]
        have HS := Lib.hid hs
        clear hfin hk F hNx hN hfn hs
        go_enter Tryz.func57, Tryz.ntmps57
        go_wp2_with fail
        rw [HW.out]
        refine (check_any A b _ c _ [h] _ h0' (by rw [← HW.out]; exact RInts_new1 _ _ _)).mono ?_
        rintro e w' ⟨rfl, rfl⟩
        rw [hck]
        go_wp2_with fail
        refine (at_any b nb _ c h _ h0' hp hq hm).mono ?_
        rintro e w2 ⟨rfl, rfl⟩
        generalize ho : (h.toNat - 1) * 13 = o at *
        have HOO := Lib.hid ho
        clear ho
        go_wp2_with fail
        refine HO.out.mono ?_
        rintro e w3 ⟨hB3, hyes, -⟩
        obtain ⟨av', rfl, hown⟩ := hyes HS.out
        have c6 := Below.old hB3 c6
        have f6 : w3.frozen? ⟨nb, o + 6, none⟩ = false := (Below.frozen hB3 hnb0).trans f6
        obtain ⟨ρ', hA3, hr3, hown3, hb3⟩ := roleNew (r := 2 * (h.toNat - 1) + 5) hA0 hB3 hown
        have h03 := Below.old hB3 h0'
        obtain ⟨a', c', rfl⟩ := ownsForm hown
        have HE : AMem (w3.setCell ⟨nb, (h.toNat - 1) * 13 + 6, none⟩ (.slice a' (onceL l).length c')) ρ' b (A.mod h (fun x => { x with attrs := onceL l })) :=
          hA3.store hh h03 (Upd.refl _ _) (fun _ _ => rfl) hb3 (j := 6) (by omega) (fun kv av hk ha _ _ => ⟨kv, _, rfl, hk, hown3⟩)
        rw [HOO.out] at HE
        have hrnb : ρ' nb = 2 := (hr3 nb hnb0).trans hr
        have HT : Turn ρ ρ' w (w3.setCell ⟨nb, o + 6, none⟩ (.slice a' (onceL l).length c')) := by
          have t1 : Turn ρ ρ' w w3 := ⟨(Upd.below hB0).trans ((Upd.below hB3).mono (fun _ _ h => h)), fun k hk => hr3 k (Nat.lt_of_lt_of_le hk hB0.size)⟩
          exact t1.trans (Turn.set (by dsimp only; omega) _)
        have HF := Lib.hid (And.intro HE HT)
        clear HE HT hown hown3 hyes
        go_wp2
        go_ret
        exact ⟨rfl, ρ', HF.out.1, HF.out.2⟩
      · have hfin : A.setAttrs h l = (2, A) := by simp [Ar.setAttrs, hh, hk, hs]
        rw [hfin]
        have HS := Lib.hid hs
        clear hfin hk F hNx hN hfn hs
        go_enter Tryz.func57, Tryz.ntmps57
        go_wp2_with fail
        rw [HW.out]
        refine (check_any A b _ c _ [h] _ h0' (by rw [← HW.out]; exact RInts_new1 _ _ _)).mono ?_
        rintro e w' ⟨rfl, rfl⟩
        rw [hck]
        go_wp2_with fail
        refine (at_any b nb _ c h _ h0' hp hq hm).mono ?_
        rintro e w2 ⟨rfl, rfl⟩
        go_wp2_with fail
        refine HO.out.mono ?_
        rintro e w3 ⟨hB3, -, hno⟩
        have := hno HS.out
        subst this
        go_wp2
        go_ret
        exact ⟨rfl, ρ, hA0.below hB3, Turn.below (hB0.trans (hB3.mono hB0.size))⟩
    · have hfin : A.setAttrs h l = (9, A) := by simp [Ar.setAttrs, hh, hk]
      rw [hfin]
      have k1 : ((A.get h).kind != 4) = true := by simp [hk]
      clear hfin hk F hNx hN hfn c6 f6
      go_enter Tryz.func57, Tryz.ntmps57
      go_wp2_with fail
      rw [HW.out]
      refine (check_any A b _ c _ [h] _ h0' (by rw [← HW.out]; exact RInts_new1 _ _ _)).mono ?_
      rintro e w' ⟨rfl, rfl⟩
      rw [hck]
      go_wp2_with fail
      refine (at_any b nb _ c h _ h0' hp hq hm).mono ?_
      rintro e w2 ⟨rfl, rfl⟩
      go_wp2
      go_ret
      exact ⟨rfl, ρ, hA0, Turn.below hB0⟩
  · have hfin : A.setAttrs h l = (3, A) := by simp [Ar.setAttrs, hh]
    have hck : checkL A [h] = 3 := by simp [checkL, hh]
    rw [hfin]
    clear hfin hN hh
    go_enter Tryz.func57, Tryz.ntmps57
    go_wp2_with fail
    refine (check_any A b _ c _ [h] _ h0' (RInts_new1 _ _ _)).mono ?_
    rintro e w' ⟨rfl, rfl⟩
    rw [hck]
    go_wp2
    go_ret
    exact ⟨rfl, ρ, hA0, Turn.below hB0⟩

end Go.Proofs.YtnfdcfagdidmhaaGreatDoor

/- Contracts of package slices, at the slices of an arena. -/
namespace Go.Proofs.YtnfdcfagdidmhaaGreatDoor
open Go.RowKit Go.Shelf

def lays23_ren : Go.Shelf.Ren := ⟨fun | 23 => 90 | n => n, fun | 22 => 35 | 3 => 3 | 4 => 4 | 0 => 0 | n => n, fun | n => n⟩
theorem lays23 : Go.Proofs.Lays2.n23 Tryz.prog lays23_ren := {
  mixed := by kernel_rfl
  f23 := Tryz.func90.trans (congrArg some (by kernel_rfl))
  t0 := Tryz.underlying0
  a0 := Tryz.isAgg0
  z0 := Tryz.sizeOf0
  v0 := Tryz.zeroValue0
  t3 := Tryz.underlying3
  a3 := Tryz.isAgg3
  z3 := Tryz.sizeOf3
  v3 := Tryz.zeroValue3
  t4 := Tryz.underlying4
  a4 := Tryz.isAgg4
  z4 := Tryz.sizeOf4
  v4 := Tryz.zeroValue4
  t22 := Tryz.underlying35
  a22 := Tryz.isAgg35
  z22 := Tryz.sizeOf35
  v22 := Tryz.zeroValue35
  i3 := by kernel_rfl }
def lays21_ren : Go.Shelf.Ren := ⟨fun | 21 => 49 | 27 => 92 | 28 => 93 | 35 => 115 | 39 => 126 | n => n, fun | 22 => 35 | 3 => 3 | 4 => 4 | 0 => 0 | n => n, fun | n => n⟩
theorem lays21 : Go.Proofs.Lays2.n21 Tryz.prog lays21_ren := {
  mixed := by kernel_rfl
  f21 := Tryz.func49.trans (congrArg some (by kernel_rfl))
  f27 := Tryz.func92.trans (congrArg some (by kernel_rfl))
  f28 := Tryz.func93.trans (congrArg some (by kernel_rfl))
  f35 := Tryz.func115.trans (congrArg some (by kernel_rfl))
  f39 := Tryz.func126.trans (congrArg some (by kernel_rfl))
  t0 := Tryz.underlying0
  a0 := Tryz.isAgg0
  z0 := Tryz.sizeOf0
  v0 := Tryz.zeroValue0
  t3 := Tryz.underlying3
  a3 := Tryz.isAgg3
  z3 := Tryz.sizeOf3
  v3 := Tryz.zeroValue3
  t4 := Tryz.underlying4
  a4 := Tryz.isAgg4
  z4 := Tryz.sizeOf4
  v4 := Tryz.zeroValue4
  t22 := Tryz.underlying35
  a22 := Tryz.isAgg35
  z22 := Tryz.sizeOf35
  v22 := Tryz.zeroValue35
  i3 := by kernel_rfl }

theorem setCells_block (b : Nat) (t : TypeId) : ∀ (vs : List Value) (o : Nat) (w : World) (cur : Array Value), w.heap[b]? = some (.cells cur t (0, 0)) →
    ∃ cur', (w.setCells b o vs).heap[b]? = some (.cells cur' t (0, 0)) ∧ cur'.size = cur.size ∧ ∀ k, cur'[k]? = if o ≤ k ∧ k < o + vs.length ∧ k < cur.size then vs[k - o]? else cur[k]?
  | [], o, w, cur, h => ⟨cur, h, rfl, fun k => by rw [if_neg (by simp; omega)]⟩
  | v :: vs, o, w, cur, h => by
    have h1 : (w.setCell ⟨b, o, none⟩ v).heap[b]? = some (.cells (cur.setIfInBounds o v) t (0, 0)) := by simp [World.setCell, Array.getElem?_modify, h]
    obtain ⟨cur', h2, h3, h4⟩ := setCells_block b t vs (o + 1) _ _ h1
    refine ⟨cur', h2, by simpa using h3, fun k => ?_⟩
    rw [h4 k]
    by_cases hk : o + 1 ≤ k ∧ k < o + 1 + vs.length ∧ k < cur.size
    · rw [if_pos (by simpa using hk), if_pos (by simp; omega), show k - o = (k - (o + 1)) + 1 from by omega]; simp
    · rw [if_neg (by simpa using hk)]
      by_cases hko : o = k
      · subst hko
        by_cases hs : o < cur.size
        · rw [if_pos (by simp; omega)]; simp [hs]
        · rw [if_neg (by omega)]; simp [hs]
      · rw [if_neg (by simp at hk ⊢; omega)]; simp [hko]
theorem setCells_heap (b : Nat) : ∀ (vs : List Value) (o : Nat) (w : World) (k : Nat), k ≠ b → (w.setCells b o vs).heap[k]? = w.heap[k]?
  | [], _, _, _, _ => rfl
  | v :: vs, o, w, k, h => (setCells_heap b vs (o + 1) _ k h).trans (heap_set_other w ⟨b, o, none⟩ v k h)
theorem setCells_rest (b : Nat) : ∀ (vs : List Value) (o : Nat) (w : World), (w.setCells b o vs).os = w.os ∧ (w.setCells b o vs).tape = w.tape ∧ (w.setCells b o vs).output = w.output ∧ (w.setCells b o vs).heap.size = w.heap.size
  | [], _, _ => ⟨rfl, rfl, rfl, rfl⟩
  | v :: vs, o, w => by obtain ⟨h1, h2, h3, h4⟩ := setCells_rest b vs (o + 1) (w.setCell ⟨b, o, none⟩ v); exact ⟨h1, h2, h3, h4.trans (by simp)⟩
theorem Upd.setCells {F : Nat → Prop} {a w : World} (h : Upd F a w) {b : Nat} (hp : a.heap.size ≤ b ∨ F b) (o : Nat) (vs : List Value) : Upd F a (w.setCells b o vs) := by
  obtain ⟨h1, h2, h3, h4⟩ := setCells_rest b vs o w
  refine ⟨h1.trans h.os, h2.trans h.tape, h3.trans h.output, by rw [h4]; exact h.size, fun k hk hf => ?_⟩
  rw [setCells_heap b vs o w k (by intro e; subst e; exact hp.elim (fun hp => by omega) hf)]; exact h.block k hk hf

theorem oneInts (l : List Int) : ∀ u ∈ l.map intv, u.oneCell' = true := by intro u hu; simp at hu; obtain ⟨x, _, rfl⟩ := hu; rfl

/-- slices.Index over ints. -/
theorem Index_any (v : Value) (l : List Int) (x : Int) (w : World) (hv : RInts w v l) :
    Calls Tryz.prog 43 #[v, .int .i64 x] w fun e w' => e = .returned (.int .i64 (findI (fun y => decide (y = x)) l)) ∧ w = w' := by
  obtain ⟨av, cv, rfl, hc1, hc2, hc3⟩ := hv.form
  go_enter Tryz.func43, Tryz.ntmps43
  go_wp2
  go_loop [8] (fun i => ∃ k : Nat, k ≤ l.length ∧ i = .int .i64 k ∧ Hid (∀ j y, j < k → l[j]? = some y → (fun y => decide (y = x)) y = false)) (fun i => l.length - (intOf i).toNat)
  case atStart => exact ⟨0, Nat.zero_le _, rfl, fun j y hj => by omega⟩
  case round =>
    obtain ⟨k, hk, rfl, hT⟩ := hrel
    by_cases hlt : k < l.length
    · obtain ⟨b1, o1, rfl, hcs⟩ := hc3 (by omega)
      have hck := hcs k hlt
      clear hc3 hcs
      have hy : l[k]? = some (l[k]?.getD 0) := by simp [hlt]
      generalize l[k]?.getD 0 = y at hck hy
      have HY := Lib.hid hy
      clear hy
      by_cases hxy : x = y
      · have h1 : (x == y) = true := by simp [hxy]
        have HXY := Lib.hid hxy
        clear hxy
        go_wp2
        go_ret
        exact ⟨ret_int (findI_hit HY.out (by simp [HXY.out]) hT.out).symm, rfl⟩
      · have h1 : (x == y) = false := by simp [hxy]
        have HXY := Lib.hid hxy
        clear hxy
        go_wp2
        go_round
        case rel => exact ⟨k + 1, hlt, by go_num, fun j z hj hz => by
          by_cases hjk : j < k
          · exact hT.out j z hjk hz
          · have hjk : j = k := by omega
            rw [hjk, HY.out] at hz; cases hz; simp; exact fun e => HXY.out e.symm⟩
        case measure => simp [intOf]; omega
    · go_wp2
      go_ret
      exact ⟨ret_int (findI_none (fun j y hj => hT.out j y (by have := (List.getElem?_eq_some_iff.1 hj).1; omega) hj)).symm, rfl⟩

/-- slices.Delete of one element of a slice that owns its row. -/
theorem Delete_own (ρ : Nat → Nat) (r : Nat) (v : Value) (l : List Int) (i : Nat) (w : World) (hv : ROwn w ρ r 3 1 v l.length (l.map intv)) (hi : i < l.length) :
    Calls Tryz.prog 90 #[v, .int .i64 i, .int .i64 (i + 1)] w fun e w' => ∃ g c, v = .slice (some ⟨g, 0, none⟩) l.length c ∧ e = .returned (.slice (some ⟨g, 0, none⟩) (l.length - 1) c) ∧ Upd (fun k => ρ k = r) w w' ∧
      ROwn w' ρ r 3 1 (.slice (some ⟨g, 0, none⟩) (l.length - 1) c) (l.eraseIdx i).length ((l.eraseIdx i).map intv) := by
  obtain ⟨⟨h1, h2⟩, h3⟩ := hv
  rcases h2 with ⟨rfl, h4⟩ | ⟨g, cap, cur, rfl, _, hg, hn, hc, hs, ht⟩
  · omega
  · have hcell : ∀ j, j < l.length → w.cell? ⟨g, 0 + j, none⟩ = some (.int .i64 (l.getD j 0)) := by
      intro j hj
      rw [cell_of_row w g _ cur _ (0, 0) hg, Nat.zero_add]
      have : (cur.toList.take (l.length * 1))[j]? = some (intv (l.getD j 0)) := by rw [ht]; simp [hj]
      rw [List.getElem?_take, if_pos (by omega)] at this
      simpa [intv] using this
    have hgr := h3 g rfl
    refine (Any.slices_Delete_int_cells lays23 g 0 l.length cap i (i + 1) l w (Nat.le_refl _) hn hc (by omega) (by omega) hcell (fun j _ => frozen_of_row w g _ cur _ hg)).mono ?_
    rintro e w' ⟨rfl, q, rfl⟩
    have hsub : i + 1 - i = 1 := by omega
    rw [hsub, List.take_length]
    refine ⟨g, cap, rfl, rfl, ((Upd.refl (fun k => ρ k = r) w).drewN q).setCells (.inr hgr) _ _, ⟨⟨by simp, .inr ?_⟩, h3⟩⟩
    obtain ⟨cur', k1, k2, k3⟩ := setCells_block g 3 ((l.take i ++ l.drop (i + 1) ++ List.replicate 1 0).map (Value.int .i64)) 0 (w.drewN q) cur hg
    have hlen : (l.eraseIdx i).length = l.length - 1 := by simp [List.length_eraseIdx, hi]
    refine ⟨g, cap, cur', by rw [hlen], Nat.zero_le _, k1, by omega, hc, by rw [k2]; exact hs, ?_⟩
    apply List.ext_getElem?
    intro k
    rw [List.getElem?_take, Array.getElem?_toList, k3 k]
    rw [Nat.mul_one]
    by_cases hk : k < (l.eraseIdx i).length
    · rw [if_pos hk, if_pos (by simp; omega), List.eraseIdx_eq_take_drop_succ]
      simp only [Nat.sub_zero, List.map_append, List.getElem?_append, List.length_map, List.length_append]
      rw [if_pos (by simp; omega)]
      rfl
    · rw [if_neg hk, List.getElem?_eq_none (by simpa using hk)]

end Go.Proofs.YtnfdcfagdidmhaaGreatDoor

/- slices.Insert of one number into a slice that owns its row. -/
namespace Go.Proofs.YtnfdcfagdidmhaaGreatDoor
open Go.RowKit Go.Shelf

/-- What 'Insert' leaves. -/
def InsertR (ρ : Nat → Nat) (r : Nat) (l' : List Int) (w : World) (e : Ending) (w' : World) : Prop :=
  ∃ (g c : Nat) (ρ' : Nat → Nat), e = .returned (.slice (some ⟨g, 0, none⟩) l'.length c) ∧ Upd (fun k => ρ k = r) w w' ∧ (∀ k, k < w.heap.size → ρ' k = ρ k) ∧ (∀ k, ρ' k ≠ 0 → k < w'.heap.size) ∧
    ROwn w' ρ' r 3 1 (.slice (some ⟨g, 0, none⟩) l'.length c) l'.length (l'.map intv)

theorem ins_length {l : List Int} {i : Nat} {x : Int} (hi : i ≤ l.length) : (l.take i ++ x :: l.drop i).length = l.length + 1 := by simp; omega
theorem ins_get {l : List Int} {i : Nat} {x : Int} (hi : i ≤ l.length) (k : Nat) : (l.take i ++ x :: l.drop i)[k]? = if k < i then l[k]? else if k = i then some x else l[k - 1]? := by
  rw [List.getElem?_append]
  simp only [List.length_take, Nat.min_eq_left hi]
  by_cases hk : k < i
  · rw [if_pos hk, if_pos hk, List.getElem?_take, if_pos hk]
  · rw [if_neg hk, if_neg hk]
    by_cases hk2 : k = i
    · subst hk2; simp
    · rw [if_neg hk2, show k - i = (k - i - 1) + 1 from by omega, List.getElem?_cons_succ, List.getElem?_drop]
      congr 1; omega

/-- The cells of a row, known one by one, are the list's. -/
theorem owns_mk {w : World} {g cap : Nat} {cur : Array Value} {l : List Int} {t : TypeId} (hg : w.heap[g]? = some (.cells cur t (0, 0))) (hc : cap ≤ maxLen) (hs : cur.size = cap) (hn : l.length ≤ cap) (h : ∀ k, k < l.length → cur[k]? = some (intv (l[k]?.getD 0))) :
    w.ownsRow 0 t 1 (.slice (some ⟨g, 0, none⟩) l.length cap) l.length (l.map intv) := by
  refine ⟨by simp, .inr ⟨g, cap, cur, rfl, Nat.zero_le _, hg, hn, hc, by omega, ?_⟩⟩
  apply List.ext_getElem?
  intro k
  rw [List.getElem?_take, Array.getElem?_toList, Nat.mul_one]
  by_cases hk : k < l.length
  · rw [if_pos hk, h k hk]; simp [hk]
  · rw [if_neg hk, List.getElem?_eq_none (by simpa using hk)]

set_option maxHeartbeats 1000000 in
theorem Insert_own (ρ : Nat → Nat) (r : Nat) (v : Value) (l : List Int) (i : Nat) (x : Int) (vb : Nat) (w : World) (hρ : ∀ k, ρ k ≠ 0 → k < w.heap.size) (hv : ROwn w ρ r 3 1 v l.length (l.map intv)) (hi : i ≤ l.length)
    (hvb : w.heap[vb]? = some (.cells #[.int .i64 x] 3 (0, 0))) (hvr : ρ vb ≠ r) (hsmall : l.length ≤ 1000000) :
    Calls Tryz.prog 49 #[v, .int .i64 i, .slice (some ⟨vb, 0, none⟩) 1 1] w (InsertR ρ r (l.take i ++ x :: l.drop i) w) := by
  obtain ⟨⟨h1, h2⟩, h3⟩ := hv
  have hvs : ∀ (j : Nat) (u : Value), [intv x][j]? = some u → w.cell? ⟨vb, 0 + j, none⟩ = some u := by
    intro j u hu
    rw [cell_of_row w vb _ _ _ _ hvb, Nat.zero_add]
    simpa [intv] using hu
  have h1v : ∀ u ∈ [intv x], u.oneCell' = true := by intro u hu; simp at hu; subst hu; rfl
  have hl' := ins_length (x := x) hi
  have hnew : ∀ (w' : World) (cur : Array Value) (cap : Nat), w'.heap[w.heap.size]? = some (.cells cur 3 (0, 0)) → Upd (fun k => ρ k = r) w w' → cap ≤ maxLen → cur.size = cap → l.length + 1 ≤ cap →
      (∀ k, k < (l.take i ++ x :: l.drop i).length → cur[k]? = some (intv ((l.take i ++ x :: l.drop i)[k]?.getD 0))) → InsertR ρ r (l.take i ++ x :: l.drop i) w (.returned (.slice (some ⟨w.heap.size, 0, none⟩) (l.length + 1) cap)) w' := by
    intro w' cur cap hg hU hc hs hn h
    refine ⟨w.heap.size, cap, fun k => if k = w.heap.size then r else ρ k, by rw [hl'], hU, fun k hk => if_neg (by omega), fun k hk => ?_, owns_mk hg hc hs (by omega) h, fun g hg' => ?_⟩
    · dsimp only at hk
      split at hk
      · rename_i e; subst e; exact lt_of_block hg
      · exact Nat.lt_of_lt_of_le (hρ k hk) hU.size
    · simp [Value.ownBlock] at hg'; simp [hg']
  rcases h2 with ⟨rfl, h4⟩ | ⟨g, cap, cur, rfl, _, hg, hn, hc, hs, ht⟩
  · have hl : l = [] := List.length_eq_zero_iff.1 h4
    subst hl
    simp at hi
    subst hi
    refine (Any2.slices_Insert_int_end_grow lays21 none 0 0 vb 0 1 1 [] [intv x] w (by omega) (by omega) (by omega) (by omega) rfl rfl (fun _ => rfl) (fun a ha => by cases ha) hvs h1v).mono ?_
    rintro e w' ⟨rfl, rfl⟩
    refine hnew _ _ _ (heap_alloc_new w.drew _) (((Upd.refl _ w).drew).alloc _) (grownCap_le_maxLen w _ _ _ (by unfold maxLen; omega)) ?_ (grownCap_ge w _ _ _) ?_
    · have := grownCap_ge w 1 0 3
      simp [size_zeroCells]
      change 1 + (grownCap w 1 0 3 - 1) * _ = grownCap w 1 0 3
      simp [Value.cells]; omega
    · intro k hk
      simp at hk
      subst hk
      rw [Array.getElem?_append_left (by simp)]
      simp [intv]
  · have hgr := h3 g rfl
    have hgv : vb ≠ g := by intro e; subst e; exact hvr hgr
    have hcur : ∀ j, j < l.length → cur[j]? = some (intv (l[j]?.getD 0)) := by
      intro j hj
      have : (cur.toList.take (l.length * 1))[j]? = some (intv (l[j]?.getD 0)) := by rw [ht]; simp [hj]
      rw [List.getElem?_take, if_pos (by omega)] at this
      simpa using this
    have hcs : ∀ (j : Nat) (u : Value), (l.map intv)[j]? = some u → w.cell? ⟨g, 0 + j, none⟩ = some u := by
      intro j u hu
      have hj : j < l.length := by have := (List.getElem?_eq_some_iff.1 hu).1; simpa using this
      rw [cell_of_row w g _ _ _ _ hg, Nat.zero_add, hcur j hj, ← hu]; simp [hj]
    have hold : ∀ (w' : World) (cur' : Array Value), w'.heap[g]? = some (.cells cur' 3 (0, 0)) → Upd (fun k => ρ k = r) w w' → cur'.size = cap → l.length + 1 ≤ cap →
        (∀ k, k < (l.take i ++ x :: l.drop i).length → cur'[k]? = some (intv ((l.take i ++ x :: l.drop i)[k]?.getD 0))) → InsertR ρ r (l.take i ++ x :: l.drop i) w (.returned (.slice (some ⟨g, 0, none⟩) (l.length + 1) cap)) w' := by
      intro w' cur' hg' hU hs' hn' h
      exact ⟨g, cap, ρ, by rw [hl'], hU, fun _ _ => rfl, fun k hk => Nat.lt_of_lt_of_le (hρ k hk) hU.size, owns_mk hg' hc hs' (by omega) h, h3⟩
    by_cases hroom : l.length + 1 ≤ cap
    · by_cases hend : i = l.length
      · subst hend
        refine (Any2.slices_Insert_int_end_room lays21 g 0 l.length cap vb 0 1 1 [intv x] w (by omega) hroom hc rfl (fun j hj => ?_) (fun j _ => frozen_of_row w g _ _ _ hg) hvs h1v).mono ?_
        · rw [cell_of_row w g _ _ _ _ hg]; simp; omega
        · rintro e w' ⟨rfl, rfl⟩
          obtain ⟨cur', k1, k2, k3⟩ := setCells_block g 3 [intv x] (0 + l.length) w cur hg
          refine hold _ cur' k1 ((Upd.refl (fun k => ρ k = r) w).setCells (.inr hgr) _ _) (by omega) hroom (fun k hk => ?_)
          rw [k3 k, ins_get (Nat.le_refl _)]
          by_cases hk2 : k < l.length
          · rw [if_neg (by omega), if_pos hk2]; exact hcur k hk2
          · have : k = l.length := by omega
            subst this
            rw [if_pos (by simp; omega)]; simp
      · refine (Any2.slices_Insert_int_shift lays21 g 0 l.length cap i vb 0 1 1 (l.map intv) [intv x] w (by omega) (by omega) hroom hc hgv (by simp) rfl hcs (fun j hj => ?_) (fun j _ => frozen_of_row w g _ _ _ hg) hvs (oneInts l) h1v 3 3 1 cap (by simp [World.shape?, hvb]) (by simp [World.shape?, hg]; omega) (by omega) (frozen_of_row w vb _ _ _ hvb) (frozen_of_row w vb _ _ _ hvb)).mono ?_
        · rw [cell_of_row w g _ _ _ _ hg]; simp; omega
        · rintro e w' ⟨rfl, rfl⟩
          obtain ⟨cur1, k1, k2, k3⟩ := setCells_block g 3 ((l.map intv).drop i) (0 + (i + 1)) w.drew cur hg
          obtain ⟨cur', q1, q2, q3⟩ := setCells_block g 3 [intv x] (0 + i) _ cur1 k1
          refine hold _ cur' q1 ((((Upd.refl (fun k => ρ k = r) w).drew).setCells (.inr hgr) _ _).setCells (.inr hgr) _ _) (by omega) hroom (fun k hk => ?_)
          rw [q3 k, ins_get hi]
          by_cases hk1 : k < i
          · rw [if_neg (by omega), k3 k, if_neg (by omega), if_pos hk1]; exact hcur k (by omega)
          · by_cases hk2 : k = i
            · subst hk2
              rw [if_pos (by simp; omega)]; simp
            · rw [if_neg (by simp; omega), k3 k, if_pos (by simp; omega), if_neg hk1, if_neg hk2, List.getElem?_drop, show i + (k - (0 + (i + 1))) = k - 1 from by omega]
              have : k - 1 < l.length := by omega
              simp [this]
    · have hcap : cap = l.length := by omega
      by_cases hend : i = l.length
      · subst hend
        refine (Any2.slices_Insert_int_end_grow lays21 (some ⟨g, 0, none⟩) l.length cap vb 0 1 1 (l.map intv) [intv x] w (by omega) hn (by omega) (by omega) (by simp) rfl (fun h => by cases h) (fun a ha j u hu => ?_) hvs h1v).mono ?_
        · cases ha; rw [Addr.add_mid]; exact hcs j u hu
        · rintro e w' ⟨rfl, rfl⟩
          have hge := grownCap_ge w (l.length + 1) cap 3
          refine hnew _ _ _ (heap_alloc_new w.drew _) (((Upd.refl _ w).drew).alloc _) (grownCap_le_maxLen w _ _ _ (by unfold maxLen; omega)) ?_ hge ?_
          · simp [size_zeroCells, Value.cells]
            change l.length + 1 + (grownCap w (l.length + 1) cap 3 - (l.length + 1)) = grownCap w (l.length + 1) cap 3
            omega
          · intro k hk
            rw [ins_get (Nat.le_refl _)]
            rw [Array.getElem?_append_left (by simp; omega)]
            simp only [List.getElem?_toArray, List.getElem?_append, List.length_map]
            by_cases hk2 : k < l.length
            · rw [if_pos hk2, if_pos hk2]; simp [hk2]
            · have : k = l.length := by omega
              subst this; simp
      · refine (Any2.slices_Insert_int_grow lays21 g 0 l.length cap i vb 0 1 1 (l.map intv) [intv x] w (by omega) (by omega) hn (by omega) (by omega) (by simp) rfl hcs hvs (oneInts l) h1v).mono ?_
        rintro e w' ⟨rfl, rfl⟩
        have hge := grownCap_ge w (l.length + 1) cap 3
        obtain ⟨cur1, k1, k2, k3⟩ := setCells_block w.heap.size 3 [intv x] i ((w.alloc (.cells (((l.map intv).take i).toArray ++ Builtin.zeroCells (Value.int .i64 0).cells (l.length + 1 - i) ++ Builtin.zeroCells (Value.int .i64 0).cells (grownCap w (l.length + 1) cap 3 - (l.length + 1))) 3)).drew) _ (heap_alloc_new w _)
        obtain ⟨cur', q1, q2, q3⟩ := setCells_block w.heap.size 3 ((l.map intv).drop i) (i + 1) (World.drew (World.setCells (World.drew (World.alloc w _)) w.heap.size i [intv x])) cur1 k1
        have hsz0 : (((l.map intv).take i).toArray ++ Builtin.zeroCells (Value.int .i64 0).cells (l.length + 1 - i) ++ Builtin.zeroCells (Value.int .i64 0).cells (grownCap w (l.length + 1) cap 3 - (l.length + 1))).size = grownCap w (l.length + 1) cap 3 := by
          simp [size_zeroCells, Value.cells]; omega
        refine hnew _ cur' _ q1 ((((((Upd.refl _ w).alloc _).drew).setCells (.inl (Nat.le_refl _)) _ _).drew).setCells (.inl (Nat.le_refl _)) _ _) (grownCap_le_maxLen w _ _ _ (by unfold maxLen; omega)) (by rw [q2, k2]; exact hsz0) hge (fun k hk => ?_)
        rw [q3 k, k3 k, k2, hsz0, ins_get hi]
        by_cases hk1 : k < i
        · rw [if_neg (by omega), if_neg (by omega), if_pos hk1, Array.getElem?_append_left (by simp [size_zeroCells, Value.cells]; omega), Array.getElem?_append_left (by simp; omega)]
          simp only [List.getElem?_toArray, List.getElem?_take, if_pos hk1]
          have : k < l.length := by omega
          simp [this]
        · by_cases hk2 : k = i
          · subst hk2
            rw [if_neg (by omega), if_pos (by simp; omega)]; simp
          · rw [if_pos (by simp; omega), if_neg hk1, if_neg hk2, List.getElem?_drop, show i + (k - (i + 1)) = k - 1 from by omega]
            have : k - 1 < l.length := by omega
            simp [this]

end Go.Proofs.YtnfdcfagdidmhaaGreatDoor

/- Contracts of the program's arena: cut, Cut. -/
namespace Go.Proofs.YtnfdcfagdidmhaaGreatDoor
open Go.RowKit

theorem findI_mem {l : List Int} {h : Int} (hm : h ∈ l) : ∃ i : Nat, findI (fun y => decide (y = h)) l = i ∧ i < l.length ∧ l[i]? = some h ∧ ∀ j, j < i → l[j]? ≠ some h := by
  cases hf : l.findIdx? (fun y => decide (y = h)) with
  | none => rw [List.findIdx?_eq_none_iff] at hf; have := hf h hm; simp at this
  | some i =>
    refine ⟨i, by simp [findI, hf], ?_⟩
    rw [List.findIdx?_eq_some_iff_getElem] at hf
    obtain ⟨hi, hp, hno⟩ := hf
    refine ⟨hi, by simp at hp; simp [hi, hp], fun j hj e => ?_⟩
    have := hno j hj
    have hj' : j < l.length := by omega
    rw [List.getElem?_eq_getElem hj'] at e
    simp at e this
    exact this e

theorem erase_without {l : List Int} {h : Int} {i : Nat} (hn : l.Nodup) (hi : l[i]? = some h) : l.eraseIdx i = without l h := by
  induction l generalizing i with
  | nil => simp at hi
  | cons a l ih =>
    rw [List.nodup_cons] at hn
    cases i with
    | zero =>
      simp at hi
      subst hi
      simp [without]
      rw [List.filter_eq_self.2]
      intro x hx
      simp
      intro e; subst e; exact hn.1 hx
    | succ i =>
      simp at hi
      have ha : a ≠ h := by intro e; subst e; exact hn.1 (List.mem_of_getElem? hi)
      rw [List.eraseIdx_cons_succ, ih hn.2 hi]
      simp [without, ha]

set_option maxRecDepth 100000 in
set_option maxHeartbeats 400000 in
theorem cut_any (A : Ar) (ρ : Nat → Nat) (b : Nat) (h : Int) (w : World) (hA : AMem w ρ b A) (hh : A.has h) (hL : A.LinkOK h) :
    Calls Tryz.prog 47 #[.pointer (some ⟨b, 0, none⟩), .int .i64 h] w (fun e w' => AddR (A.cut h) ρ b w (.tuple #[]) e w' ∧ w'.cell? ⟨b, 0, none⟩ = w.cell? ⟨b, 0, none⟩) := by
  obtain ⟨a, c, mv, h0, h1, hf, hlt, hm, hN⟩ := hA.head
  have hp := hh.1; have hq := hh.2; unfold Ar.n at hq
  obtain ⟨nb, rfl, hr, hnb, hfn, hNx⟩ := hN (by omega)
  obtain ⟨kv, av, F, -, -⟩ := hNx h hh
  have c1 := F.c1
  have f1 := hfn ((h.toNat - 1) * 13 + 1)
  by_cases hp0 : (A.get h).parent = 0
  · have hfin : A.cut h = A := by unfold Ar.cut; rw [if_pos hp0]
    rw [hfin]
    rw [hp0] at c1
    clear hfin hp0 F hNx hN hfn hL
    go_enter Tryz.func47, Tryz.ntmps47
    go_wp2_with fail
    refine (at_any b nb _ c h _ h0 hp hq hm).mono ?_
    rintro e w2 ⟨rfl, rfl⟩
    go_wp2
    refine bodyPost_ret (results_none rfl _ _ _) rfl ?_
    exact ⟨⟨rfl, ρ, hA, Turn.refl _ _⟩, rfl⟩
  · obtain ⟨hhp, hmem, hnd⟩ := hL hp0
    have hk1 : ((A.get h).parent == 0) = false := by simp [hp0]
    have hpp := hhp.1; have hpq := hhp.2; unfold Ar.n at hpq
    obtain ⟨kvp, avp, Fp, hKp, hAp⟩ := hNx _ hhp
    obtain ⟨i, hi1, hi2, hi3, hi4⟩ := findI_mem hmem
    have hfin : A.cut h = (A.mod (A.get h).parent (fun x => { x with kids := without x.kids h })).mod h (fun x => { x with parent := 0 }) := by unfold Ar.cut; rw [if_neg hp0]
    have herase := erase_without hnd hi3
    rw [hfin]
    have e2 := Fp.c2
    have fp2 := hfn (((A.get h).parent.toNat - 1) * 13 + 2)
    generalize hpar : (A.get h).parent = p at *
    have hdel := Delete_own ρ (2 * (p.toNat - 1) + 4) kvp (A.get p).kids i w hKp hi2
    have hidx := Index_any kvp (A.get p).kids h w hKp.reads
    rw [hi1] at hidx
    generalize hoh : (h.toNat - 1) * 13 = oh at *
    generalize hop : (p.toNat - 1) * 13 = op at *
    have HDEL := Lib.hid hdel
    have HIDX := Lib.hid hidx
    have HOH := Lib.hid hoh
    have HOP := Lib.hid hop
    have HPAR := Lib.hid hpar
    have HER := Lib.hid herase
    have hi64 : (i : Int) < 9223372036854775807 := by
      have hlen := hKp.reads.2
      obtain ⟨_, _, _, q1, q2, _⟩ := hlen
      unfold maxLen at q2; omega
    clear hdel hidx hoh hop hpar hfin hi1 hi3 hi4 hmem hnd herase hp0 F Fp hNx hN hL
    go_enter Tryz.func47, Tryz.ntmps47
    go_wp2_with fail
    refine (at_any b nb _ c h _ h0 hp hq hm).mono ?_
    rintro e w2 ⟨rfl, rfl⟩
    rw [HOH.out]
    go_wp2_with fail
    refine (at_any b nb _ c p _ h0 hpp hpq hm).mono ?_
    rintro e w2 ⟨rfl, rfl⟩
    rw [HOP.out]
    go_wp2_with fail
    refine HIDX.out.mono ?_
    rintro e w2 ⟨rfl, rfl⟩
    go_wp2_with fail
    refine HDEL.out.mono ?_
    rintro e w2 ⟨g, cc, hkv, rfl, hU, hown⟩
    have g1 : w2.cell? ⟨nb, oh + 1, none⟩ = some (.int .i64 p) := hU.cell c1 (by dsimp only; omega)
    have g2 : w2.cell? ⟨nb, op + 2, none⟩ = some kvp := hU.cell e2 (by dsimp only; omega)
    have gf1 : w2.frozen? ⟨nb, oh + 1, none⟩ = false := hU.free hnb f1 (by dsimp only; omega)
    have gf2 : w2.frozen? ⟨nb, op + 2, none⟩ = false := hU.free hnb fp2 (by dsimp only; omega)
    have hlen : ((A.get p).kids.eraseIdx i).length = (A.get p).kids.length - 1 := by simp [List.length_eraseIdx, hi2]
    have HE1 : AMem (w2.setCell ⟨nb, (p.toNat - 1) * 13 + 2, none⟩ (.slice (some ⟨g, 0, none⟩) ((A.get p).kids.length - 1) cc)) ρ b (A.mod p (fun x => { x with kids := without x.kids h })) := by
      refine hA.store hhp h0 (hU.mono (fun k _ hk => .inl hk)) (fun _ _ => rfl) (fun k hk => Nat.lt_of_lt_of_le (hA.1 k hk) hU.size) (j := 2) (by omega) (fun kv av hk ha _ _ => ⟨_, av, rfl, ?_, ?_⟩)
      · dsimp only
        rw [← HER.out]
        rw [← hlen] at hown ⊢
        exact hown
      · exact ha.upd hU (fun k hk => by omega)
    have hT1 : Turn ρ ρ w (w2.setCell ⟨nb, (p.toNat - 1) * 13 + 2, none⟩ (.slice (some ⟨g, 0, none⟩) ((A.get p).kids.length - 1) cc)) := by
      have t1 : Turn ρ ρ w w2 := ⟨hU.mono (fun k _ hk => by omega), fun _ _ => rfl⟩
      exact t1.trans (Turn.set (by dsimp only; omega) _)
    have hh1 : (A.mod p (fun x => { x with kids := without x.kids h })).has h := by
      unfold Ar.has Ar.n Ar.mod at *; simpa using hh
    obtain ⟨a3, c3, mv3, h03, -, -, -, -, hN3⟩ := HE1.head
    obtain ⟨nb3, rfl, hr3, -, -, -⟩ := hN3 (by unfold Ar.mod; simp; omega)
    have hc3 : (w2.setCell ⟨nb, (p.toNat - 1) * 13 + 2, none⟩ (.slice (some ⟨g, 0, none⟩) ((A.get p).kids.length - 1) cc)).cell? ⟨b, 0, none⟩ = some (.slice (some ⟨nb, 0, none⟩) A.ns.length c) := by
      have hbn : b ≠ nb := by intro e; subst e; have := hA.2.1; omega
      rw [World.cell?_setCell_other w2 ⟨nb, (p.toNat - 1) * 13 + 2, none⟩ ⟨b, 0, none⟩ _ (fun e => hbn (congrArg Addr.block e).symm)]
      exact hU.cell h0 (by have := hA.2.1; dsimp only; omega)
    rw [hc3] at h03
    simp at h03
    obtain ⟨rfl, hl3, rfl⟩ := h03
    have HE2 := HE1.field (x := h) (f := fun x => { x with parent := 0 }) (j := 1) (v := .int .i64 0) (nb := nb) (c := c) hh1 (by rw [hc3]; simp [Ar.mod]) HOH.out.symm (by omega) (fun _ _ => rfl) rfl rfl
    have hT2 := hT1.trans (Turn.set (ρ := ρ) (a := ⟨nb, oh + 1, none⟩) (by dsimp only; omega) (.int .i64 0))
    rw [HOP.out] at HE2 hT2
    have HE := Lib.hid (And.intro HE2 hT2)
    have hhead : ((w2.setCell ⟨nb, op + 2, none⟩ (.slice (some ⟨g, 0, none⟩) ((A.get p).kids.length - 1) cc)).setCell ⟨nb, oh + 1, none⟩ (.int .i64 0)).cell? ⟨b, 0, none⟩ = w.cell? ⟨b, 0, none⟩ := by
      have hbn : b ≠ nb := by intro e; subst e; have := hA.2.1; omega
      rw [World.cell?_setCell_other _ ⟨nb, oh + 1, none⟩ ⟨b, 0, none⟩ _ (fun e => hbn (congrArg Addr.block e).symm), ← HOP.out, hc3, h0]
    have HHEAD := Lib.hid hhead
    clear hhead
    clear HE1 HE2 hT1 hT2 hown hc3 hl3 hlen hkv
    have hne : op + 2 ≠ oh + 1 := by have := HOH.out; have := HOP.out; omega
    have q1 : (w2.setCell ⟨nb, op + 2, none⟩ (.slice (some ⟨g, 0, none⟩) ((A.get p).kids.length - 1) cc)).cell? ⟨nb, oh + 1, none⟩ = some (.int .i64 p) := by
      rw [World.cell?_setCell_other w2 ⟨nb, op + 2, none⟩ ⟨nb, oh + 1, none⟩ _ (fun e => hne (congrArg Addr.off e))]
      exact g1
    clear hne
    go_wp2
    go_end0
    exact ⟨⟨rfl, ρ, HE.out.1, HE.out.2⟩, HHEAD.out⟩

end Go.Proofs.YtnfdcfagdidmhaaGreatDoor
