/-
  Contracts of the program's arena: spaces, the search for an attribute, once.
-/
import Derived.Test.YtnfdcfagdidmhaaP2
namespace Go.Proofs.Ytnfdcfagdidmhaa
open Go.RowKit

theorem spaces_any (v : Value) (l : List Int) (w : World) (hv : RInts w v l) :
    Calls Try.prog 71 #[v] w fun e w' => e = .returned (.bool (decide (∀ s ∈ l, inSpaces s))) ∧ w = w' := by
  obtain ⟨av, cv, rfl, hc1, hc2, hc3⟩ := hv.form
  go_enter Try.func71, Try.ntmps71
  go_wp2
  go_loop [7] (fun i => ∃ k : Nat, k ≤ l.length ∧ i = .int .i64 k ∧ Hid (∀ j, j < k → inSpaces (l[j]?.getD 0))) (fun i => l.length - (intOf i).toNat)
  case atStart => exact ⟨0, Nat.zero_le _, rfl, fun j hj => by omega⟩
  case round =>
    obtain ⟨k, hk, rfl, hT⟩ := hrel
    by_cases hlt : k < l.length
    · obtain ⟨b1, o1, rfl, hcs⟩ := hc3 (by omega)
      have hck := hcs k hlt
      clear hc3 hcs
      generalize hx : l[k]?.getD 0 = x at hck
      have HX := Lib.hid hx
      clear hx
      have hno : ¬ inSpaces x → ¬ ∀ s ∈ l, inSpaces s := fun h hall => h (by rw [← HX.out]; simp only [List.getElem?_eq_getElem hlt, Option.getD_some]; exact hall _ (List.getElem_mem hlt))
      have HNO := Lib.hid hno
      clear hno
      by_cases h1 : x < 0
      · go_wp2
        go_ret
        exact ⟨ret_bool (decide_eq_false (HNO.out (fun h => by have := h.1; omega))).symm, rfl⟩
      · by_cases h2 : 7 < x
        · go_wp2
          go_ret
          exact ⟨ret_bool (decide_eq_false (HNO.out (fun h => by have := h.2; omega))).symm, rfl⟩
        · have h3 : 0 ≤ x := by omega
          have h4 : x ≤ 7 := by omega
          clear h1 h2
          go_wp2
          go_round
          case rel => exact ⟨k + 1, hlt, by go_num, fun j hj => by
            by_cases hjk : j < k
            · exact hT.out j hjk
            · have : j = k := by omega
              rw [this, HX.out]; exact ⟨h3, h4⟩⟩
          case measure => simp [intOf]; omega
    · go_wp2
      go_ret
      refine ⟨ret_bool (decide_eq_true ?_).symm, rfl⟩
      intro h hh
      obtain ⟨j, hj, rfl⟩ := List.getElem_of_mem hh
      have := hT.out j (by omega)
      simpa [hj] using this

def attrV (a : AttrD) : Value := .agg #[.int .i64 a.1, .string a.2.1, .string a.2.2]

/-- The closure of 'once': does the attribute y bear the name of x? -/
theorem once1_any (xb : Nat) (x y : AttrD) (w : World) (h0 : w.cell? ⟨xb, 0, none⟩ = some (.int .i64 x.1)) (h1 : w.cell? ⟨xb, 1, none⟩ = some (.string x.2.1)) :
    Calls Try.prog 123 #[attrV y, .pointer (some ⟨xb, 0, none⟩)] w fun e w' => e = .returned (.bool (sameName x y)) ∧ Below w.heap.size w w' := by
  obtain ⟨ys, yn, yv⟩ := y
  have hlt := World.block_lt_of_cell? w _ h0
  unfold attrV
  by_cases e1 : x.1 = ys
  · have he : (x.1 == ys) = true := by simp [e1]
    have hfin : sameName x (ys, yn, yv) = (x.2.1.toList == yn.toList) := by rw [str_beq]; simp [sameName, e1]
    have Hfin := Lib.hid hfin
    clear hfin e1
    go_enter Try.func123, Try.ntmps123
    go_wp2
    go_ret
    exact ⟨ret_bool Hfin.out.symm, below_alloc _ _⟩
  · have he : (x.1 == ys) = false := by simp [e1]
    have hfin : sameName x (ys, yn, yv) = false := by simp [sameName, e1]
    have Hfin := Lib.hid hfin
    clear hfin e1
    go_enter Try.func123, Try.ntmps123
    go_wp2
    go_ret
    exact ⟨ret_bool Hfin.out.symm, below_alloc _ _⟩

/-- The index of the first that fits, or -1. -/
def findI {α : Type} (p : α → Bool) (l : List α) : Int := match l.findIdx? p with | some i => (i : Int) | none => -1

theorem findI_hit {α : Type} {p : α → Bool} {l : List α} {k : Nat} {x : α} (hx : l[k]? = some x) (hp : p x = true) (hno : ∀ j y, j < k → l[j]? = some y → p y = false) : findI p l = k := by
  have hk : k < l.length := (List.getElem?_eq_some_iff.1 hx).1
  have : l.findIdx? p = some k := by
    rw [List.findIdx?_eq_some_iff_getElem]
    refine ⟨hk, ?_, fun j hj => ?_⟩
    · have := (List.getElem?_eq_some_iff.1 hx).2; rw [this]; exact hp
    · simp [hno j _ hj (List.getElem?_eq_getElem (by omega))]
  simp [findI, this]
theorem findI_none {α : Type} {p : α → Bool} {l : List α} (hno : ∀ (j : Nat) (y : α), l[j]? = some y → p y = false) : findI p l = -1 := by
  have : l.findIdx? p = none := by
    rw [List.findIdx?_eq_none_iff]
    intro x hx
    obtain ⟨j, hj, rfl⟩ := List.getElem_of_mem hx
    simp [hno j _ (List.getElem?_eq_getElem hj)]
  simp [findI, this]
theorem findI_any {α : Type} (p : α → Bool) (l : List α) : decide (0 ≤ findI p l) = l.any p := by
  unfold findI
  cases h : l.findIdx? p with
  | none => rw [List.findIdx?_eq_none_iff] at h; simp; intro x hx; simpa using h x hx
  | some i => rw [List.findIdx?_eq_some_iff_getElem] at h; obtain ⟨hi, hp, _⟩ := h; simp; exact ⟨_, List.getElem_mem hi, hp⟩

set_option maxHeartbeats 400000 in
theorem IndexFunc_any (v : Value) (l : List AttrD) (xb : Nat) (x : AttrD) (w : World) (hv : RAttrs w v l) (h0 : w.cell? ⟨xb, 0, none⟩ = some (.int .i64 x.1)) (h1 : w.cell? ⟨xb, 1, none⟩ = some (.string x.2.1)) :
    Calls Try.prog 135 #[v, .func (.func 123) #[] #[.pointer (some ⟨xb, 0, none⟩)]] w fun e w' => e = .returned (.int .i64 (findI (sameName x) l)) ∧ Below w.heap.size w w' := by
  obtain ⟨av, cv, rfl, hc1, hc2, hc3⟩ := hv.form
  go_enter Try.func135, Try.ntmps135
  go_wp2
  go_loopw [8] (fun i wr => ∃ k : Nat, k ≤ l.length ∧ i = .int .i64 k ∧ Hid (∀ j y, j < k → l[j]? = some y → sameName x y = false) ∧ Below w.heap.size w wr) (fun i _ => l.length - (intOf i).toNat)
  case atStart => exact ⟨0, Nat.zero_le _, rfl, fun j y hj => by omega, Below.refl _ _⟩
  case round =>
    obtain ⟨k, hk, rfl, hT, hB⟩ := hrel
    by_cases hlt : k < l.length
    · obtain ⟨b1, o1, rfl, hcs⟩ := hc3 (by omega)
      obtain ⟨y, hy⟩ : ∃ y, l[k]? = some y := ⟨_, List.getElem?_eq_getElem hlt⟩
      obtain ⟨d0, d1, d2⟩ := hcs k y hy
      have d0 := Below.old hB d0
      have d1 := Below.old hB d1
      have d2 := Below.old hB d2
      have g0 := Below.old hB h0
      have g1 := Below.old hB h1
      have HY := Lib.hid hy
      clear hc3 hcs hy
      cases hp : sameName x y with
      | true =>
        have HP := Lib.hid hp
        clear hp
        go_wp2_with fail
        refine (once1_any xb x y _ g0 g1).mono ?_
        rintro e w1 ⟨rfl, hB1⟩
        rw [HP.out]
        go_wp2
        go_ret
        exact ⟨ret_int (findI_hit HY.out HP.out hT.out).symm, Below.from0 hB hB1⟩
      | false =>
        have HP := Lib.hid hp
        clear hp
        go_wp2_with fail
        refine (once1_any xb x y _ g0 g1).mono ?_
        rintro e w1 ⟨rfl, hB1⟩
        rw [HP.out]
        go_wp2
        go_roundw
        case rel => exact ⟨k + 1, hlt, by go_num, fun j z hj hz => by
          by_cases hjk : j < k
          · exact hT.out j z hjk hz
          · have hjk : j = k := by omega
            rw [hjk, HY.out] at hz; cases hz; exact HP.out, Below.from0 hB hB1⟩
        case measure => simp [intOf]; omega
    · go_wp2
      go_ret
      exact ⟨ret_int (findI_none (fun j y hj => hT.out j y (by have := (List.getElem?_eq_some_iff.1 hj).1; omega) hj)).symm, hB⟩

theorem ContainsFunc_any (v : Value) (l : List AttrD) (xb : Nat) (x : AttrD) (w : World) (hv : RAttrs w v l) (h0 : w.cell? ⟨xb, 0, none⟩ = some (.int .i64 x.1)) (h1 : w.cell? ⟨xb, 1, none⟩ = some (.string x.2.1)) :
    Calls Try.prog 122 #[v, .func (.func 123) #[] #[.pointer (some ⟨xb, 0, none⟩)]] w fun e w' => e = .returned (.bool (l.any (sameName x))) ∧ Below w.heap.size w w' := by
  go_enter Try.func122, Try.ntmps122
  go_wp2_with fail
  refine (IndexFunc_any v l xb x w hv h0 h1).mono ?_
  rintro e w1 ⟨rfl, hB1⟩
  go_wp2
  go_ret
  exact ⟨ret_bool (findI_any _ _), hB1⟩

end Go.Proofs.Ytnfdcfagdidmhaa
