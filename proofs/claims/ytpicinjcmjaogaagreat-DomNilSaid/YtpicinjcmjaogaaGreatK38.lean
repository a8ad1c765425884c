/-
  Parts: DW, D22, DX.
-/
import Derived.Test.YtpicinjcmjaogaaGreatK36
import Derived.Test.YtpicinjcmjaogaaGreatK37

/- Layer 5 as plain data: what holds behind operations, one after another. No program here. -/
namespace Go.Proofs.YtpicinjcmjaogaaGreat
set_option linter.unusedVariables false

def isCp (x : OpD) : Bool := decide (x.kind = 31 ∨ x.kind = 32)
def cpN (l : List OpD) : Nat := (l.filter isCp).length
def ncN (l : List OpD) : Nat := (l.filter (fun x => !isCp x)).length
theorem cp_nc (l : List OpD) : cpN l + ncN l = l.length := by
  unfold cpN ncN
  induction l with
  | nil => rfl
  | cons x l ih => cases h : isCp x <;> simp [h] <;> omega
theorem cpN_cons (x : OpD) (l : List OpD) : cpN (x :: l) = cpN l + (if isCp x = true then 1 else 0) := by
  unfold cpN; cases h : isCp x <;> simp [h]
theorem ncN_cons (x : OpD) (l : List OpD) : ncN (x :: l) = ncN l + (if isCp x = true then 0 else 1) := by
  unfold ncN; cases h : isCp x <;> simp [h]
theorem cpN_app (l m : List OpD) : cpN (l ++ m) = cpN l + cpN m := by unfold cpN; simp
theorem cpN_take (l : List OpD) (k : Nat) : cpN (l.take k) ≤ cpN l := by
  have := cpN_app (l.take k) (l.drop k)
  rw [List.take_append_drop] at this
  omega

/-- The bounds of the mass, and of mass and gain. -/
def uv : Nat → Nat × Nat
  | 0 => (0, 0)
  | n + 1 => (max ((uv n).1 + 400) (uv n).2, max (uv n).2 (2 * (uv n).1 + 800))
theorem uv_succ (n : Nat) : (uv (n + 1)).1 = max ((uv n).1 + 400) (uv n).2 ∧ (uv (n + 1)).2 = max (uv n).2 (2 * (uv n).1 + 800) := ⟨rfl, rfl⟩
theorem uv_mono : ∀ {n m : Nat}, n ≤ m → (uv n).1 ≤ (uv m).1 := by
  intro n m h
  induction m with
  | zero => rw [Nat.le_zero.1 h]; exact Nat.le_refl _
  | succ m ih =>
    rcases Nat.lt_or_ge n (m + 1) with q | q
    · have := ih (by omega)
      have := (uv_succ m).1
      omega
    · rw [show n = m + 1 by omega]; exact Nat.le_refl _
def wv : Nat → Nat
  | 0 => 0
  | n + 1 => max (wv n) ((uv n).1 + 400)
theorem wv_mono : ∀ {n m : Nat}, n ≤ m → wv n ≤ wv m := by
  intro n m h
  induction m with
  | zero => rw [Nat.le_zero.1 h]; exact Nat.le_refl _
  | succ m ih =>
    rcases Nat.lt_or_ge n (m + 1) with q | q
    · exact Nat.le_trans (ih (by omega)) (Nat.le_max_left _ _)
    · rw [show n = m + 1 by omega]; exact Nat.le_refl _
theorem pow_pos' (c : Nat) : 1 ≤ 2 ^ c := Nat.one_le_two_pow

theorem fold5 : ∀ (l : List OpD) {A : Ar} {t c n : Nat}, A.Inv → A.Thin t → 20 ≤ t → t + l.length ≤ 900 → (∀ x ∈ l, smallOp x) → A.mass ≤ 2 ^ c * (uv n).1 → A.mass + A.gain ≤ 2 ^ c * (uv n).2 → tot fK A ≤ 2 ^ c * wv n →
    (l.foldl (fun A x => (A.step5 x).2) A).Inv ∧ (l.foldl (fun A x => (A.step5 x).2) A).Thin (t + l.length) ∧ (l.foldl (fun A x => (A.step5 x).2) A).ns.length + 1 ≤ 2 ^ cpN l * (A.ns.length + 1 + 3 * ncN l) ∧
    (l.foldl (fun A x => (A.step5 x).2) A).mass ≤ 2 ^ (c + cpN l) * (uv (n + ncN l)).1 ∧ (l.foldl (fun A x => (A.step5 x).2) A).mass + (l.foldl (fun A x => (A.step5 x).2) A).gain ≤ 2 ^ (c + cpN l) * (uv (n + ncN l)).2 ∧ tot fK (l.foldl (fun A x => (A.step5 x).2) A) ≤ 2 ^ (c + cpN l) * wv (n + ncN l)
  | [], A, t, c, n, hI, hT, ht, hl, hx, hm, hf, hA => ⟨hI, hT, by simp [cpN, ncN], hm, hf, hA⟩
  | x :: l, A, t, c, n, hI, hT, ht, hl, hx, hm, hf, hA => by
    have hxs := hx x (by simp)
    have hl' : t + 1 + l.length ≤ 900 := by simp at hl; omega
    obtain ⟨f1, f2⟩ := step5_facts hI (hT.mono (by omega)) x hxs.2.2.2.1
    have f3 := thin_step5 hT x (Nat.le_trans hxs.2.2.2.1 ht)
    obtain ⟨m1, m2, m3⟩ := step5_mass hI hxs
    have g := gain_le f1
    have gk := fK_mass f1
    obtain ⟨k1, k2⟩ := step5_fK hI x
    rw [List.foldl_cons, cpN_cons, ncN_cons]
    have ht' : t + (x :: l).length = t + 1 + l.length := by simp; omega
    rw [ht']
    have hx' : ∀ y ∈ l, smallOp y := fun y hy => hx y (by simp [hy])
    by_cases hc : x.kind = 31 ∨ x.kind = 32
    · have hcp : isCp x = true := decide_eq_true hc
      rw [if_pos hc] at f2
      obtain ⟨n1, n2⟩ := m2 hc
      have e : 2 ^ (c + 1) = 2 * 2 ^ c := by rw [Nat.pow_succ]; omega
      have q := fold5 l (c := c + 1) (n := n) f1 f3 (by omega) hl' hx' (by rw [e, Nat.mul_assoc]; omega) (by rw [e, Nat.mul_assoc]; omega) (by rw [e, Nat.mul_assoc]; have := k2 hc; omega)
      rw [if_pos hcp, if_pos hcp]
      obtain ⟨q1, q2, q3, q4, q5, q6⟩ := q
      refine ⟨q1, q2, ?_, by rw [show c + (cpN l + 1) = c + 1 + cpN l by omega]; exact q4, by rw [show c + (cpN l + 1) = c + 1 + cpN l by omega]; exact q5, by rw [show c + (cpN l + 1) = c + 1 + cpN l by omega]; exact q6⟩
      refine Nat.le_trans q3 ?_
      rw [Nat.pow_succ, Nat.mul_assoc]
      exact Nat.mul_le_mul_left _ (by omega)
    · have hcp : ¬ isCp x = true := by unfold isCp; simpa using hc
      rw [if_neg hc] at f2
      rw [if_neg hcp, if_neg hcp]
      have hP := pow_pos' c
      have e1 := uv_succ n
      have key : (A.step5 x).2.mass ≤ 2 ^ c * (uv (n + 1)).1 ∧ (A.step5 x).2.mass + (A.step5 x).2.gain ≤ 2 ^ c * (uv (n + 1)).2 := by
        rw [e1.1, e1.2]
        by_cases h34 : x.kind = 34
        · have := m1 h34
          have a1 : 2 ^ c * (uv n).2 ≤ 2 ^ c * max ((uv n).1 + 400) (uv n).2 := Nat.mul_le_mul_left _ (by omega)
          have a2 : 2 ^ c * (uv n).2 ≤ 2 ^ c * max (uv n).2 (2 * (uv n).1 + 800) := Nat.mul_le_mul_left _ (by omega)
          omega
        · have := m3 h34 hc
          have a1 : 2 ^ c * ((uv n).1 + 400) ≤ 2 ^ c * max ((uv n).1 + 400) (uv n).2 := Nat.mul_le_mul_left _ (by omega)
          have a0 : 2 * ((uv n).1 + 400) ≤ max (uv n).2 (2 * (uv n).1 + 800) := Nat.le_trans (by rw [Nat.mul_add]; exact Nat.le_refl _) (Nat.le_max_right _ _)
          have a2 := Nat.mul_le_mul_left (2 ^ c) a0
          rw [Nat.mul_left_comm] at a2
          rw [Nat.mul_add] at a1 a2
          have a3 : 400 ≤ 2 ^ c * 400 := Nat.le_mul_of_pos_left _ hP
          omega
      have keyA : tot fK (A.step5 x).2 ≤ 2 ^ c * wv (n + 1) := by
        by_cases h34 : x.kind = 34
        · exact Nat.le_trans (k1 h34) (Nat.le_trans hA (Nat.mul_le_mul_left _ (Nat.le_max_left _ _)))
        · have := m3 h34 hc
          have a1 : 2 ^ c * ((uv n).1 + 400) ≤ 2 ^ c * wv (n + 1) := Nat.mul_le_mul_left _ (Nat.le_max_right _ _)
          rw [Nat.mul_add] at a1
          have a3 : 400 ≤ 2 ^ c * 400 := Nat.le_mul_of_pos_left _ hP
          omega
      obtain ⟨q1, q2, q3, q4, q5, q6⟩ := fold5 l (c := c) (n := n + 1) f1 f3 (by omega) hl' hx' key.1 key.2 keyA
      refine ⟨q1, q2, ?_, by rw [show n + (ncN l + 1) = n + 1 + ncN l by omega]; exact q4, by rw [show n + (ncN l + 1) = n + 1 + ncN l by omega]; exact q5, by rw [show n + (ncN l + 1) = n + 1 + ncN l by omega]; exact q6⟩
      refine Nat.le_trans q3 (Nat.mul_le_mul_left _ (by omega))

/-- What the statements ask of the operations. -/
def small5 (l : List OpD) (most : Int) : Prop := smallOps l most ∧ cpN l ≤ 8
instance (l : List OpD) (most : Int) : Decidable (small5 l most) := inferInstanceAs (Decidable (_ ∧ _))

theorem wv_99 : ∀ c : Nat, c < 9 → 2 ^ c * wv (99 - c) ≤ 9223372036854775807 := by decide +kernel
theorem run5_len {c n : Nat} (h : c + n ≤ 100) (hc : c ≤ 8) : 2 ^ c * (0 + 1 + 3 * n) ≤ 70912 := by
  have h1 : 2 ^ c * (0 + 1 + 3 * n) ≤ 2 ^ c * (301 - 3 * c) := Nat.mul_le_mul_left _ (by omega)
  have h2 : ∀ c : Nat, c < 9 → 2 ^ c * (301 - 3 * c) ≤ 70912 := by decide +kernel
  exact Nat.le_trans h1 (h2 c (by omega))
/-- Behind at most 100 operations, but for the bytes. -/
theorem run5_facts {l : List OpD} (hl : l.length ≤ 100) (hx : ∀ x ∈ l, smallOp x) (hc : cpN l ≤ 8) : (runL5 l).Inv ∧ (runL5 l).Thin 200 ∧ (runL5 l).ns.length + 10 ≤ 100000 := by
  obtain ⟨q1, q2, q3, -, -, -⟩ := fold5 l (A := Ar.new) (t := 20) (c := 0) (n := 0) inv_new (thin_new _) (by omega) (by omega) hx (Nat.le_refl _) (Nat.le_refl _) (Nat.le_refl _)
  have e := cp_nc l
  have h := run5_len (c := cpN l) (n := ncN l) (by omega) hc
  have q3' : (runL5 l).ns.length + 1 ≤ 2 ^ cpN l * (0 + 1 + 3 * ncN l) := q3
  exact ⟨q1, q2.mono (by omega), by omega⟩
theorem run5_mass {l : List OpD} (hl : l.length ≤ 100) (hx : ∀ x ∈ l, smallOp x) (hc : cpN l ≤ 8) : ∀ y, (runL5 l).has y → (runL5 l).kidsTx y ≤ 9223372036854775807 := by
  cases l with
  | nil => exact fun y hy => absurd hy (no_new_has y)
  | cons x l =>
    have h1 := first_mass (hx x (by simp))
    obtain ⟨f1, f2⟩ := step5_facts inv_new (thin_new 900) x (hx x (by simp)).2.2.2.1
    have g := gain_le f1
    have gk := fK_mass f1
    have f3 := thin_step5 (thin_new 20) x (hx x (by simp)).2.2.2.1
    obtain ⟨-, -, -, -, -, q4⟩ := fold5 l (A := (Ar.new.step5 x).2) (t := 21) (c := 0) (n := 0) f1 f3 (by omega) (by simp at hl; omega) (fun y hy => hx y (by simp [hy])) (by omega) (by omega) (by omega)
    have e := cp_nc l
    rw [cpN_cons] at hc
    have hcl : cpN l < 9 := by split at hc <;> omega
    intro y hy
    refine Nat.le_trans (fK_one hy) (Nat.le_trans q4 (Nat.le_trans ?_ (wv_99 (cpN l) hcl)))
    rw [Nat.zero_add, Nat.zero_add]
    exact Nat.mul_le_mul_left _ (wv_mono (by simp at hl; omega))
theorem small5_get {l : List OpD} {m : Int} (h : small5 l m) (hm : m ≤ 100) : l.length ≤ 100 ∧ (∀ x ∈ l, smallOp x) ∧ cpN l ≤ 8 := ⟨by have := h.1.1; omega, h.1.2, h.2⟩
theorem run5_take {l : List OpD} {m : Int} (h : small5 l m) (hm : m ≤ 100) {k : Nat} (hk : k ≤ l.length) : (runL5 (l.take k)).Inv ∧ (runL5 (l.take k)).Thin 200 ∧ (runL5 (l.take k)).ns.length + 10 ≤ 100000 ∧ (∀ y, (runL5 (l.take k)).has y → (runL5 (l.take k)).kidsTx y ≤ 9223372036854775807) := by
  obtain ⟨h1, h2, h3⟩ := small5_get h hm
  have c := Nat.le_trans (cpN_take l k) h3
  obtain ⟨q1, q2, q3⟩ := run5_facts (l := l.take k) (by simp; omega) (fun x hx => h2 x (List.mem_of_mem_take hx)) c
  exact ⟨q1, q2, q3, run5_mass (by simp; omega) (fun x hx => h2 x (List.mem_of_mem_take hx)) c⟩
theorem run5_snoc {l : List OpD} {k : Nat} {x : OpD} (hx : l[k]? = some x) : runL5 (l.take (k + 1)) = ((runL5 (l.take k)).step5 x).2 := by
  unfold runL5
  rw [List.take_add_one, hx, List.foldl_append]; rfl

end Go.Proofs.YtpicinjcmjaogaaGreat

/- The operations of layer 5: Small, Run. -/
namespace Go.Proofs.YtpicinjcmjaogaaGreat
open Go.RowKit Go.Shelf
set_option linter.unusedVariables false

attribute [local go_sem] Oper.semAt_some

theorem cp_take_le (l : List OpD) (k : Nat) : cpN (l.take k) ≤ k := by
  have h := cp_nc (l.take k)
  have : (l.take k).length ≤ k := by simp; omega
  omega
theorem cp_take {l : List OpD} {k : Nat} {x : OpD} (hx : l[k]? = some x) : cpN (l.take (k + 1)) = cpN (l.take k) + (if isCp x = true then 1 else 0) := by
  rw [List.take_add_one, hx, cpN_app]
  show _ + cpN [x] = _
  rw [cpN_cons]; simp [cpN]

set_option maxRecDepth 100000 in
set_option maxHeartbeats 2000000 in
theorem Small5_any (v : Value) (l : List OpD) (most : Int) (w : World) (hv : ROps w v l) :
    Calls Tryz.prog 31 #[v, .int .i64 most] w fun e w' => e = .returned (.bool (decide (small5 l most))) ∧ Below w.heap.size w w' := by
  have HSM := Lib.hid (fun (W : World) (hb : Below w.heap.size w W) => Small_any v l most W (hv.below hb))
  obtain ⟨av, cv, rfl, hc1, hc2, hc3⟩ := id hv
  have HF : Hid (∀ k : Nat, k ≤ l.length → (k < l.length → most < k) → (cpN (l.take k) ≤ 8 → decide (smallOps l most) = decide (small5 l most)) ∧ (¬ cpN (l.take k) ≤ 8 → false = decide (small5 l most))) := Lib.hid (by
    intro k h1 h2
    have hcase : k = l.length ∨ ¬ smallOps l most := by
      rcases Nat.lt_or_ge k l.length with q | q
      · exact .inr (fun h => by have := h.1; have := h2 q; omega)
      · exact .inl (by omega)
    refine ⟨fun h => decide_eq_decide.2 ⟨fun hs => ⟨hs, ?_⟩, fun h => h.1⟩, fun h => (decide_eq_false (fun hs => ?_)).symm⟩
    · rcases hcase with rfl | q
      · rwa [List.take_length] at h
      · exact absurd hs q
    · exact h (Nat.le_trans (cpN_take l k) hs.2))
  go_enter Tryz.func31, Tryz.ntmps31
  go_wp2
  go_loopw [5, 6] (fun cnt i wr => ∃ k : Nat, k ≤ l.length ∧ i = .int .i64 k ∧ cnt = .int .i64 (cpN (l.take k) : Nat) ∧ Below w.heap.size w wr) (fun _ i _ => l.length - (intOf i).toNat)
  case atStart => exact ⟨0, Nat.zero_le _, rfl, rfl, Below.refl _ _⟩
  case round =>
    obtain ⟨k, hk, rfl, rfl, hB⟩ := hrel
    have hle := cp_take_le l k
    by_cases hgo : k < l.length ∧ (k : Int) ≤ most
    · obtain ⟨hlt, h20⟩ := hgo
      obtain ⟨b1, o1, rfl, hcs⟩ := hc3 (by omega)
      obtain ⟨x, hx⟩ : ∃ x, l[k]? = some x := ⟨_, List.getElem?_eq_getElem hlt⟩
      obtain ⟨av, F⟩ := hcs k x hx
      have F := F.below hB
      obtain ⟨c0, -⟩ := F.facts
      have HCT := Lib.hid (cp_take hx)
      clear hc3 hcs F hx HSM
      generalize cpN (l.take k) = cnt at *
      by_cases h31 : x.kind = 31
      · have e31 : (x.kind == 31) = true := by simp [h31]
        have HE := Lib.hid (show cpN (l.take (k + 1)) = cnt + 1 by rw [HCT.out, if_pos (show isCp x = true from decide_eq_true (.inl h31))])
        clear h31
        go_wp2
        go_roundw
        case rel => exact ⟨k + 1, hlt, by go_num, by rw [HE.out]; go_num, hB⟩
        case measure => simp [intOf]; omega
      · have e31 : (x.kind == 31) = false := by simp [h31]
        by_cases h32 : x.kind = 32
        · have e32 : (x.kind == 32) = true := by simp [h32]
          have HE := Lib.hid (show cpN (l.take (k + 1)) = cnt + 1 by rw [HCT.out, if_pos (show isCp x = true from decide_eq_true (.inr h32))])
          clear h31 h32
          go_wp2
          go_roundw
          case rel => exact ⟨k + 1, hlt, by go_num, by rw [HE.out]; go_num, hB⟩
          case measure => simp [intOf]; omega
        · have e32 : (x.kind == 32) = false := by simp [h32]
          have HE := Lib.hid (show cpN (l.take (k + 1)) = cnt by rw [HCT.out, if_neg (by unfold isCp; simp [h31, h32])]; rfl)
          clear h31 h32
          go_wp2
          go_roundw
          case rel => exact ⟨k + 1, hlt, by go_num, by rw [HE.out], hB⟩
          case measure => simp [intOf]; omega
    · have hH : k < l.length → most < k := fun h => by
        rcases Nat.lt_or_ge k l.length with q | q
        · have := mt (And.intro q) hgo; omega
        · omega
      obtain ⟨f1, f2⟩ := HF.out k hk hH
      have HC := Lib.hid (HSM.out wr hB)
      have F1 := Lib.hid f1
      have F2 := Lib.hid f2
      clear f1 f2 HSM HF
      generalize cpN (l.take k) = cnt at *
      have fin : ∀ (P : Prop), True → True := fun _ h => h
      by_cases hlt : k < l.length
      · have h20 : ¬ (k : Int) ≤ most := fun h => hgo ⟨hlt, h⟩
        clear hgo hH
        by_cases h8 : cnt ≤ 8
        · have h8' : (cnt : Int) ≤ 8 := by omega
          have FF := Lib.hid (F1.out h8)
          clear h8 F1 F2
          go_wp2_with fail
          refine HC.out.mono ?_
          rintro e w2 ⟨rfl, hB2⟩
          rw [FF.out]
          go_wp2
          go_ret
          exact ⟨rfl, hB.trans (hB2.mono hB.size)⟩
        · have h8' : ¬ (cnt : Int) ≤ 8 := by omega
          have FF := Lib.hid (F2.out h8)
          clear h8 F1 F2
          go_wp2
          go_ret
          exact ⟨ret_bool FF.out, hB⟩
      · clear hgo hH
        by_cases h8 : cnt ≤ 8
        · have h8' : (cnt : Int) ≤ 8 := by omega
          have FF := Lib.hid (F1.out h8)
          clear h8 F1 F2
          go_wp2_with fail
          refine HC.out.mono ?_
          rintro e w2 ⟨rfl, hB2⟩
          rw [FF.out]
          go_wp2
          go_ret
          exact ⟨rfl, hB.trans (hB2.mono hB.size)⟩
        · have h8' : ¬ (cnt : Int) ≤ 8 := by omega
          have FF := Lib.hid (F2.out h8)
          clear h8 F1 F2
          go_wp2
          go_ret
          exact ⟨ret_bool FF.out, hB⟩

set_option maxRecDepth 100000 in
set_option maxHeartbeats 2000000 in
/-- **Run.** -/
theorem Run5_any (v : Value) (l : List OpD) (w : World) (hv : ROps w v l) {m : Int} (hs : small5 l m) (hm : m ≤ 100) :
    Calls Tryz.prog 32 #[v] w fun e w' => e = .returned (.pointer (some ⟨w.heap.size, 0, none⟩)) ∧ Own w w.heap.size [.arena w.heap.size (runL5 l)] w' := by
  obtain ⟨av, cv, rfl, hc1, hc2, hc3⟩ := id hv
  have HN := Lib.hid (New_any w)
  have HT := Lib.hid (fun k (hk : k ≤ l.length) => run5_take hs hm hk)
  have HSM := Lib.hid (small5_get hs hm)
  clear hs hm
  go_enter Tryz.func32, Tryz.ntmps32
  go_wp2_with fail
  refine HN.out.mono ?_
  rintro e w1 ⟨rfl, hw1⟩
  have hO := Lib.hid (Own.start w).newArena
  rw [← hw1] at hO
  clear hw1 HN
  go_wp2
  go_loopw [4] (fun i wr => ∃ k : Nat, k ≤ l.length ∧ i = .int .i64 k ∧ Hid (Own w w.heap.size [.arena w.heap.size (runL5 (l.take k))] wr)) (fun i _ => l.length - (intOf i).toNat)
  case atStart => exact ⟨0, Nat.zero_le _, rfl, hO⟩
  case round =>
    obtain ⟨k, hk, rfl, hT⟩ := hrel
    by_cases hlt : k < l.length
    · obtain ⟨b1, o1, rfl, hcs⟩ := hc3 (by omega)
      obtain ⟨x, hx⟩ : ∃ x, l[k]? = some x := ⟨_, List.getElem?_eq_getElem hlt⟩
      obtain ⟨av, F⟩ := hcs k x hx
      have F := F.below hT.out.low
      obtain ⟨aa, ac, rfl, -⟩ := F.at'.form
      obtain ⟨c0, c1, c2, c3, c4, c5, c6, c7, c8, c9⟩ := F.facts
      obtain ⟨q1, -, q2, q3⟩ := HT.out k hk
      obtain ⟨-, s2, -⟩ := HSM.out
      have hxs := s2 x (List.mem_of_getElem? hx)
      have HC := Lib.hid (Do5_own hT.out q1 q2 (Nat.le_trans hxs.1 (by omega)) F.at' (Nat.le_trans hxs.2.2.2.1 (by omega)) (fun _ => q3))
      have HX := Lib.hid (run5_snoc hx)
      clear hc3 hcs F q1 q2 q3 s2 hxs hx hT
      go_wp2_with fail
      refine HC.out.mono ?_
      rintro e w2 ⟨rfl, hO2⟩
      rw [← HX.out] at hO2
      have HO2 := Lib.hid hO2
      clear hO2
      unfold pairV
      go_wp2
      go_roundw
      case rel => exact ⟨k + 1, hlt, by go_num, HO2⟩
      case measure => simp [intOf]; omega
    · have hO2 := hT.out
      have : k = l.length := by omega
      rw [this, List.take_length] at hO2
      have HO2 := Lib.hid hO2
      clear hO2 hT this
      go_wp2
      go_ret
      exact ⟨rfl, HO2.out⟩
theorem Run5_own {w0 w : World} {B : Nat} {L : List Asrt} (o : Own w0 B L w) (v : Value) (l : List OpD) (hv : ROps w v l) {m : Int} (hs : small5 l m) (hm : m ≤ 100) :
    Calls Tryz.prog 32 #[v] w fun e w' => e = .returned (.pointer (some ⟨w.heap.size, 0, none⟩)) ∧ Own w0 B (.arena w.heap.size (runL5 l) :: L) w' := by
  refine (Run5_any v l w hv hs hm).mono ?_
  rintro e w' ⟨rfl, h⟩
  exact ⟨rfl, o.fresh h.low (h.get (by simp))⟩

end Go.Proofs.YtpicinjcmjaogaaGreat

/- Layer 5 as plain data: a call that returns an error changes nothing. No program here. -/
namespace Go.Proofs.YtpicinjcmjaogaaGreat
open Go.RowKit
set_option linter.unusedVariables false

/-- A call that returns an error changes nothing, and returns no handle. -/
theorem make_err {A : Ar} {d : Int} {n : Nd} (h : (A.make d n).1.2 ≠ 0) : (A.make d n).1.1 = 0 ∧ (A.make d n).2 = A := by
  unfold Ar.make at h ⊢
  split at h
  · rename_i hc; rw [if_pos hc]; exact ⟨rfl, rfl⟩
  · exact absurd rfl h
theorem step_err (A : Ar) (x : OpD) : (A.step x).1.2 ≠ 0 → (A.step x).1.1 = 0 ∧ (A.step x).2 = A := by
  refine step_rec (P := fun R => R.1.2 ≠ 0 → R.1.1 = 0 ∧ R.2 = A) (fun _ h => absurd rfl h) (fun _ => make_err) (fun _ h => ?_) (fun _ => make_err) (fun _ => make_err) (fun _ => make_err) (fun _ h => ?_) (fun _ h => ⟨rfl, put_err h⟩) (fun _ h => ⟨rfl, ?_⟩) (fun _ h => ⟨rfl, ?_⟩) (fun _ h => ⟨rfl, ?_⟩) (fun _ h => ⟨rfl, ?_⟩) (fun _ h => ⟨rfl, ?_⟩) (fun _ h => absurd rfl h)
  · unfold Ar.element at h ⊢
    split at h
    · rename_i hc; rw [if_pos hc]; exact ⟨rfl, rfl⟩
    · rename_i hc
      rw [if_neg hc]
      split at h
      · rename_i hd; rw [if_pos hd]; exact ⟨rfl, rfl⟩
      · dsimp only at h
        split at h <;> exact absurd rfl h
  · unfold Ar.inertCall at h ⊢
    split at h
    · rename_i hc; rw [if_pos hc]; exact ⟨rfl, rfl⟩
    · exact absurd rfl h
  · unfold Ar.cutCall at h ⊢
    split at h
    · exact absurd rfl h
    · rename_i hc; simp only [if_neg hc]
  · unfold Ar.setData at h ⊢
    split at h
    · rename_i hc; simp only [if_pos hc]
    · rename_i hc
      split at h
      · rename_i hd; simp only [if_neg hc, if_pos hd]
      · exact absurd rfl h
  · unfold Ar.setAttrs at h ⊢
    split at h
    · rename_i hc; simp only [if_pos hc]
    · rename_i hc
      split at h
      · rename_i hd; simp only [if_neg hc, if_pos hd]
      · rename_i hd
        split at h
        · rename_i hf; simp only [if_neg hc, if_neg hd, if_pos hf]
        · exact absurd rfl h
  · unfold Ar.setQuirks at h ⊢
    split at h
    · rename_i hc; simp only [if_pos hc]
    · rename_i hc
      split at h
      · rename_i hd; simp only [if_neg hc, if_pos hd]
      · exact absurd rfl h
  · unfold Ar.setDoc at h ⊢
    split at h
    · rename_i hc; simp only [if_pos hc]
    · rename_i hc
      split at h
      · rename_i hd; simp only [if_neg hc, if_pos hd]
      · exact absurd rfl h

theorem setAttrs_err {A : Ar} {h : Int} {l : List AttrD} (q : (A.setAttrs h l).1 ≠ 0) : (A.setAttrs h l).2 = A := by
  unfold Ar.setAttrs at q ⊢
  split at q
  · rename_i hc; rw [if_pos hc]
  · rename_i hc
    rw [if_neg hc]
    split at q
    · rename_i hd; rw [if_pos hd]
    · rename_i hd
      rw [if_neg hd]
      split at q
      · rename_i hf; rw [if_pos hf]
      · exact absurd rfl q
theorem setData_err {A : Ar} {h : Int} {s : ByteArray} (q : (A.setData h s).1 ≠ 0) : (A.setData h s).2 = A := by
  unfold Ar.setData at q ⊢
  split at q
  · rename_i hc; rw [if_pos hc]
  · rename_i hc
    rw [if_neg hc]
    split at q
    · rename_i hd; rw [if_pos hd]
    · exact absurd rfl q
theorem element_err {A : Ar} {d s : Int} {name : ByteArray} {l : List AttrD} (h : (A.element d s name l).1.2 ≠ 0) : (A.element d s name l).1.1 = 0 ∧ (A.element d s name l).2 = A := by
  unfold Ar.element at h ⊢
  split at h
  · rename_i hc; rw [if_pos hc]; exact ⟨rfl, rfl⟩
  · rename_i hc
    rw [if_neg hc]
    split at h
    · rename_i hd; rw [if_pos hd]; exact ⟨rfl, rfl⟩
    · dsimp only at h
      split at h <;> exact absurd rfl h

/-- Putting a text that was just made gives no error. -/
theorem put_text {A : Ar} (hI : A.Inv) {h d : Int} {s : ByteArray} (hh : A.has h) (hk : (A.get h).kind = 4 ∨ (A.get h).kind = 2) (hd : A.has d) (hdk : (A.get d).kind = 1) : ((A.make d (textNd s)).2.put h (A.make d (textNd s)).1.1 0).1 = 0 := by
  have hm := make_zero (A := A) (d := d) (textNd s) (ofDoc_zero hd hdk)
  have hI2 : (A.make d (textNd s)).2.Inv := hI.make rfl rfl rfl rfl (local_text _) (by simp [textNd]) (by simp [textNd])
  rw [hm] at hI2 ⊢
  dsimp only at hI2 ⊢
  have hy : (A.add { textNd s with doc := d }).has (A.n + 1) := (Ar.add_has _ _ _).2 (.inr rfl)
  have gy : (A.add { textNd s with doc := d }).get (A.n + 1) = { textNd s with doc := d } := Ar.add_new _ _
  have hc : (A.add { textNd s with doc := d }).has h := (Ar.add_has _ _ _).2 (.inl hh)
  have gc : (A.add { textNd s with doc := d }).get h = A.get h := Ar.add_old _ hh
  have hct : (A.add { textNd s with doc := d }).contains (A.n + 1) h = false := by
    rw [walk_contains hI2]
    refine decide_eq_false ?_
    rw [walk_eq hI2 hy, gy]
    have hne : h ≠ A.n + 1 := by have := hh.2; omega
    simp [textNd, zeroNd, hne]
  have hal : (A.add { textNd s with doc := d }).allowed h (A.n + 1) 0 ((A.add { textNd s with doc := d }).contains (A.n + 1) h) = 0 := by
    unfold Ar.allowed
    rw [if_neg (fun q => q.elim (fun q => q hc) (fun q => q.elim (fun q => q hy) (fun q => q.1 rfl))), if_neg (fun q => q (by rw [gc]; omega)), if_neg (fun q => q.elim (fun z => by rw [gy] at z; exact absurd (show (5 : Int) = 1 from z) (by decide)) (fun q => q.elim (fun z => by rw [gy] at z; exact absurd (show (5 : Int) = 2 from z) (by decide)) (fun q => by rw [hct] at q; exact absurd q (by decide)))), if_neg (fun q => q.1 rfl)]
  unfold Ar.put
  rw [if_neg (fun q => q hal)]
theorem setText_err {A : Ar} (hI : A.Inv) {h : Int} {s : ByteArray} (q : (A.setText h s).1 ≠ 0) : (A.setText h s).2 = A := by
  unfold Ar.setText at q ⊢
  split at q
  · rename_i hh; rw [if_pos hh]
  · rename_i hh
    rw [if_neg hh]
    have hh := Classical.not_not.1 hh
    split at q
    · rename_i h5; rw [if_pos h5]; exact setData_err q
    · rename_i h5
      rw [if_neg h5]
      split at q
      · rename_i h4
        obtain ⟨e1, e2, e3, e4⟩ := empty_facts hI hh
        have hhE : (A.empty h).has h := by unfold Ar.has; rw [e2]; exact hh
        obtain ⟨d1, d2⟩ := e1.docK h hhE
        split at q
        · exact absurd rfl q
        · exact absurd (put_text e1 hhE (by rw [(e4 h hh).1]; exact h4) d1 d2) q
      · exact absurd rfl q
theorem removeAttr_err {A : Ar} (hI : A.Inv) {el s : Int} {name : ByteArray} (q : (A.removeAttr el s name).1.2 ≠ 0) : (A.removeAttr el s name).1.1 = false ∧ (A.removeAttr el s name).2 = A := by
  unfold Ar.removeAttr at q ⊢
  split at q
  · rename_i hc; rw [if_pos hc]; exact ⟨rfl, rfl⟩
  · rename_i hc
    rw [if_neg hc]
    split at q
    · exact absurd rfl q
    · refine absurd ?_ q
      have hc := Classical.not_not.1 hc
      unfold Ar.attrErr at hc
      by_cases h1 : A.has el
      · rw [if_neg (fun z => z h1)] at hc
        by_cases h2 : (A.get el).kind = 4
        · dsimp only
          unfold Ar.setAttrs
          have hsp : attrSpaces ((A.get el).attrs.eraseIdx (A.attrAt el s name).toNat) := fun a ha => (hI.loc el h1).at1 a (List.mem_of_mem_eraseIdx ha)
          rw [if_neg (fun z => z h1), if_neg (fun z => z h2), if_neg (fun z => z hsp)]
        · rw [if_pos h2] at hc; exact absurd hc (by decide)
      · rw [if_pos h1] at hc; exact absurd hc (by decide)

/-- A call of layer 5 that returns an error changes nothing, and returns no handle. -/
theorem step5_err {A : Ar} (hI : A.Inv) (x : OpD) : (A.step5 x).1.2 ≠ 0 → (A.step5 x).1.1 = 0 ∧ (A.step5 x).2 = A := by
  refine step5_rec (P := fun R => R.1.2 ≠ 0 → R.1.1 = 0 ∧ R.2 = A) ?_ ?_ ?_ ?_ ?_ ?_ ?_ ?_ ?_ ?_ ?_ ?_ ?_ ?_ ?_ ?_ <;> intro e q
  · refine ⟨rfl, ?_⟩
    unfold Ar.insertCall at q ⊢
    split at q
    · rename_i hc; rw [if_pos hc]
    · exact absurd rfl q
  · refine ⟨rfl, ?_⟩
    unfold Ar.insertCall at q ⊢
    split at q
    · rename_i hc; rw [if_pos hc]
    · exact absurd rfl q
  · refine ⟨rfl, ?_⟩
    unfold Ar.replaceCall at q ⊢
    split at q
    · rename_i hc
      rw [if_pos hc]
      split at q
      · rename_i hd; rw [if_pos hd]
      · exact absurd rfl q
    · rename_i hc; rw [if_neg hc]
  · refine ⟨rfl, ?_⟩
    unfold Ar.removeCall at q ⊢
    split at q
    · rename_i hc
      rw [if_pos hc]
      split at q
      · rename_i hd; rw [if_pos hd]
      · exact absurd rfl q
    · rename_i hc; rw [if_neg hc]
  · refine ⟨rfl, ?_⟩
    unfold Ar.cutCall at q ⊢
    split at q
    · exact absurd rfl q
    · rename_i hc; rw [if_neg hc]
  · refine ⟨rfl, ?_⟩
    unfold Ar.replaceAllCall at q ⊢
    split at q
    · rename_i hc
      rw [if_pos hc]
      split at q
      · rename_i hd; rw [if_pos hd]
      · rename_i hd
        rw [if_neg hd]
        split at q
        · rename_i hf; rw [if_pos hf]
        · exact absurd rfl q
    · rename_i hc; rw [if_neg hc]
  · refine ⟨rfl, ?_⟩
    unfold Ar.adoptCall at q ⊢
    split at q
    · rename_i hc
      rw [if_pos hc]
      split at q
      · rename_i hd; rw [if_pos hd]
      · exact absurd rfl q
    · rename_i hc; rw [if_neg hc]
  · unfold Ar.createElement at q ⊢
    split at q
    · rename_i hc; rw [if_pos hc]; exact ⟨rfl, rfl⟩
    · rename_i hc
      rw [if_neg hc]
      split at q
      · rename_i hd; rw [if_pos hd]; exact ⟨rfl, rfl⟩
      · rename_i hd; rw [if_neg hd]; exact element_err q
  · refine ⟨rfl, ?_⟩
    unfold Ar.setAttr at q ⊢
    split at q
    · rename_i hc; rw [if_pos hc]
    · rename_i hc
      rw [if_neg hc]
      split at q
      · rename_i hd; rw [if_pos hd]
      · rename_i hd; rw [if_neg hd]; exact setAttrs_err q
  · obtain ⟨r1, r2⟩ := removeAttr_err hI q
    refine ⟨?_, r2⟩
    show one1 _ = 0
    rw [r1]; rfl
  · unfold Ar.cloneCall at q ⊢
    split at q
    · exact absurd rfl q
    · rename_i hc; rw [if_neg hc]; exact ⟨rfl, rfl⟩
  · unfold Ar.importCall at q ⊢
    split at q
    · rename_i hc
      rw [if_pos hc]
      split at q
      · rename_i hd; rw [if_pos hd]; exact ⟨rfl, rfl⟩
      · exact absurd rfl q
    · rename_i hc; rw [if_neg hc]; exact ⟨rfl, rfl⟩
  · exact ⟨rfl, setText_err hI q⟩
  · refine ⟨rfl, ?_⟩
    unfold Ar.normalize at q ⊢
    split at q
    · exact absurd rfl q
    · rename_i hc; rw [if_neg hc]
  · unfold Ar.split at q ⊢
    split at q
    · rename_i hc; rw [if_pos hc]; exact ⟨rfl, rfl⟩
    · rename_i hc
      rw [if_neg hc]
      split at q
      · rename_i hd; rw [if_pos hd]; exact ⟨rfl, rfl⟩
      · rename_i hd
        rw [if_neg hd]
        split at q
        · rename_i hf; rw [if_pos hf]; exact ⟨rfl, rfl⟩
        · exact absurd rfl q
  · exact step_err A x q

end Go.Proofs.YtpicinjcmjaogaaGreat
