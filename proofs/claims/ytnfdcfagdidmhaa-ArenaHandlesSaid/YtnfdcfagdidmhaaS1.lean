/-
  Contracts of package slices, at the slices of an arena.
-/
import Derived.Ground.Names2Prog
import Derived.Shelf.Slices.Delete
import Derived.Shelf.Slices.Cells
import Derived.Shelf.Spec.SlicesInsertGrow
import Derived.Test.YtnfdcfagdidmhaaP8
namespace Go.Proofs.Ytnfdcfagdidmhaa
open Go.RowKit Go.Shelf

def lays23_ren : Go.Shelf.Ren := ⟨fun | 23 => 128 | n => n, fun | 22 => 32 | 3 => 3 | 4 => 4 | 0 => 0 | n => n, fun | n => n⟩
theorem lays23 : Go.Proofs.Lays2.n23 Try.prog lays23_ren := {
  mixed := by kernel_rfl
  f23 := Try.func128.trans (congrArg some (by kernel_rfl))
  t0 := Try.underlying0
  a0 := Try.isAgg0
  z0 := Try.sizeOf0
  v0 := Try.zeroValue0
  t3 := Try.underlying3
  a3 := Try.isAgg3
  z3 := Try.sizeOf3
  v3 := Try.zeroValue3
  t4 := Try.underlying4
  a4 := Try.isAgg4
  z4 := Try.sizeOf4
  v4 := Try.zeroValue4
  t22 := Try.underlying32
  a22 := Try.isAgg32
  z22 := Try.sizeOf32
  v22 := Try.zeroValue32
  i3 := by kernel_rfl }
def lays21_ren : Go.Shelf.Ren := ⟨fun | 21 => 103 | 27 => 129 | 28 => 130 | 35 => 137 | 39 => 138 | n => n, fun | 22 => 32 | 3 => 3 | 4 => 4 | 0 => 0 | n => n, fun | n => n⟩
theorem lays21 : Go.Proofs.Lays2.n21 Try.prog lays21_ren := {
  mixed := by kernel_rfl
  f21 := Try.func103.trans (congrArg some (by kernel_rfl))
  f27 := Try.func129.trans (congrArg some (by kernel_rfl))
  f28 := Try.func130.trans (congrArg some (by kernel_rfl))
  f35 := Try.func137.trans (congrArg some (by kernel_rfl))
  f39 := Try.func138.trans (congrArg some (by kernel_rfl))
  t0 := Try.underlying0
  a0 := Try.isAgg0
  z0 := Try.sizeOf0
  v0 := Try.zeroValue0
  t3 := Try.underlying3
  a3 := Try.isAgg3
  z3 := Try.sizeOf3
  v3 := Try.zeroValue3
  t4 := Try.underlying4
  a4 := Try.isAgg4
  z4 := Try.sizeOf4
  v4 := Try.zeroValue4
  t22 := Try.underlying32
  a22 := Try.isAgg32
  z22 := Try.sizeOf32
  v22 := Try.zeroValue32
  i3 := by kernel_rfl }

theorem setCells_block (b : Nat) (t : TypeId) : ∀ (vs : List Value) (o : Nat) (w : World) (cur : Array Value), w.heap[b]? = some (.cells cur t (0, 0)) →
    ∃ cur', (w.setCells b o vs).heap[b]? = some (.cells cur' t (0, 0)) ∧ cur'.size = cur.size ∧ ∀ k, cur'[k]? = if o ≤ k ∧ k < o + vs.length ∧ k < cur.size then vs[k - o]? else cur[k]?
  | [], o, w, cur, h => ⟨cur, h, rfl, fun k => by rw [if_neg (by simp; omega)]⟩
  | v :: vs, o, w, cur, h => by
    have h1 : (w.setCell ⟨b, o, none⟩ v).heap[b]? = some (.cells (cur.setIfInBounds o v) t (0, 0)) := by simp [World.setCell, Array.getElem?_modify, h]
    obtain ⟨cur', h2, h3, h4⟩ := setCells_block b t vs (o + 1) _ _ h1
    refine ⟨cur', h2, by simpa using h3, fun k => ?_⟩
    rw [h4 k]
    by_cases hk : o + 1 ≤ k ∧ k < o + 1 + vs.length ∧ k < cur.size
    · rw [if_pos (by simpa using hk), if_pos (by simp; omega), show k - o = (k - (o + 1)) + 1 from by omega]; simp
    · rw [if_neg (by simpa using hk)]
      by_cases hko : o = k
      · subst hko
        by_cases hs : o < cur.size
        · rw [if_pos (by simp; omega)]; simp [hs]
        · rw [if_neg (by omega)]; simp [hs]
      · rw [if_neg (by simp at hk ⊢; omega)]; simp [hko]
theorem setCells_heap (b : Nat) : ∀ (vs : List Value) (o : Nat) (w : World) (k : Nat), k ≠ b → (w.setCells b o vs).heap[k]? = w.heap[k]?
  | [], _, _, _, _ => rfl
  | v :: vs, o, w, k, h => (setCells_heap b vs (o + 1) _ k h).trans (heap_set_other w ⟨b, o, none⟩ v k h)
theorem setCells_rest (b : Nat) : ∀ (vs : List Value) (o : Nat) (w : World), (w.setCells b o vs).os = w.os ∧ (w.setCells b o vs).tape = w.tape ∧ (w.setCells b o vs).output = w.output ∧ (w.setCells b o vs).heap.size = w.heap.size
  | [], _, _ => ⟨rfl, rfl, rfl, rfl⟩
  | v :: vs, o, w => by obtain ⟨h1, h2, h3, h4⟩ := setCells_rest b vs (o + 1) (w.setCell ⟨b, o, none⟩ v); exact ⟨h1, h2, h3, h4.trans (by simp)⟩
theorem Upd.setCells {F : Nat → Prop} {a w : World} (h : Upd F a w) {b : Nat} (hp : a.heap.size ≤ b ∨ F b) (o : Nat) (vs : List Value) : Upd F a (w.setCells b o vs) := by
  obtain ⟨h1, h2, h3, h4⟩ := setCells_rest b vs o w
  refine ⟨h1.trans h.os, h2.trans h.tape, h3.trans h.output, by rw [h4]; exact h.size, fun k hk hf => ?_⟩
  rw [setCells_heap b vs o w k (by intro e; subst e; exact hp.elim (fun hp => by omega) hf)]; exact h.block k hk hf

theorem oneInts (l : List Int) : ∀ u ∈ l.map intv, u.oneCell' = true := by intro u hu; simp at hu; obtain ⟨x, _, rfl⟩ := hu; rfl

/-- slices.Index over ints. -/
theorem Index_any (v : Value) (l : List Int) (x : Int) (w : World) (hv : RInts w v l) :
    Calls Try.prog 100 #[v, .int .i64 x] w fun e w' => e = .returned (.int .i64 (findI (fun y => decide (y = x)) l)) ∧ w = w' := by
  obtain ⟨av, cv, rfl, hc1, hc2, hc3⟩ := hv.form
  go_enter Try.func100, Try.ntmps100
  go_wp2
  go_loop [8] (fun i => ∃ k : Nat, k ≤ l.length ∧ i = .int .i64 k ∧ Hid (∀ j y, j < k → l[j]? = some y → (fun y => decide (y = x)) y = false)) (fun i => l.length - (intOf i).toNat)
  case atStart => exact ⟨0, Nat.zero_le _, rfl, fun j y hj => by omega⟩
  case round =>
    obtain ⟨k, hk, rfl, hT⟩ := hrel
    by_cases hlt : k < l.length
    · obtain ⟨b1, o1, rfl, hcs⟩ := hc3 (by omega)
      have hck := hcs k hlt
      clear hc3 hcs
      have hy : l[k]? = some (l[k]?.getD 0) := by simp [hlt]
      generalize l[k]?.getD 0 = y at hck hy
      have HY := Lib.hid hy
      clear hy
      by_cases hxy : x = y
      · have h1 : (x == y) = true := by simp [hxy]
        have HXY := Lib.hid hxy
        clear hxy
        go_wp2
        go_ret
        exact ⟨ret_int (findI_hit HY.out (by simp [HXY.out]) hT.out).symm, rfl⟩
      · have h1 : (x == y) = false := by simp [hxy]
        have HXY := Lib.hid hxy
        clear hxy
        go_wp2
        go_round
        case rel => exact ⟨k + 1, hlt, by go_num, fun j z hj hz => by
          by_cases hjk : j < k
          · exact hT.out j z hjk hz
          · have hjk : j = k := by omega
            rw [hjk, HY.out] at hz; cases hz; simp; exact fun e => HXY.out e.symm⟩
        case measure => simp [intOf]; omega
    · go_wp2
      go_ret
      exact ⟨ret_int (findI_none (fun j y hj => hT.out j y (by have := (List.getElem?_eq_some_iff.1 hj).1; omega) hj)).symm, rfl⟩

/-- slices.Delete of one element of a slice that owns its row. -/
theorem Delete_own (ρ : Nat → Nat) (r : Nat) (v : Value) (l : List Int) (i : Nat) (w : World) (hv : ROwn w ρ r 3 1 v l.length (l.map intv)) (hi : i < l.length) :
    Calls Try.prog 128 #[v, .int .i64 i, .int .i64 (i + 1)] w fun e w' => ∃ g c, v = .slice (some ⟨g, 0, none⟩) l.length c ∧ e = .returned (.slice (some ⟨g, 0, none⟩) (l.length - 1) c) ∧ Upd (fun k => ρ k = r) w w' ∧
      ROwn w' ρ r 3 1 (.slice (some ⟨g, 0, none⟩) (l.length - 1) c) (l.eraseIdx i).length ((l.eraseIdx i).map intv) := by
  obtain ⟨⟨h1, h2⟩, h3⟩ := hv
  rcases h2 with ⟨rfl, h4⟩ | ⟨g, cap, cur, rfl, _, hg, hn, hc, hs, ht⟩
  · omega
  · have hcell : ∀ j, j < l.length → w.cell? ⟨g, 0 + j, none⟩ = some (.int .i64 (l.getD j 0)) := by
      intro j hj
      rw [cell_of_row w g _ cur _ (0, 0) hg, Nat.zero_add]
      have : (cur.toList.take (l.length * 1))[j]? = some (intv (l.getD j 0)) := by rw [ht]; simp [hj]
      rw [List.getElem?_take, if_pos (by omega)] at this
      simpa [intv] using this
    have hgr := h3 g rfl
    refine (Any.slices_Delete_int_cells lays23 g 0 l.length cap i (i + 1) l w (Nat.le_refl _) hn hc (by omega) (by omega) hcell (fun j _ => frozen_of_row w g _ cur _ hg)).mono ?_
    rintro e w' ⟨rfl, q, rfl⟩
    have hsub : i + 1 - i = 1 := by omega
    rw [hsub, List.take_length]
    refine ⟨g, cap, rfl, rfl, ((Upd.refl (fun k => ρ k = r) w).drewN q).setCells (.inr hgr) _ _, ⟨⟨by simp, .inr ?_⟩, h3⟩⟩
    obtain ⟨cur', k1, k2, k3⟩ := setCells_block g 3 ((l.take i ++ l.drop (i + 1) ++ List.replicate 1 0).map (Value.int .i64)) 0 (w.drewN q) cur hg
    have hlen : (l.eraseIdx i).length = l.length - 1 := by simp [List.length_eraseIdx, hi]
    refine ⟨g, cap, cur', by rw [hlen], Nat.zero_le _, k1, by omega, hc, by rw [k2]; exact hs, ?_⟩
    apply List.ext_getElem?
    intro k
    rw [List.getElem?_take, Array.getElem?_toList, k3 k]
    rw [Nat.mul_one]
    by_cases hk : k < (l.eraseIdx i).length
    · rw [if_pos hk, if_pos (by simp; omega), List.eraseIdx_eq_take_drop_succ]
      simp only [Nat.sub_zero, List.map_append, List.getElem?_append, List.length_map, List.length_append]
      rw [if_pos (by simp; omega)]
      rfl
    · rw [if_neg hk, List.getElem?_eq_none (by simpa using hk)]

end Go.Proofs.Ytnfdcfagdidmhaa
