/-
  Contracts of the program's arena: once.
-/
import Derived.Test.YtnfdcfagdidmhaaP3
import Derived.Deep.MidRow
namespace Go.Proofs.Ytnfdcfagdidmhaa
open Go.RowKit

theorem infoAttr : (Try.prog.info? 55).map (fun i => (i.zero, i.size, i.bytes)) = some (some (.agg #[.int .i64 0, .string ByteArray.empty, .string ByteArray.empty]), 3, 40) := by kernel_rfl
theorem infoInt : (Try.prog.info? 3).map (fun i => (i.zero, i.size, i.bytes)) = some (some (.int .i64 0), 1, 8) := by kernel_rfl

theorem onceL_length_le : ∀ (l acc : List AttrD), (l.foldl onceStep acc).length ≤ acc.length + l.length
  | [], acc => by simp
  | x :: l, acc => by
    have := onceL_length_le l (onceStep acc x)
    have h2 : (onceStep acc x).length ≤ acc.length + 1 := by unfold onceStep; split <;> simp
    simp only [List.foldl_cons, List.length_cons]; omega
theorem onceL_take {l : List AttrD} {k : Nat} {x : AttrD} (hx : l[k]? = some x) : onceL (l.take (k + 1)) = onceStep (onceL (l.take k)) x := by
  have hk := (List.getElem?_eq_some_iff.1 hx).1
  rw [List.take_succ_eq_append_getElem hk, onceL, List.foldl_append]
  have := (List.getElem?_eq_some_iff.1 hx).2
  rw [this]; rfl
theorem ROwn_attr_reads {w : World} {b : Nat} {v : Value} {l : List AttrD} (h : w.ownsRow b 55 3 v l.length (l.flatMap attrCells)) : RAttrs w v l := by
  have h' : ROwn w (fun k => if v.ownBlock = some k then 1 else 0) 1 55 3 v l.length (l.flatMap attrCells) := by
    refine ⟨⟨h.1, ?_⟩, fun g hg => by simp [hg]⟩
    rcases h.2 with h2 | ⟨g, cap, cur, h3, _, h4⟩
    · exact .inl h2
    · exact .inr ⟨g, cap, cur, h3, Nat.zero_le _, h4⟩
  exact h'.reads

/-- What 'once' hands back. -/
def OnceR (w : World) (l : List AttrD) (e : Ending) (w' : World) : Prop :=
  Below w.heap.size w w' ∧ (attrSpaces l → ∃ v, e = .returned (.tuple #[v, .bool true]) ∧ w'.ownsRow w.heap.size 55 3 v (onceL l).length ((onceL l).flatMap attrCells)) ∧
    (¬ attrSpaces l → e = .returned (.tuple #[.slice none 0 0, .bool false]))

theorem flatMap_snoc (l : List AttrD) (x : AttrD) : (l ++ [x]).flatMap attrCells = l.flatMap attrCells ++ attrCells x := by simp [List.flatMap_append]

set_option maxHeartbeats 1000000 in
theorem once_any (v : Value) (l : List AttrD) (w : World) (hv : RAttrs w v l) (hsmall : l.length ≤ 1000000) :
    Calls Try.prog 70 #[v] w (OnceR w l) := by
  obtain ⟨i0, hi, hz0, hz1, hz2⟩ := info_parts infoAttr
  obtain ⟨av, cv, rfl, hc1, hc2, hc3⟩ := hv.form
  go_enter Try.func70, Try.ntmps70
  go_wp2
  go_loopw [4, 9] (fun out i wr => ∃ k : Nat, k ≤ l.length ∧ i = .int .i64 k ∧ Hid (attrSpaces (l.take k)) ∧ Hid (wr.ownsRow w.heap.size 55 3 out (onceL (l.take k)).length ((onceL (l.take k)).flatMap attrCells)) ∧ Below w.heap.size w wr) (fun _ i _ => l.length - (intOf i).toNat)
  case atStart => exact ⟨0, Nat.zero_le _, rfl, by intro a ha; simp at ha, World.ownsRow_nil _ _ _ _, Below.refl _ _⟩
  case round =>
    obtain ⟨k, hk, rfl, hT, hO, hB⟩ := hrel
    by_cases hlt : k < l.length
    · obtain ⟨b1, o1, rfl, hcs⟩ := hc3 (by omega)
      obtain ⟨y, hy⟩ : ∃ y, l[k]? = some y := ⟨_, List.getElem?_eq_getElem hlt⟩
      obtain ⟨d0, d1, d2⟩ := hcs k y hy
      have d0 := Below.old hB d0
      have d1 := Below.old hB d1
      have d2 := Below.old hB d2
      have HY := Lib.hid hy
      clear hc3 hcs hy
      have HI := Lib.hid hi
      clear hi
      go_wp2_with fail
      refine (spaces_any _ [y.1] _ (RInts_new1' _ _ (by simp))).mono ?_
      rintro e w1 ⟨rfl, rfl⟩
      by_cases hs : inSpaces y.1
      · have hs1 : decide (∀ s ∈ [y.1], inSpaces s) = true := by simp [hs]
        have HS := Lib.hid hs
        clear hs
        rw [hs1]
        go_wp2_with fail
        have hsz := hB.size
        have hO1 := (hO.out.alloc (.cells #[.int .i64 y.1, .string y.2.1, .string y.2.2] 55)).alloc (.cells #[.int .i64 y.1] 33)
        have x0 : ((wr.alloc (.cells #[.int .i64 y.1, .string y.2.1, .string y.2.2] 55)).alloc (.cells #[.int .i64 y.1] 33)).cell? ⟨wr.heap.size, 0, none⟩ = some (.int .i64 y.1) := cell_old' _ (cell_new' rfl rfl)
        have x1 : ((wr.alloc (.cells #[.int .i64 y.1, .string y.2.1, .string y.2.2] 55)).alloc (.cells #[.int .i64 y.1] 33)).cell? ⟨wr.heap.size, 1, none⟩ = some (.string y.2.1) := cell_old' _ (cell_new' rfl rfl)
        have x2 : ((wr.alloc (.cells #[.int .i64 y.1, .string y.2.1, .string y.2.2] 55)).alloc (.cells #[.int .i64 y.1] 33)).cell? ⟨wr.heap.size, 2, none⟩ = some (.string y.2.2) := cell_old' _ (cell_new' rfl rfl)
        refine (ContainsFunc_any _ _ wr.heap.size y _ (ROwn_attr_reads hO1) x0 x1).mono ?_
        rintro e w2 ⟨rfl, hB2⟩
        have hB2' : Below w.heap.size w w2 := ((hB.alloc hsz _).alloc (by simp; omega) _).trans (hB2.mono (by simp; omega))
        have hO2 := owns_below hO1 hB2
        have x0 := Below.old hB2 x0
        have x1 := Below.old hB2 x1
        have x2 := Below.old hB2 x2
        have hlen := onceL_length_le (l.take k) []
        simp only [List.length_nil, Nat.zero_add, List.length_take] at hlen
        have hstep : attrSpaces (l.take (k + 1)) := by
          rw [List.take_succ_eq_append_getElem hlt]
          intro a ha
          rcases List.mem_append.1 ha with ha | ha
          · exact hT.out a ha
          · have := (List.getElem?_eq_some_iff.1 HY.out).2
            simp at ha; rw [ha, this]; exact HS.out
        have HST := Lib.hid hstep
        clear hstep hO1
        have hcl : (onceL (l.take k)).length ≤ 1000000 := by change (List.foldl onceStep [] _).length ≤ _; omega
        clear hlen
        cases ha : (onceL (l.take k)).any (sameName y) with
        | true =>
          have hone : onceL (l.take (k + 1)) = onceL (l.take k) := by rw [onceL_take HY.out, onceStep, if_pos ha]
          have HO2 := Lib.hid hO2
          have HONE := Lib.hid hone
          clear ha hone hO2
          go_wp2
          go_roundw
          case rel => exact ⟨k + 1, hlt, by go_num, HST.out, by rw [HONE.out]; exact HO2.out, hB2'⟩
          case measure => simp [intOf]; omega
        | false =>
          have hone : onceL (l.take (k + 1)) = onceL (l.take k) ++ [y] := by rw [onceL_take HY.out, onceStep, if_neg (by rw [ha]; simp)]
          have HONE := Lib.hid hone
          clear ha hone
          have hlt2 : wr.heap.size < w2.heap.size := by have := hB2.size; simp at this; omega
          have hwi : w.heap.size ≤ w2.heap.size := hB2'.size
          generalize hL : onceL (l.take k) = L at *
          have HL := Lib.hid hL
          clear hL
          go_wp2_with (at_builtin; refine wpList_append_own _ rfl _ _ 34 rfl w.heap.size 55 i0 _ 3 40 Try.underlying34 HI.out hz0 hz1 hz2 rfl (by decide) _ _ _ rfl (hO2.alloc _) ⟨w2.heap.size, 0, none⟩ 1 1 (attrCells y) rfl rfl ?c1 ?c2 ?c3 ?c4 ?c5 ?_)
          case c1 => intro j u hj; rw [Addr.add_mid, Nat.zero_add]; exact cell_new' rfl (by simpa [attrCells] using hj)
          case c2 => intro u hu; simp [attrCells] at hu; rcases hu with rfl | rfl | rfl <;> rfl
          case c3 => unfold maxLen; omega
          case c4 => omega
          case c5 => simp; omega
          intro v' w3 hown hgrow _
          have hB3 : Below w.heap.size w w3 := (hB2'.alloc hwi _).grown hgrow (by simp; omega) (fun k hk => (owns_block hO2 k hk).1)
          have hown' : w3.ownsRow w.heap.size 55 3 v' (L ++ [y]).length ((L ++ [y]).flatMap attrCells) := by
            rw [flatMap_snoc, List.length_append]; exact hown
          have HO3 := Lib.hid hown'
          clear hown hown' hgrow hO2
          go_wp2
          go_roundw
          case rel => exact ⟨k + 1, hlt, by go_num, HST.out, by rw [HONE.out]; exact HO3.out, hB3⟩
          case measure => simp [intOf]; omega
      · have hs1 : decide (∀ s ∈ [y.1], inSpaces s) = false := by simp [hs]
        have HS := Lib.hid hs
        clear hs
        rw [hs1]
        go_wp2
        go_ret2
        refine ⟨(hB.alloc hB.size _).alloc (by have := hB.size; simp; omega) _, fun h => ?_, fun _ => rfl⟩
        exact absurd (h y (List.mem_of_getElem? HY.out)) HS.out
    · go_wp2
      go_ret2
      have hkl : l.take k = l := List.take_of_length_le (by omega)
      have h1 := hT.out; have h2 := hO.out
      rw [hkl] at h1 h2
      exact ⟨hB, fun _ => ⟨_, rfl, h2⟩, fun h => absurd h1 h⟩

end Go.Proofs.Ytnfdcfagdidmhaa
