/-
  The law ArenaJudges: the walk; a list of descriptions that came in.
-/
import Derived.Test.YtnfdcfagdidmhaaLS
import Derived.Test.YtnfdcfagdidmhaaC0b
namespace Go.Proofs.Ytnfdcfagdidmhaa
open Go.ChangeShapes Go.WideShapes Go.ChangeAt Go.RowKit Go.Deep Classical
set_option linter.unusedVariables false

section
variable {H : Type} {enc : TypeId × Value → H} {w : World} {base : Nat} {spare : Nat → Bool} {held : Bool}

theorem open_intl {fuel : Nat} {v : Value} {x : DataW H × List MemPlace} (h : DataW.trod enc Try.prog w base spare held fuel 32 [v] = some x) : ∃ l : List Int, RInts w v l := by
  rcases open_ints Try.underlying32 Try.underlying3 (by kernel_rfl) h with ⟨h0, -⟩ | ⟨a, len, cap, zs, hcs, -, hl, hm, hz, -, hi, -⟩
  · simp at h0; subst h0
    exact ⟨[], rfl, none, 0, rfl, Nat.le_refl _, Nat.zero_le _, fun h => absurd h (by simp)⟩
  · simp at hcs; subst hcs
    have hzl : len ≤ zs.length := by rw [hz]; split <;> omega
    have hlen : (zs.take len).length = len := by rw [List.length_take]; omega
    refine ⟨zs.take len, by simp, some a, cap, by rw [hlen], by rw [hlen]; exact hl, hm, fun hp => ?_⟩
    rw [hlen] at hp
    have hsp : a.spot = none := spot_none (by simpa [Addr.add] using hi 0 (by omega))
    obtain ⟨b, o, sp⟩ := a
    simp at hsp; subst hsp
    refine ⟨b, o, rfl, fun j u hj => ?_⟩
    rw [List.getElem?_map] at hj
    cases hy : (zs.take len)[j]? with
    | none => rw [hy] at hj; simp at hj
    | some y =>
      rw [hy] at hj
      simp at hj
      subst hj
      have hjl : j < len := by have := (List.getElem?_eq_some_iff.1 hy).1; omega
      have hc := hi j (by omega)
      rw [Addr.add_mid] at hc
      rw [hc]
      rw [List.getElem?_take, if_pos hjl] at hy
      rw [List.getD_eq_getElem?_getD, hy]
      rfl

theorem open_nodes {fuel : Nat} {v : Value} {x : DataW H × List MemPlace} (h : DataW.trod enc Try.prog w base spare held fuel 46 [v] = some x) : ∃ l : List Nd, RNodes w v l := by
  rcases open_slice_fields Try.underlying46 Try.underlying36 (by kernel_rfl) (by kernel_rfl) h with h0 | ⟨a, len, cap, D, hcs, hl, hm, hi⟩
  · simp at h0; subst h0
    exact ⟨[], none, 0, rfl, Nat.le_refl _, Nat.zero_le _, fun h => absurd h (by simp)⟩
  · simp at hcs; subst hcs
    have hq : ∀ i, i < len → ∃ y : Nd, ∃ kv av, (∀ j v, (y.cells kv av)[j]? = some v → w.cell? (a.add (i * 13 + j)) = some v) ∧ RInts w kv y.kids ∧ RAttrs w av y.attrs := by
      intro i hil
      obtain ⟨ys, n, hf⟩ := hi i hil
      obtain ⟨v0, y0, c0, -, t0⟩ := hf 0 _ rfl
      obtain ⟨v1, y1, c1, -, t1⟩ := hf 1 _ rfl
      obtain ⟨v2, y2, c2, -, t2⟩ := hf 2 _ rfl
      obtain ⟨v3, y3, c3, -, t3⟩ := hf 3 _ rfl
      obtain ⟨v4, y4, c4, -, t4⟩ := hf 4 _ rfl
      obtain ⟨v5, y5, c5, -, t5⟩ := hf 5 _ rfl
      obtain ⟨v6, y6, c6, -, t6⟩ := hf 6 _ rfl
      obtain ⟨v7, y7, c7, -, t7⟩ := hf 7 _ rfl
      obtain ⟨v8, y8, c8, -, t8⟩ := hf 8 _ rfl
      obtain ⟨v9, y9, c9, -, t9⟩ := hf 9 _ rfl
      obtain ⟨v10, y10, c10, -, t10⟩ := hf 10 _ rfl
      obtain ⟨v11, y11, c11, -, t11⟩ := hf 11 _ rfl
      obtain ⟨v12, y12, c12, -, t12⟩ := hf 12 _ rfl
      obtain ⟨x0, e0, -⟩ := DataW.trod_int Try.underlying31 t0
      obtain ⟨x1, e1, -⟩ := DataW.trod_int Try.underlying3 t1
      obtain ⟨kl, hkl⟩ := open_intl t2
      obtain ⟨x3, e3, -⟩ := DataW.trod_int Try.underlying3 t3
      obtain ⟨x4, e4, -⟩ := DataW.trod_int Try.underlying33 t4
      obtain ⟨x5, e5, -⟩ := DataW.trod_string Try.underlying9 t5
      obtain ⟨al, hal⟩ := open_attrs t6
      obtain ⟨x7, e7, -⟩ := DataW.trod_string Try.underlying9 t7
      obtain ⟨x8, e8, -⟩ := DataW.trod_string Try.underlying9 t8
      obtain ⟨x9, e9, -⟩ := DataW.trod_string Try.underlying9 t9
      obtain ⟨x10, e10, -⟩ := DataW.trod_bool Try.underlying4 t10
      obtain ⟨x11, e11, -⟩ := DataW.trod_int Try.underlying3 t11
      obtain ⟨x12, e12, -⟩ := DataW.trod_int Try.underlying3 t12
      simp at e0 e1 e3 e4 e5 e7 e8 e9 e10 e11 e12
      subst e0; subst e1; subst e3; subst e4; subst e5; subst e7; subst e8; subst e9; subst e10; subst e11; subst e12
      refine ⟨⟨x0, x1, kl, x3, x4, x5, al, x7, x8, x9, x10, x11, x12⟩, v2, v6, fun j v hv => ?_, hkl, hal⟩
      have hj : j < 13 := (List.getElem?_eq_some_iff.1 hv).1
      rcases (show j = 0 ∨ j = 1 ∨ j = 2 ∨ j = 3 ∨ j = 4 ∨ j = 5 ∨ j = 6 ∨ j = 7 ∨ j = 8 ∨ j = 9 ∨ j = 10 ∨ j = 11 ∨ j = 12 by omega) with rfl | rfl | rfl | rfl | rfl | rfl | rfl | rfl | rfl | rfl | rfl | rfl | rfl <;> (simp [Nd.cells] at hv; subst hv; assumption)
    obtain ⟨l, hll, hlq⟩ := list_of _ len hq
    subst hll
    refine ⟨l, some a, cap, rfl, hl, by unfold maxLen at hm; omega, fun hp => ?_⟩
    have hsp : a.spot = none := by
      obtain ⟨kv, av, q, -⟩ := hlq 0 _ (List.getElem?_eq_getElem hp)
      exact spot_none (by simpa [Addr.add] using q 0 _ rfl)
    obtain ⟨b, o, sp⟩ := a
    simp at hsp; subst hsp
    refine ⟨b, o, rfl, fun i x hx => ?_⟩
    obtain ⟨kv, av, q, hK, hA⟩ := hlq i x hx
    have key : ∀ j v, (x.cells kv av)[j]? = some v → w.cell? ⟨b, o + i * 13 + j, none⟩ = some v := fun j v hv => by
      have := q j v hv
      rw [Addr.add_mid] at this
      rw [show o + i * 13 + j = o + (i * 13 + j) by omega]; exact this
    exact ⟨kv, av, ⟨key 0 _ rfl, key 1 _ rfl, key 2 _ rfl, key 3 _ rfl, key 4 _ rfl, key 5 _ rfl, key 6 _ rfl, key 7 _ rfl, key 8 _ rfl, key 9 _ rfl, key 10 _ rfl, key 11 _ rfl, key 12 _ rfl⟩, hK, hA⟩
end

set_option maxRecDepth 100000 in
/-- A list of descriptions that came in. -/
theorem arg_nodes {H : Type} {enc : TypeId × Value → H} {W : World} {base : Nat} {spare : Nat → Bool} {held : Bool} {v : Value} {d : DataW H} {p : List MemPlace} {r : Reach} {b0 : Nat}
    (hv : Value.okWide Try.prog W r b0 46 v) (h : DataW.Trod enc Try.prog W base spare held 46 v d p) : ∃ l, RNodes W v l := by
  obtain ⟨a, len, cap, rfl⟩ := okWide_slice Try.underlying46 hv
  obtain ⟨fuel, hf⟩ := h
  simp only [Value.cells] at hf
  exact open_nodes (fuel := fuel) (x := (d, p)) hf

/-- A short list of descriptions. -/
def smallNodes (ns : List Nd) : Prop := ns.length ≤ 60 ∧ ∀ n ∈ ns, n.kids.length ≤ 60 ∧ smallAttrs n.attrs

set_option maxRecDepth 100000 in
set_option maxHeartbeats 1000000 in
theorem SmallNodes_any (v : Value) (ns : List Nd) (w : World) (hv : RNodes w v ns) :
    Calls Try.prog 34 #[v] w fun e w' => e = .returned (.bool (decide (smallNodes ns))) ∧ w = w' := by
  have HV := Lib.hid hv
  obtain ⟨a, c, rfl, p1, p2, -⟩ := hv
  go_enter Try.func34, Try.ntmps34
  go_wp2
  go_loop [3] (fun i => ∃ k : Nat, k ≤ ns.length ∧ k ≤ 61 ∧ i = .int .i64 k ∧ Hid (∀ (j : Nat) (n : Nd), j < k → ns[j]? = some n → n.kids.length ≤ 60 ∧ smallAttrs n.attrs)) (fun i => ns.length - (intOf i).toNat)
  case atStart => exact ⟨0, Nat.zero_le _, by omega, rfl, Lib.hid (fun j n hj => by omega)⟩
  case round =>
    obtain ⟨k, hk, hk61, rfl, hT⟩ := hrel
    by_cases hlt : k < ns.length
    · by_cases h60 : k ≤ 60
      · obtain ⟨b1, o1, rfl, -, hcs⟩ := HV.out.at (by omega)
        obtain ⟨n, hn⟩ : ∃ n, ns[k]? = some n := ⟨_, List.getElem?_eq_getElem hlt⟩
        obtain ⟨kv, av, F, hK, hA⟩ := hcs k n hn
        obtain ⟨ka, kc, rfl, kl1, kl2, -⟩ := hK.form
        have f2 := F.c2
        have f6 := F.c6
        have HSA := Lib.hid (SmallAttrs_any av n.attrs w hA)
        obtain ⟨aa, ac, rfl, al1, al2, -⟩ := hA.form
        have HNN := Lib.hid hn
        clear hcs hn F hK hA
        by_cases hkl : n.kids.length ≤ 60
        · by_cases hsa : smallAttrs n.attrs
          · have HSS := Lib.hid hsa
            clear hsa
            go_wp2_with fail
            refine HSA.out.mono ?_
            rintro e w' ⟨rfl, rfl⟩
            rw [decide_eq_true HSS.out]
            go_wp2
            go_round
            case rel => exact ⟨k + 1, hlt, by omega, by go_num, Lib.hid (fun j m hj hm => by
              by_cases hjk : j < k
              · exact hT.out j m hjk hm
              · have : j = k := by omega
                subst this
                rw [HNN.out] at hm
                injection hm with hm
                subst hm
                exact ⟨hkl, HSS.out⟩)⟩
            case measure => simp [intOf]; omega
          · have HSS := Lib.hid hsa
            clear hsa
            go_wp2_with fail
            refine HSA.out.mono ?_
            rintro e w' ⟨rfl, rfl⟩
            rw [decide_eq_false HSS.out]
            go_wp2
            go_ret
            exact ⟨ret_bool (decide_eq_false (fun q => HSS.out (q.2 n (List.mem_of_getElem? HNN.out)).2)).symm, rfl⟩
        · go_wp2
          go_ret
          exact ⟨ret_bool (decide_eq_false (fun q => hkl (q.2 n (List.mem_of_getElem? HNN.out)).1)).symm, rfl⟩
      · go_wp2
        go_ret
        exact ⟨ret_bool (by
          have e1 : ¬ ns.length ≤ 60 := by omega
          rw [Bool.eq_iff_iff, decide_eq_true_iff, decide_eq_true_iff]
          exact ⟨fun q => by omega, fun q => absurd q.1 e1⟩), rfl⟩
    · have HA := Lib.hid (show ∀ n ∈ ns, n.kids.length ≤ 60 ∧ smallAttrs n.attrs from fun n hn => by
        obtain ⟨j, hj, e⟩ := List.getElem_of_mem hn
        exact hT.out j n (by omega) (by rw [List.getElem?_eq_getElem hj, e]))
      clear hT
      go_wp2
      go_ret
      exact ⟨ret_bool (by
        rw [Bool.eq_iff_iff, decide_eq_true_iff, decide_eq_true_iff]
        exact ⟨fun q => ⟨by omega, HA.out⟩, fun q => by have := q.1; omega⟩), rfl⟩

theorem empty_sound : Ar.SoundP ⟨[], []⟩ := by
  have hno : ∀ h, ¬ Ar.has ⟨[], []⟩ h := fun h hh => by
    have h1 := hh.1
    have h2 := hh.2
    simp [Ar.n] at h2
    omega
  exact ⟨fun h hh => absurd hh (hno h), fun h hh => absurd hh (hno h), fun h hh => absurd hh (hno h)⟩

set_option maxRecDepth 100000 in
set_option maxHeartbeats 2000000 in
theorem ArenaJudges_any (v : Value) (ns : List Nd) (w : World) (hv : RNodes w v ns) :
    Calls Try.prog 7 #[v] w fun e w' => e = .returned (.bool true) ∧ Below w.heap.size w w' := by
  have HV := Lib.hid hv
  have HS := Lib.hid (SmallNodes_any v ns w hv)
  obtain ⟨a, c, rfl, p1, p2, -⟩ := hv
  by_cases hs : smallNodes ns
  · have HSM := Lib.hid hs
    have hl : ns.length ≤ 60 := hs.1
    clear hs
    go_enter Try.func7, Try.ntmps7
    go_wp2_with fail
    refine HS.out.mono ?_
    rintro e w' ⟨rfl, rfl⟩
    rw [decide_eq_true HSM.out]
    go_wp2_with fail
    refine (ASound_any ⟨ns, []⟩ (.slice a ns.length c) w HV.out (by show ns.length ≤ _; omega) (fun x hx => by
      obtain ⟨hi, e⟩ := Ar.get_of hx
      rw [e]
      exact Nat.le_trans (HSM.out.2 _ (List.getElem_mem hi)).2.1 (by omega))).mono ?_
    rintro e w1 ⟨rfl, hB1⟩
    have HB1 := Lib.hid hB1
    clear hB1
    go_wp2_with fail
    refine (RSound_any ⟨ns, []⟩ (.slice a ns.length c) w1 (HV.out.below HB1.out) (by show ns.length ≤ _; omega) (fun n hn => Nat.le_trans (HSM.out.2 n hn).2.1 (by omega))).mono ?_
    rintro e w2 ⟨rfl, hB2⟩
    have HB2 := Lib.hid (HB1.out.trans (hB2.mono HB1.out.size))
    clear hB2
    have hbb : (decide (Ar.SoundP ⟨ns, []⟩) == decide (Ar.SoundP ⟨ns, []⟩)) = true := by simp
    go_wp2_with fail
    refine (ASound_any ⟨[], []⟩ (.slice none 0 0) w2 ⟨none, 0, rfl, Nat.le_refl _, Nat.zero_le _, fun h => absurd h (by simp)⟩ (by simp) (fun x hx => by
      obtain ⟨hi, e⟩ := Ar.get_of hx
      simp at hi)).mono ?_
    rintro e w3 ⟨rfl, hB3⟩
    rw [decide_eq_true empty_sound]
    have HB3 := Lib.hid (HB2.out.trans (hB3.mono HB2.out.size))
    clear hB3
    go_wp2_with fail
    refine (known_any _).mono ?_
    rintro e w4 ⟨rfl, hB4⟩
    have HB4 := Lib.hid (HB3.out.trans (hB4.mono HB3.out.size))
    clear hB4
    go_wp2
    go_ret
    exact ⟨rfl, HB4.out⟩
  · have HSM := Lib.hid hs
    clear hs
    go_enter Try.func7, Try.ntmps7
    go_wp2_with fail
    refine HS.out.mono ?_
    rintro e w' ⟨rfl, rfl⟩
    rw [decide_eq_false HSM.out]
    go_wp2_with fail
    refine (known_any _).mono ?_
    rintro e w2 ⟨rfl, hB2⟩
    go_wp2
    go_ret
    exact ⟨rfl, hB2⟩

end Go.Proofs.Ytnfdcfagdidmhaa
