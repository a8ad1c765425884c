/-
  Contracts of the document's arena: Walk.
-/
import Derived.Test.YtnfdcfagdidmhaaPL2
namespace Go.Proofs.Ytnfdcfagdidmhaa
open Go.RowKit
set_option linter.unusedVariables false

theorem walk_pos {A : Ar} (hI : A.Inv) {h : Int} (hh : A.has h) : 0 < (A.walk h).length := by rw [walk_eq hI hh]; simp

set_option maxRecDepth 100000 in
set_option maxHeartbeats 4000000 in
theorem RWalk_has (A : Ar) (ρ : Nat → Nat) (b : Nat) (hI : A.Inv) (hn : A.ns.length ≤ 100000) : ∀ h, A.has h → ∀ w, RMem w ρ b A →
    Calls Try.prog 51 #[.pointer (some ⟨b, 0, none⟩), .int .i64 h] w fun e w' => Below w.heap.size w w' ∧ ∃ v', e = .returned v' ∧ w'.ownsRow w.heap.size 3 1 v' (A.walk h).length ((A.walk h).map intv) := by
  refine walk_ind hI (fun h hh ihc ihk w hA => ?_)
  obtain ⟨i0, hi, hz0, hz1, hz2⟩ := info_parts infoInt
  obtain ⟨nb, c, h0, hm, hc, hfn, hnb, HH0, hN⟩ := hA.look
  obtain ⟨hp, hq, kv, av, F, hK, -⟩ := hN h hh
  have c2 := F.c2
  have c11 := F.c11
  have hd : decide (A.has h) = true := by simp [hh]
  have hkn : (A.get h).kids.length ≤ A.ns.length := Ar.kids_len hI.wf hh
  have HH := Lib.hid HH0
  have HI := Lib.hid hi
  have HIC := Lib.hid (fun hc W (hB : Below w.heap.size w W) => ihc hc W (hA.below hB))
  have HIK := Lib.hid (fun k hk W (hB : Below w.heap.size w W) => ihk k hk W (hA.below hB))
  have HW := Lib.hid (walk_eq hI hh)
  have HPOS := Lib.hid (fun x hx => walk_pos hI (h := x) hx)
  have HKH := Lib.hid (fun k hk => (kid_up hI hh (k := k) hk).1)
  have HLEN := Lib.hid (walk_len hI h)
  have hwl := walk_len hI h
  have HKR := Lib.hid (fun W (hB : Below w.heap.size w W) => RInts.below hK.reads hB)
  obtain ⟨ka, kc, hkv, -⟩ := (show RInts w kv (A.get h).kids from hK.reads).form
  subst hkv
  have hfin : ∃ (l4 : List Int), ((A.get h).contents ≠ 0 → l4 = [h] ++ A.walk (A.get h).contents) ∧ ((A.get h).contents = 0 → l4 = [h]) ∧ l4 ++ (A.get h).kids.flatMap A.walk = A.walk h := by
    by_cases hc : (A.get h).contents = 0
    · exact ⟨_, fun e => absurd hc e, fun _ => rfl, by rw [HW.out, if_neg (by simp [hc])]; simp⟩
    · exact ⟨_, fun _ => rfl, fun e => absurd e hc, by rw [HW.out, if_pos hc]; simp⟩
  obtain ⟨l4, hl4a, hl4b, hl4c⟩ := hfin
  have HL4 := Lib.hid hl4c
  have hl4len : l4.length + ((A.get h).kids.flatMap A.walk).length ≤ 100000 := by
    have e := congrArg List.length hl4c
    rw [List.length_append] at e
    omega
  have HL4L := Lib.hid hl4len
  have hcon : (A.get h).contents ≠ 0 → A.has (A.get h).contents := fun hc => (contents_up hI hh hc).1
  have HCON := Lib.hid hcon
  clear hl4c hl4len hi ihc ihk hN HH0 hfn F hK hA hh hcon
  have hown1 : (w.alloc (.cells #[.int .i64 h] 3)).ownsRow w.heap.size 3 1 (.slice (some ⟨w.heap.size, 0, none⟩) 1 1) [h].length ([h].map intv) := World.ownsRow_lit w #[.int .i64 h] 1 (Nat.le_refl _) (by unfold maxLen; omega) rfl
  have HO1 := Lib.hid hown1
  clear hown1
  have hB1 := below_alloc w (.cells #[.int .i64 h] 3)
  have HB1 := Lib.hid hB1
  have done : ∀ (w4 : World) (v4 : Value), Below w.heap.size w w4 → w4.ownsRow w.heap.size 3 1 v4 l4.length (l4.map intv) → Hid (Below w.heap.size w w4 ∧ w4.ownsRow w.heap.size 3 1 v4 (l4 ++ ((A.get h).kids.take 0).flatMap A.walk).length ((l4 ++ ((A.get h).kids.take 0).flatMap A.walk).map intv)) :=
    fun w4 v4 h1 h2 => Lib.hid ⟨h1, by simpa using h2⟩
  by_cases hc0 : (A.get h).contents = 0
  · have hce : ((A.get h).contents != 0) = false := by simp [hc0]
    have hX := done _ _ hB1 (by rw [hl4b hc0]; exact HO1.out)
    have k0 := Below.old hB1 h0
    have k11 := Below.old hB1 c11
    clear hl4a hl4b hc0 done hB1
    go_enter Try.func51, Try.ntmps51
    go_wp2_with fail
    refine (HH.out _ _ h0).mono ?_
    rintro e w' ⟨rfl, rfl⟩
    rw [hd]
    go_wp2
    go_loopw [5, 6] (fun out i wr => ∃ k : Nat, k ≤ (A.get h).kids.length ∧ i = .int .i64 k ∧ Hid (Below w.heap.size w wr ∧ wr.ownsRow w.heap.size 3 1 out (l4 ++ ((A.get h).kids.take k).flatMap A.walk).length ((l4 ++ ((A.get h).kids.take k).flatMap A.walk).map intv))) (fun _ i _ => (A.get h).kids.length - (intOf i).toNat)
    case atStart => exact ⟨0, Nat.zero_le _, rfl, hX⟩
    case round =>
      obtain ⟨k, hk, rfl, hT⟩ := hrel
      have g0 := Below.old hT.out.1 h0
      have g2 := Below.old hT.out.1 c2
      by_cases hlt : k < (A.get h).kids.length
      · obtain ⟨b1, o1, rfl, -, hcs⟩ := (HKR.out wr hT.out.1).cells (by omega)
        obtain ⟨x, hx⟩ : ∃ x, (A.get h).kids[k]? = some x := ⟨_, List.getElem?_eq_getElem hlt⟩
        have d1 := hcs k x hx
        have hst := flat_take A.walk hx
        have hxm := List.mem_of_getElem? hx
        have hl2 := flat_take_len (A.get h).kids (k + 1) A.walk
        rw [hst, List.length_append] at hl2
        have hlq : (l4 ++ ((A.get h).kids.take k).flatMap A.walk).length + (A.walk x).length ≤ 100000 := by have := HL4L.out; rw [List.length_append]; omega
        have HC := Lib.hid (HIK.out x hxm wr hT.out.1)
        have HPX := Lib.hid (HPOS.out x (HKH.out x hxm))
        have HST := Lib.hid (show l4 ++ ((A.get h).kids.take (k + 1)).flatMap A.walk = (l4 ++ ((A.get h).kids.take k).flatMap A.walk) ++ A.walk x by rw [hst, List.append_assoc])
        have HT := Lib.hid hT.out.1
        have HOT := Lib.hid hT.out.2
        have hszr : w.heap.size ≤ wr.heap.size := hT.out.1.size
        clear hcs hx hst hxm hl2 hT
        generalize l4 ++ ((A.get h).kids.take k).flatMap A.walk = L at *
        go_wp2_with fail
        refine HC.out.mono ?_
        rintro e w5 ⟨hB5, v5, rfl, ho5⟩
        rcases owns_cases (owns_base ho5 (Nat.zero_le _)) with ⟨-, hz, -⟩ | ⟨g5, cc5, rfl, hcell5⟩
        · have := HPX.out; omega
        have HO5 := Lib.hid (owns_below HOT.out hB5)
        have HS5 := Lib.hid (And.intro ho5.1 hcell5)
        have HB5 := Lib.hid (HT.out.trans (hB5.mono hszr))
        have hsz5 : w.heap.size ≤ w5.heap.size := HB5.out.size
        clear ho5 hcell5 hB5 HC g0 g2 d1
        go_wp2_with (at_builtin; refine wpList_append_own _ rfl _ _ 32 rfl w.heap.size 3 i0 _ 1 8 Try.underlying32 HI.out hz0 hz1 hz2 rfl (by decide) _ _ _ rfl HO5.out ⟨g5, 0, none⟩ _ cc5 ((A.walk x).map intv) rfl HS5.out.1 ?_ (oneInts _) ?_ ?_ ?_ ?_)
        · intro j u hj; rw [Addr.add_mid, Nat.zero_add]; exact HS5.out.2 j u hj
        · unfold maxLen; omega
        · omega
        · exact hsz5
        intro v6 w6 hown hgrow _
        have HX : Hid (Below w.heap.size w w6 ∧ w6.ownsRow w.heap.size 3 1 v6 (L ++ A.walk x).length ((L ++ A.walk x).map intv)) := Lib.hid ⟨HB5.out.grown hgrow hsz5 (fun k hk => (owns_block HO5.out k hk).1), by rw [List.map_append, List.length_append]; exact hown⟩
        clear hown hgrow
        go_wp2
        go_roundw
        case rel => exact ⟨k + 1, hlt, by go_num, by rw [HST.out]; exact HX⟩
        case measure => simp [intOf]; omega
      · have hkl : (A.get h).kids.take k = (A.get h).kids := List.take_of_length_le (by omega)
        have hO := hT.out.2
        rw [hkl, HL4.out] at hO
        have HX := Lib.hid (And.intro hT.out.1 hO)
        clear hO hT hkl
        go_wp2
        go_ret
        exact ⟨HX.out.1, _, rfl, HX.out.2⟩
  · have hce : ((A.get h).contents != 0) = true := by simp [hc0]
    have k0 := Below.old hB1 h0
    have k11 := Below.old hB1 c11
    have HC := Lib.hid (HIC.out hc0 _ hB1)
    have HL4A := Lib.hid (hl4a hc0)
    have HDONE := Lib.hid done
    have hcl : (A.walk (A.get h).contents).length ≤ 100000 := by
      have e := congrArg List.length (hl4a hc0)
      rw [List.length_append] at e
      have := HL4L.out; omega
    have HPC := Lib.hid (HPOS.out _ (HCON.out hc0))
    clear hl4a hl4b hc0 done hB1
    go_enter Try.func51, Try.ntmps51
    go_wp2_with fail
    refine (HH.out _ _ h0).mono ?_
    rintro e w' ⟨rfl, rfl⟩
    rw [hd]
    go_wp2_with fail
    refine HC.out.mono ?_
    rintro e w2 ⟨hB2, v2, rfl, ho2⟩
    rcases owns_cases (owns_base ho2 (Nat.zero_le _)) with ⟨-, hz, -⟩ | ⟨g2, cc2, rfl, hcell2⟩
    · have := HPC.out; omega
    have hB2' : Below w.heap.size w w2 := HB1.out.trans (hB2.mono (by simp))
    have HO2 := Lib.hid (owns_below HO1.out hB2)
    have HS2 := Lib.hid (And.intro ho2.1 hcell2)
    have hsz2 : w.heap.size ≤ w2.heap.size := hB2'.size
    have HB2 := Lib.hid hB2'
    clear ho2 hcell2 hB2 hB2' k0 k11 HC
    go_wp2_with (at_builtin; refine wpList_append_own _ rfl _ _ 32 rfl w.heap.size 3 i0 _ 1 8 Try.underlying32 HI.out hz0 hz1 hz2 rfl (by decide) _ _ _ rfl HO2.out ⟨g2, 0, none⟩ _ cc2 ((A.walk (A.get h).contents).map intv) rfl HS2.out.1 ?_ (oneInts _) ?_ ?_ ?_ ?_)
    · intro j u hj; rw [Addr.add_mid, Nat.zero_add]; exact HS2.out.2 j u hj
    · unfold maxLen; simp; omega
    · simp; omega
    · exact hsz2
    intro v4 w4 hown hgrow _
    have hB4 : Below w.heap.size w w4 := HB2.out.grown hgrow hsz2 (fun k hk => (owns_block HO2.out k hk).1)
    have hX := HDONE.out w4 v4 hB4 (by rw [HL4A.out, List.map_append, List.length_append]; exact hown)
    clear hown hgrow hB4 HDONE
    go_wp2
    go_loopw [5, 6] (fun out i wr => ∃ k : Nat, k ≤ (A.get h).kids.length ∧ i = .int .i64 k ∧ Hid (Below w.heap.size w wr ∧ wr.ownsRow w.heap.size 3 1 out (l4 ++ ((A.get h).kids.take k).flatMap A.walk).length ((l4 ++ ((A.get h).kids.take k).flatMap A.walk).map intv))) (fun _ i _ => (A.get h).kids.length - (intOf i).toNat)
    case atStart => exact ⟨0, Nat.zero_le _, rfl, hX⟩
    case round =>
      obtain ⟨k, hk, rfl, hT⟩ := hrel
      have g0 := Below.old hT.out.1 h0
      have g2 := Below.old hT.out.1 c2
      by_cases hlt : k < (A.get h).kids.length
      · obtain ⟨b1, o1, rfl, -, hcs⟩ := (HKR.out wr hT.out.1).cells (by omega)
        obtain ⟨x, hx⟩ : ∃ x, (A.get h).kids[k]? = some x := ⟨_, List.getElem?_eq_getElem hlt⟩
        have d1 := hcs k x hx
        have hst := flat_take A.walk hx
        have hxm := List.mem_of_getElem? hx
        have hl2 := flat_take_len (A.get h).kids (k + 1) A.walk
        rw [hst, List.length_append] at hl2
        have hlq : (l4 ++ ((A.get h).kids.take k).flatMap A.walk).length + (A.walk x).length ≤ 100000 := by have := HL4L.out; rw [List.length_append]; omega
        have HC := Lib.hid (HIK.out x hxm wr hT.out.1)
        have HPX := Lib.hid (HPOS.out x (HKH.out x hxm))
        have HST := Lib.hid (show l4 ++ ((A.get h).kids.take (k + 1)).flatMap A.walk = (l4 ++ ((A.get h).kids.take k).flatMap A.walk) ++ A.walk x by rw [hst, List.append_assoc])
        have HT := Lib.hid hT.out.1
        have HOT := Lib.hid hT.out.2
        have hszr : w.heap.size ≤ wr.heap.size := hT.out.1.size
        clear hcs hx hst hxm hl2 hT
        generalize l4 ++ ((A.get h).kids.take k).flatMap A.walk = L at *
        go_wp2_with fail
        refine HC.out.mono ?_
        rintro e w5 ⟨hB5, v5, rfl, ho5⟩
        rcases owns_cases (owns_base ho5 (Nat.zero_le _)) with ⟨-, hz, -⟩ | ⟨g5, cc5, rfl, hcell5⟩
        · have := HPX.out; omega
        have HO5 := Lib.hid (owns_below HOT.out hB5)
        have HS5 := Lib.hid (And.intro ho5.1 hcell5)
        have HB5 := Lib.hid (HT.out.trans (hB5.mono hszr))
        have hsz5 : w.heap.size ≤ w5.heap.size := HB5.out.size
        clear ho5 hcell5 hB5 HC g0 g2 d1
        go_wp2_with (at_builtin; refine wpList_append_own _ rfl _ _ 32 rfl w.heap.size 3 i0 _ 1 8 Try.underlying32 HI.out hz0 hz1 hz2 rfl (by decide) _ _ _ rfl HO5.out ⟨g5, 0, none⟩ _ cc5 ((A.walk x).map intv) rfl HS5.out.1 ?_ (oneInts _) ?_ ?_ ?_ ?_)
        · intro j u hj; rw [Addr.add_mid, Nat.zero_add]; exact HS5.out.2 j u hj
        · unfold maxLen; omega
        · omega
        · exact hsz5
        intro v6 w6 hown hgrow _
        have HX : Hid (Below w.heap.size w w6 ∧ w6.ownsRow w.heap.size 3 1 v6 (L ++ A.walk x).length ((L ++ A.walk x).map intv)) := Lib.hid ⟨HB5.out.grown hgrow hsz5 (fun k hk => (owns_block HO5.out k hk).1), by rw [List.map_append, List.length_append]; exact hown⟩
        clear hown hgrow
        go_wp2
        go_roundw
        case rel => exact ⟨k + 1, hlt, by go_num, by rw [HST.out]; exact HX⟩
        case measure => simp [intOf]; omega
      · have hkl : (A.get h).kids.take k = (A.get h).kids := List.take_of_length_le (by omega)
        have hO := hT.out.2
        rw [hkl, HL4.out] at hO
        have HX := Lib.hid (And.intro hT.out.1 hO)
        clear hO hT hkl
        go_wp2
        go_ret
        exact ⟨HX.out.1, _, rfl, HX.out.2⟩

theorem RWalk_any (A : Ar) (ρ : Nat → Nat) (b : Nat) (h : Int) (w : World) (hA : RMem w ρ b A) (hI : A.Inv) (hn : A.ns.length ≤ 100000) :
    Calls Try.prog 51 #[.pointer (some ⟨b, 0, none⟩), .int .i64 h] w fun e w' => Below w.heap.size w w' ∧ ∃ v', e = .returned v' ∧ w'.ownsRow w.heap.size 3 1 v' (A.walk h).length ((A.walk h).map intv) := by
  by_cases hh : A.has h
  · exact RWalk_has A ρ b hI hn h hh w hA
  · rw [walk_no hh]
    obtain ⟨nb, c, h0, hm, hc, hfn, hnb, HH0, hN⟩ := hA.look
    have HH := Lib.hid HH0
    have hd : decide (A.has h) = false := by simp [hh]
    clear HH0 hN hfn hA hh
    go_enter Try.func51, Try.ntmps51
    go_wp2_with fail
    refine (HH.out _ _ h0).mono ?_
    rintro e w' ⟨rfl, rfl⟩
    rw [hd]
    go_wp2
    go_ret
    exact ⟨Below.refl _ _, _, rfl, World.ownsRow_nil _ _ _ _⟩

end Go.Proofs.Ytnfdcfagdidmhaa
