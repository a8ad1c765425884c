/-
  Contracts of the document's arena: Put.
-/
import Derived.Test.YtnfdcfagdidmhaaGreatDoorR10
namespace Go.Proofs.YtnfdcfagdidmhaaGreatDoor
open Go.RowKit
set_option linter.unusedVariables false

theorem RMem.setParent {w : World} {ρ : Nat → Nat} {b : Nat} {A : Ar} {h : Int} (p : Int) (hR : RMem w ρ b A) (hh : A.has h) : ∃ nb c, w.cell? ⟨b, 0, none⟩ = some (.slice (some ⟨nb, 0, none⟩) (A.ns.length + 1) c) ∧ A.ns.length + 1 ≤ c ∧ (∃ x, w.cell? ⟨nb, h.toNat * 13 + 1, none⟩ = some x) ∧ w.frozen? ⟨nb, h.toNat * 13 + 1, none⟩ = false ∧
    RMem (w.setCell ⟨nb, h.toNat * 13 + 1, none⟩ (.int .i64 p)) ρ b (A.mod h (fun x => { x with parent := p })) ∧ Turn ρ ρ w (w.setCell ⟨nb, h.toNat * 13 + 1, none⟩ (.int .i64 p)) := by
  obtain ⟨nb, c, g0, -, gc, gfn, -, -, gN⟩ := hR.look
  obtain ⟨-, -, kv, av, F, -, -⟩ := gN h hh
  have hst := hR.field (x := h) (f := fun x => { x with parent := p }) (j := 1) (v := .int .i64 p) hh g0 (by omega) (fun _ _ => rfl) rfl rfl
  exact ⟨nb, c, g0, gc, ⟨_, F.c1⟩, gfn _, hst.1, hst.2⟩

theorem ints_cell {w : World} {b o n c : Nat} {l : List Int} (h : RInts w (.slice (some ⟨b, o, none⟩) n c) l) {j : Nat} {x : Int} (hx : l[j]? = some x) : w.cell? ⟨b, o + j, none⟩ = some (.int .i64 x) := by
  have hp : 0 < l.length := by have := (List.getElem?_eq_some_iff.1 hx).1; omega
  obtain ⟨b', o', e, -, hcs⟩ := h.cells hp
  simp at e
  obtain ⟨rfl, rfl⟩ := e
  exact hcs j x hx

/-- The part of Put's list that the first k children make. -/
def putPart (l : List Int) (node before : Int) (k : Nat) : List Int := (l.take k).flatMap fun x => if x = before then [node, x] else [x]
theorem putPart_succ {l : List Int} {node before : Int} {k : Nat} {x : Int} (hx : l[k]? = some x) : putPart l node before (k + 1) = putPart l node before k ++ (if x = before then [node, x] else [x]) := flat_take _ hx
theorem putPart_len (l : List Int) (node before : Int) : ∀ k, (putPart l node before k).length ≤ 2 * k
  | 0 => by simp [putPart]
  | k + 1 => by
    have := putPart_len l node before k
    by_cases hk : k < l.length
    · rw [putPart_succ (List.getElem?_eq_getElem hk), List.length_append]
      split <;> simp <;> omega
    · have h1 : putPart l node before (k + 1) = putPart l node before k := by
        unfold putPart; rw [List.take_of_length_le (by omega), List.take_of_length_le (by omega)]
      rw [h1]; omega
theorem putPart_all (l : List Int) (node before : Int) {k : Nat} (hk : l.length ≤ k) : putIn l node before = putPart l node before k ++ (if before = 0 then [node] else []) := by
  unfold putIn putPart; rw [List.take_of_length_le hk]

theorem mod_const {A : Ar} {x : Int} (f : Nd → Nd) (hx : A.has x) (g : Nd → Nd) (h : g (A.get x) = f (A.get x)) : A.mod x f = A.mod x g := by
  unfold Ar.mod
  congr 1
  have hg := Ar.get_some hx
  apply List.ext_getElem?
  intro j
  rw [List.getElem?_modify, List.getElem?_modify]
  by_cases hj : x.toNat - 1 = j
  · subst hj; rw [hg]; simp [h]
  · simp [hj]

set_option maxRecDepth 100000 in
set_option maxHeartbeats 4000000 in
theorem RPut_any (A : Ar) (ρ : Nat → Nat) (b : Nat) (parent node before : Int) (w : World) (hA : RMem w ρ b A) (hW : A.WF) (hsm : A.ns.length ≤ 1000000) :
    Calls Tryz.prog 77 #[.pointer (some ⟨b, 0, none⟩), .int .i64 parent, .int .i64 node, .int .i64 before] w (RAddR (A.put parent node before).2 ρ b w (.int .i64 (A.put parent node before).1)) := by
  have HAL := Lib.hid (RAllowed_any A ρ b parent node before w hA hW)
  by_cases he : A.allowed parent node before (A.contains node parent) = 0
  case neg =>
    have e : A.put parent node before = (A.allowed parent node before (A.contains node parent), A) := by unfold Ar.put; rw [if_pos he]
    rw [e]
    have he1 : (A.allowed parent node before (A.contains node parent) != 0) = true := by simpa using he
    have HA := Lib.hid hA
    clear e he hA
    generalize A.allowed parent node before (A.contains node parent) = ee at *
    go_enter Tryz.func77, Tryz.ntmps77
    go_wp2_with fail
    refine HAL.out.mono ?_
    rintro e w2 ⟨rfl, hB⟩
    have HB := Lib.hid hB
    clear hB
    go_wp2
    go_ret
    exact (raddr_same (HA.out.below HB.out)).from HB.out
  case pos =>
  have e : A.put parent node before = (0, A.place parent node before) := by unfold Ar.put; rw [if_neg (by simp [he])]
  rw [e]
  obtain ⟨hp, hn, hbb, hk, hkn, hcc⟩ := allowed_got he
  have HCU := Lib.hid (fun W (hB : Below w.heap.size w W) => RCut_any A ρ b node W (hA.below hB) hW hsm)
  have hcutc : A.cutCall node = (0, A.cut node) := by unfold Ar.cutCall; rw [if_pos hn]
  rw [hcutc] at HCU
  have hp2 : (A.cut node).has parent := (Ar.cut_has _ _ _).2 hp
  have hn2 : (A.cut node).has node := (Ar.cut_has _ _ _).2 hn
  have hl2 : (A.cut node).ns.length = A.ns.length := Ar.cut_ns A node
  have hkl : ((A.cut node).get parent).kids.length ≤ A.ns.length := (Ar.put_facts hW hp hn hbb).1
  have hpl : A.place parent node before = ((A.cut node).mod parent (fun x => { x with kids := putIn ((A.cut node).get parent).kids node before })).mod node (fun x => { x with parent := parent }) := by
    unfold Ar.place
    rw [mod_const _ hp2 (fun x => { x with kids := putIn ((A.cut node).get parent).kids node before }) rfl]
  rw [hpl]
  have HE := Lib.hid he
  generalize A.cut node = A2 at *
  obtain ⟨ks, hks⟩ : ∃ ks, (A2.get parent).kids = ks := ⟨_, rfl⟩
  rw [hks] at hkl ⊢
  have HKS := Lib.hid hks
  clear hks
  have HP := Lib.hid (And.intro hp2 hn2)
  have HL2 := Lib.hid hl2
  clear hpl e he hcutc hp hn hbb hk hkn hcc hA
  go_enter Tryz.func77, Tryz.ntmps77
  go_wp2_with fail
  refine HAL.out.mono ?_
  rintro e w1 ⟨rfl, hB1⟩
  rw [HE.out]
  have HB1 := Lib.hid hB1
  go_wp2_with fail
  refine (HCU.out w1 hB1).mono ?_
  rintro e w2 ⟨rfl, ρ2, hA2, hT2⟩
  obtain ⟨nb, c, h0, hm, hc, hfn, hnb, -, hN⟩ := hA2.look
  rw [hl2] at h0 hm hc
  obtain ⟨hpp, hpq, kv, av, F, hK, -⟩ := hN parent hp2
  rw [hl2] at hpq
  rw [HKS.out] at hK
  have k2 := F.c2
  have f2 := hfn (parent.toNat * 13 + 2)
  have hnbl : nb < w2.heap.size := hA2.1 nb (by omega)
  have HK := Lib.hid (fun W (hB : Below w2.heap.size w2 W) => RInts.below hK.reads hB)
  obtain ⟨pka, pkc, hpk, -⟩ := (show RInts w2 kv ks from hK.reads).form
  subst hpk
  have HST := Lib.hid (fun (W : World) (v : Value) (hB : Below w2.heap.size w2 W) ho => hA2.setKidsRow (l := putIn ks node before) (w2 := W) (v := v) hp2 (by rw [hl2]; exact h0) hB ho)
  have HT2 := Lib.hid ((Turn.below HB1.out).trans hT2)
  clear hA2 hT2 hN hfn F hK hB1 hl2 hp2 hn2 HCU HAL
  obtain ⟨i0, hi, hz0, hz1, hz2⟩ := info_parts infoInt
  have HI := Lib.hid hi
  clear hi
  go_wp2
  have hsz2 := hkl
  go_loopw [10, 11] (fun out i wr => ∃ k : Nat, k ≤ ks.length ∧ i = .int .i64 k ∧ Hid (Below w2.heap.size w2 wr ∧ wr.ownsRow w2.heap.size 3 1 out (putPart ks node before k).length ((putPart ks node before k).map intv))) (fun _ i _ => ks.length - (intOf i).toNat)
  case atStart => exact ⟨0, Nat.zero_le _, rfl, Below.refl _ _, World.ownsRow_nil _ _ _ _⟩
  case round =>
    obtain ⟨k, hk, rfl, hT⟩ := hrel
    have g0 := Below.old hT.out.1 h0
    have g2 := Below.old hT.out.1 k2
    have hpl := putPart_len ks node before k
    have hszr : w2.heap.size ≤ wr.heap.size := hT.out.1.size
    by_cases hlt : k < ks.length
    · obtain ⟨b1, o1, rfl, -, hcs⟩ := (HK.out wr hT.out.1).cells (by omega)
      obtain ⟨x, hx⟩ : ∃ x, ks[k]? = some x := ⟨_, List.getElem?_eq_getElem hlt⟩
      have d1 := hcs k x hx
      have hst := putPart_succ (node := node) (before := before) hx
      have HT := Lib.hid hT.out.1
      have HO := Lib.hid hT.out.2
      generalize hL : putPart ks node before k = L at *
      have HX := Lib.hid hx
      clear hcs hx hT hL
      by_cases hxb : x = before
      · have hxe : (x == before) = true := by simp [hxb]
        rw [if_pos hxb] at hst
        have HSTT := Lib.hid hst
        have HXB := Lib.hid hxb
        clear hst hxb
        go_wp2_with (at_builtin; refine wpList_append_own _ rfl _ _ 35 rfl w2.heap.size 3 i0 _ 1 8 Tryz.underlying35 HI.out hz0 hz1 hz2 rfl (by decide) _ _ _ rfl (HO.out.alloc _) ⟨wr.heap.size, 0, none⟩ 1 1 [intv node] rfl rfl ?_ ?_ ?_ ?_ ?_ ?_)
        · intro j u hj; rw [Addr.add_mid, Nat.zero_add]; exact cell_new' rfl (by simpa [intv] using hj)
        · intro u hu; simp at hu; subst hu; rfl
        · unfold maxLen; omega
        · omega
        · simp; omega
        intro v3 w3 hown hgrow _
        have hB3 : Below w2.heap.size w2 w3 := (HT.out.alloc hszr _).grown hgrow (by simp; omega) (fun k hk => (owns_block HO.out k hk).1)
        have hO3 : w3.ownsRow w2.heap.size 3 1 v3 (L ++ [node]).length ((L ++ [node]).map intv) := by rw [List.map_append, List.length_append]; exact hown
        have HO3 := Lib.hid hO3
        have HB3 := Lib.hid hB3
        have m0 := Below.old hB3 h0
        have m2 := Below.old hB3 k2
        have e1 : w3.cell? ⟨b1, o1 + k, none⟩ = some (.int .i64 x) := ints_cell (HK.out w3 hB3) HX.out
        have hsz3 : w2.heap.size ≤ w3.heap.size := hB3.size
        have hl3 : (L ++ [node]).length ≤ 2 * k + 1 := by simp; omega
        clear hown hgrow hO3 g0 g2 d1 hB3
        go_wp2_with (at_builtin; refine wpList_append_own _ rfl _ _ 35 rfl w2.heap.size 3 i0 _ 1 8 Tryz.underlying35 HI.out hz0 hz1 hz2 rfl (by decide) _ _ _ rfl (HO3.out.alloc _) ⟨w3.heap.size, 0, none⟩ 1 1 [intv x] rfl rfl ?_ ?_ ?_ ?_ ?_ ?_)
        · intro j u hj; rw [Addr.add_mid, Nat.zero_add]; exact cell_new' rfl (by simpa [intv] using hj)
        · intro u hu; simp at hu; subst hu; rfl
        · unfold maxLen; omega
        · omega
        · simp; omega
        intro v4 w4 hown hgrow _
        have hB4 : Below w2.heap.size w2 w4 := (HB3.out.alloc hsz3 _).grown hgrow (by simp; omega) (fun k hk => (owns_block HO3.out k hk).1)
        have HF : Hid (Below w2.heap.size w2 w4 ∧ w4.ownsRow w2.heap.size 3 1 v4 (putPart ks node before (k + 1)).length ((putPart ks node before (k + 1)).map intv)) := Lib.hid ⟨hB4, by
          rw [HSTT.out, List.map_append, List.length_append]; simpa using hown⟩
        clear hown hgrow hB4
        go_wp2
        go_roundw
        case rel => exact ⟨k + 1, hlt, by go_num, HF⟩
        case measure => simp [intOf]; omega
      · have hxe : (x == before) = false := by simpa using hxb
        rw [if_neg hxb] at hst
        have HSTT := Lib.hid hst
        clear hst hxb
        go_wp2_with (at_builtin; refine wpList_append_own _ rfl _ _ 35 rfl w2.heap.size 3 i0 _ 1 8 Tryz.underlying35 HI.out hz0 hz1 hz2 rfl (by decide) _ _ _ rfl (HO.out.alloc _) ⟨wr.heap.size, 0, none⟩ 1 1 [intv x] rfl rfl ?_ ?_ ?_ ?_ ?_ ?_)
        · intro j u hj; rw [Addr.add_mid, Nat.zero_add]; exact cell_new' rfl (by simpa [intv] using hj)
        · intro u hu; simp at hu; subst hu; rfl
        · unfold maxLen; omega
        · omega
        · simp; omega
        intro v3 w3 hown hgrow _
        have hB3 : Below w2.heap.size w2 w3 := (HT.out.alloc hszr _).grown hgrow (by simp; omega) (fun k hk => (owns_block HO.out k hk).1)
        have HF : Hid (Below w2.heap.size w2 w3 ∧ w3.ownsRow w2.heap.size 3 1 v3 (putPart ks node before (k + 1)).length ((putPart ks node before (k + 1)).map intv)) := Lib.hid ⟨hB3, by
          rw [HSTT.out, List.map_append, List.length_append]; exact hown⟩
        clear hown hgrow hB3
        go_wp2
        go_roundw
        case rel => exact ⟨k + 1, hlt, by go_num, HF⟩
        case measure => simp [intOf]; omega
    · have hall := putPart_all ks node before (k := k) (by omega)
      have HT := Lib.hid hT.out.1
      have HO := Lib.hid hT.out.2
      clear hT
      by_cases hb0 : before = 0
      · rw [if_pos hb0] at hall
        have hb1 : (before == 0) = true := by simp [hb0]
        have HALL := Lib.hid hall
        have HB0 := Lib.hid hb0
        generalize hL : putPart ks node before k = L at *
        clear hall hb0 hL
        go_wp2_with (at_builtin; refine wpList_append_own _ rfl _ _ 35 rfl w2.heap.size 3 i0 _ 1 8 Tryz.underlying35 HI.out hz0 hz1 hz2 rfl (by decide) _ _ _ rfl (HO.out.alloc _) ⟨wr.heap.size, 0, none⟩ 1 1 [intv node] rfl rfl ?_ ?_ ?_ ?_ ?_ ?_)
        · intro j u hj; rw [Addr.add_mid, Nat.zero_add]; exact cell_new' rfl (by simpa [intv] using hj)
        · intro u hu; simp at hu; subst hu; rfl
        · unfold maxLen; omega
        · omega
        · simp; omega
        intro v5 w5 hown hgrow _
        have hB5 : Below w2.heap.size w2 w5 := (HT.out.alloc hszr _).grown hgrow (by simp; omega) (fun k hk => (owns_block HO.out k hk).1)
        have HO5 : Hid (w5.ownsRow w2.heap.size 3 1 v5 (putIn ks node before).length ((putIn ks node before).map intv)) := Lib.hid (by rw [HALL.out, List.map_append, List.length_append]; exact hown)
        have HB5 := Lib.hid hB5
        clear hown hgrow hB5 g0 g2
        have hsz5 : w2.heap.size ≤ w5.heap.size := HB5.out.size
        obtain ⟨fa, fc, rfl⟩ := ownsForm HO5.out
        obtain ⟨ρ6, hR6, hT6⟩ := HST.out w5 _ HB5.out HO5.out
        have g05 := Below.old HB5.out h0
        have g25 := Below.old HB5.out k2
        have gf5 := (Below.frozen HB5.out (p := ⟨nb, parent.toNat * 13 + 2, none⟩) hnbl).trans f2
        have HS6 : Hid (∀ w6, w5.setCell ⟨nb, parent.toNat * 13 + 2, none⟩ (.slice fa (putIn ks node before).length fc) = w6 → ∃ nb' c', w6.cell? ⟨b, 0, none⟩ = some (.slice (some ⟨nb', 0, none⟩) (A.ns.length + 1) c') ∧ A.ns.length + 1 ≤ c' ∧ (∃ x, w6.cell? ⟨nb', node.toNat * 13 + 1, none⟩ = some x) ∧ w6.frozen? ⟨nb', node.toNat * 13 + 1, none⟩ = false ∧
            RAddR ((A2.mod parent (fun x => { x with kids := putIn ks node before })).mod node (fun x => { x with parent := parent })) ρ b w (.int .i64 0) (.returned (.int .i64 0)) (w6.setCell ⟨nb', node.toNat * 13 + 1, none⟩ (.int .i64 parent))) := Lib.hid (by
          rintro w6 rfl
          obtain ⟨nb', c', q0, q1, q2, q3, q4, q5⟩ := hR6.setParent (h := node) parent ((Ar.mod_has _ _ _ _).2 HP.out.2)
          have hlen : (A2.mod parent (fun x => { x with kids := putIn ks node before })).ns.length = A.ns.length := by simp [Ar.mod, HL2.out]
          rw [hlen] at q0 q1
          exact ⟨nb', c', q0, q1, q2, q3, rfl, _, q4, (HT2.out.trans hT6).trans q5⟩)
        have hnq : 1 ≤ node ∧ node ≤ A.ns.length := ⟨HP.out.2.1, by have := HP.out.2.2; have := HL2.out; unfold Ar.n at *; omega⟩
        have hn1 := hnq.1
        have hn2 := hnq.2
        clear hR6 hT6 hnq h0 k2 f2
        obtain ⟨nb', c', q0, q1, ⟨mx, q2⟩, q3, q4⟩ := HS6.out _ rfl
        have HQ4 := Lib.hid q4
        clear q4
        go_wp2
        go_ret
        exact HQ4.out
      · rw [if_neg hb0, List.append_nil] at hall
        have hb1 : (before == 0) = false := by simpa using hb0
        have HB5 := HT
        have HO5 := HO
        rw [← hall] at HO5
        obtain ⟨fa, fc, hfa⟩ := ownsForm HO5.out
        subst hfa
        clear hall hb0 HO
        generalize hw5 : wr = w5 at *
        clear hw5
        obtain ⟨v5, hv5⟩ : ∃ v5, v5 = Value.slice fa (putIn ks node before).length fc := ⟨_, rfl⟩
        rw [← hv5] at HO5
        subst hv5
        have hsz5 : w2.heap.size ≤ w5.heap.size := HB5.out.size
        obtain ⟨ρ6, hR6, hT6⟩ := HST.out w5 _ HB5.out HO5.out
        have g05 := Below.old HB5.out h0
        have g25 := Below.old HB5.out k2
        have gf5 := (Below.frozen HB5.out (p := ⟨nb, parent.toNat * 13 + 2, none⟩) hnbl).trans f2
        have HS6 : Hid (∀ w6, w5.setCell ⟨nb, parent.toNat * 13 + 2, none⟩ (.slice fa (putIn ks node before).length fc) = w6 → ∃ nb' c', w6.cell? ⟨b, 0, none⟩ = some (.slice (some ⟨nb', 0, none⟩) (A.ns.length + 1) c') ∧ A.ns.length + 1 ≤ c' ∧ (∃ x, w6.cell? ⟨nb', node.toNat * 13 + 1, none⟩ = some x) ∧ w6.frozen? ⟨nb', node.toNat * 13 + 1, none⟩ = false ∧
            RAddR ((A2.mod parent (fun x => { x with kids := putIn ks node before })).mod node (fun x => { x with parent := parent })) ρ b w (.int .i64 0) (.returned (.int .i64 0)) (w6.setCell ⟨nb', node.toNat * 13 + 1, none⟩ (.int .i64 parent))) := Lib.hid (by
          rintro w6 rfl
          obtain ⟨nb', c', q0, q1, q2, q3, q4, q5⟩ := hR6.setParent (h := node) parent ((Ar.mod_has _ _ _ _).2 HP.out.2)
          have hlen : (A2.mod parent (fun x => { x with kids := putIn ks node before })).ns.length = A.ns.length := by simp [Ar.mod, HL2.out]
          rw [hlen] at q0 q1
          exact ⟨nb', c', q0, q1, q2, q3, rfl, _, q4, (HT2.out.trans hT6).trans q5⟩)
        have hnq : 1 ≤ node ∧ node ≤ A.ns.length := ⟨HP.out.2.1, by have := HP.out.2.2; have := HL2.out; unfold Ar.n at *; omega⟩
        have hn1 := hnq.1
        have hn2 := hnq.2
        clear hR6 hT6 hnq h0 k2 f2
        obtain ⟨nb', c', q0, q1, ⟨mx, q2⟩, q3, q4⟩ := HS6.out _ rfl
        have HQ4 := Lib.hid q4
        clear q4
        go_wp2
        go_ret
        exact HQ4.out

end Go.Proofs.YtnfdcfagdidmhaaGreatDoor
