/-
  Parts: D16.
-/
import Derived.Test.YtpicinjcmjaogaaGreatN25
import Derived.Test.YtpicinjcmjaogaaGreatN30

/- Contracts of dom: join. (Printed by gend16.py.) -/
namespace Go.Proofs.YtpicinjcmjaogaaGreat
open Go.RowKit Go.Shelf
set_option linter.unusedVariables false

attribute [local go_sem] Oper.semAt_some

theorem Own.sink4 {w0 w : World} {B : Nat} {x a b c d : Asrt} {L : List Asrt} (h : Own w0 B (x :: a :: b :: c :: d :: L) w) : Own w0 B (a :: b :: c :: d :: x :: L) w :=
  h.perm (by simpa using (List.perm_append_comm (l₁ := [x]) (l₂ := [a, b, c, d])).append_right L)
theorem Own.lift4 {w0 w : World} {B : Nat} {x a b c d : Asrt} {L : List Asrt} (h : Own w0 B (a :: b :: c :: d :: x :: L) w) : Own w0 B (x :: a :: b :: c :: d :: L) w :=
  h.perm (by simpa using (List.perm_append_comm (l₁ := [a, b, c, d]) (l₂ := [x])).append_right L)
/-- What the closure and the loop share. -/
abbrev joinL (b ba bf bd : Nat) (s : JoinS) (L : List Asrt) : List Asrt :=
  .arena b s.ar :: .box bd (.cells #[.string s.data] 9 (0, 0)) :: .box bf (.cells #[.int .i64 s.first] 3 (0, 0)) :: .box ba (.cells #[.pointer (some ⟨b, 0, none⟩)] 23 (0, 0)) :: L

set_option maxRecDepth 100000 in
set_option maxHeartbeats 1000000 in
theorem joinEnd_own {w0 w : World} {B b ba bf bd : Nat} {s : JoinS} {L : List Asrt} (o : Own w0 B (joinL b ba bf bd s L) w) :
    Calls Tryz.prog 209 #[.pointer (some ⟨bf, 0, none⟩), .pointer (some ⟨ba, 0, none⟩), .pointer (some ⟨bd, 0, none⟩)] w fun e w' => e = .returned (.tuple #[]) ∧ Own w0 B (joinL b ba bf bd s.flush L) w' := by
  have q1 : w.cell? ⟨bf, 0, none⟩ = some (.int .i64 s.first) := box_cell (o.box (g := bf) (o := .cells #[.int .i64 s.first] 3 (0, 0)) (by simp))
  have q2 : w.cell? ⟨ba, 0, none⟩ = some (.pointer (some ⟨b, 0, none⟩)) := box_cell (o.box (g := ba) (o := .cells #[.pointer (some ⟨b, 0, none⟩)] 23 (0, 0)) (by simp))
  have q3 : w.cell? ⟨bd, 0, none⟩ = some (.string s.data) := box_cell (o.box (g := bd) (o := .cells #[.string s.data] 9 (0, 0)) (by simp))
  have HST := Lib.hid (fun (A' : Ar) W (o1 : Own w0 B (.arena b A' :: .box bd (.cells #[.string s.data] 9 (0, 0)) :: .box bf (.cells #[.int .i64 s.first] 3 (0, 0)) :: .box ba (.cells #[.pointer (some ⟨b, 0, none⟩)] 23 (0, 0)) :: L) W) =>
    (let o2 := o1.rot3.set1 (u := .int .i64 0); let o3 := o2.rot3.set1 (u := .string ByteArray.empty)
     ⟨box_cell (o1.box (g := bf) (o := .cells #[.int .i64 s.first] 3 (0, 0)) (by simp)), frozen_of_row W _ _ _ _ (o1.box (g := bf) (o := .cells #[.int .i64 s.first] 3 (0, 0)) (by simp)),
      box_cell (o2.box (g := bd) (o := .cells #[.string s.data] 9 (0, 0)) (by simp)), frozen_of_row _ _ _ _ _ (o2.box (g := bd) (o := .cells #[.string s.data] 9 (0, 0)) (by simp)), o3.rot3⟩ :
     W.cell? ⟨bf, 0, none⟩ = some (.int .i64 s.first) ∧ W.frozen? ⟨bf, 0, none⟩ = false ∧ (W.setCell ⟨bf, 0, none⟩ (.int .i64 0)).cell? ⟨bd, 0, none⟩ = some (.string s.data) ∧ (W.setCell ⟨bf, 0, none⟩ (.int .i64 0)).frozen? ⟨bd, 0, none⟩ = false ∧
     Own w0 B (joinL b ba bf bd ⟨A', 0, ByteArray.empty⟩ L) ((W.setCell ⟨bf, 0, none⟩ (.int .i64 0)).setCell ⟨bd, 0, none⟩ (.string ByteArray.empty))))
  by_cases h0 : s.first = 0
  · have e1 : (s.first != 0) = false := by simp [h0]
    have HF : Hid (s.flush = ⟨s.ar, 0, ByteArray.empty⟩) := Lib.hid (by unfold JoinS.flush; rw [if_neg (fun q => q h0)])
    obtain ⟨f1, f2, f3, f4, o3⟩ := HST.out _ _ o
    have HO := Lib.hid o3
    clear o o3 h0 HST
    go_enter Tryz.func209, Tryz.ntmps209
    go_wp2
    go_end0
    rw [HF.out]
    exact ⟨rfl, HO.out⟩
  · have e1 : (s.first != 0) = true := by simp [h0]
    have HF : Hid (s.flush = ⟨(s.ar.setData s.first s.data).2, 0, ByteArray.empty⟩) := Lib.hid (by unfold JoinS.flush; rw [if_pos h0])
    have HC := Lib.hid (o.call (fun ρ hA => SetData_any s.ar ρ b s.first s.data w hA))
    clear o h0
    go_enter Tryz.func209, Tryz.ntmps209
    go_wp2_with fail
    refine HC.out.mono ?_
    rintro e w1 ⟨rfl, o1⟩
    clear q1 q2 q3 HC
    obtain ⟨f1, f2, f3, f4, o3⟩ := HST.out _ _ o1
    have HO := Lib.hid o3
    clear o1 o3 HST
    go_wp2
    go_end0
    rw [HF.out]
    exact ⟨rfl, HO.out⟩

set_option maxRecDepth 100000 in
set_option maxHeartbeats 2000000 in
theorem join_own {A : Ar} {h : Int} (hI : A.Inv) (hh : A.has h) (hs : A.ns.length ≤ 100000) (hm : A.kidsTx h ≤ 9223372036854775807) {w0 w : World} {B b : Nat} {L : List Asrt} (o : Own w0 B (.arena b A :: L) w) :
    Calls Tryz.prog 158 #[.pointer (some ⟨b, 0, none⟩), .int .i64 h] w fun e w' => e = .returned (.tuple #[]) ∧ Own w0 B (.arena b (A.join h) :: L) w' := by
  have o1 := ((o.alloc (.cells #[.pointer (some ⟨b, 0, none⟩)] 23)).alloc (.cells #[.int .i64 0] 3)).alloc (.cells #[.string ⟨#[]⟩] 9)
  simp only [World.size_alloc] at o1
  have HO2 : Hid (Own w0 B (joinL b w.heap.size (w.heap.size + 1) (w.heap.size + 1 + 1) ⟨A, 0, ByteArray.empty⟩ L) _) := Lib.hid o1.rot4
  have HJ := Lib.hid (join_at hI hh)
  have HKH := Lib.hid (fun x (hx : x ∈ (A.get h).kids) => (kid_up hI hh hx).1)
  have hkl := Ar.kids_len hI.wf hh
  have hko : A.kidsOf h = (A.get h).kids := if_pos hh
  have HS := Lib.hid (hI.short (show A.ns.length ≤ 1000000 by omega))
  have HK := Lib.hid (fun (l : List Asrt) W (q : Own w0 B l W) (hm : Asrt.arena b A ∈ l) => Kids_own q hm (h := h) HS.out)
  rw [hko] at HK
  have HIN : Hid (A.join h = (((A.get h).kids.foldl JoinS.step ⟨A, 0, ByteArray.empty⟩).flush).ar) := Lib.hid rfl
  have HTX : Hid (∀ k x, (A.get h).kids[k]? = some x → (((A.get h).kids.take k).map (fun y => tx (A.get y))).sum + tx (A.get x) ≤ 9223372036854775807) := Lib.hid (fun k x hx => by
    rw [← sum_take hx]
    refine Nat.le_trans ?_ hm
    unfold Ar.kidsTx
    conv => rhs; rw [← List.take_append_drop (k + 1) (A.get h).kids, List.map_append, List.sum_append]
    omega)
  clear o o1 hI hh hko hm
  generalize (A.get h).kids = l at *
  go_enter Tryz.func158, Tryz.ntmps158
  go_wp2_with fail
  refine (HK.out _ _ HO2.out (by simp)).mono ?_
  rintro e w2 ⟨ka, kc, rfl, o3⟩
  have HO3 := Lib.hid o3.sink4
  clear o3 HO2 HK
  generalize w.heap.size = g at *
  go_wp2
  go_loopw [16] (fun i wr => ∃ (k : Nat) (s : JoinS), k ≤ l.length ∧ i = .int .i64 k ∧ Hid ((l.take k).foldl JoinS.step ⟨A, 0, ByteArray.empty⟩ = s) ∧ Hid (Own w0 B (joinL b g (g + 1) (g + 1 + 1) s (.ints (.slice ka l.length kc) l :: L)) wr)) (fun i _ => l.length - (intOf i).toNat)
  case atStart => exact ⟨0, _, Nat.zero_le _, rfl, Lib.hid rfl, HO3⟩
  case round =>
    obtain ⟨k, s, hk, rfl, hE, hT⟩ := hrel
    clear HO3
    have HJK := Lib.hid (HJ.out k hk)
    rw [hE.out] at HJK
    by_cases hlt : k < l.length
    · obtain ⟨x, hx⟩ : ∃ x, l[k]? = some x := ⟨_, List.getElem?_eq_getElem hlt⟩
      have hri : RInts wr (.slice ka l.length kc) l := hT.out.ints (by simp)
      obtain ⟨b1, o1, rfl, -, hcs⟩ := hri.cells (by omega)
      have c1 := hcs k x hx
      have bac : wr.cell? ⟨g, 0, none⟩ = some (.pointer (some ⟨b, 0, none⟩)) := box_cell (hT.out.box (g := g) (o := .cells #[.pointer (some ⟨b, 0, none⟩)] 23 (0, 0)) (by simp))
      have hxA := HKH.out x (List.mem_of_getElem? hx)
      have hxh := HJK.out.has hxA
      have hlen : s.ar.ns.length = A.ns.length := n_len HJK.out.n
      obtain ⟨nd, hnd⟩ : ∃ nd, s.ar.get x = nd := ⟨_, rfl⟩
      have HN := Lib.hid (Node_own (b := b) (A := s.ar) hT.out (by simp) (HJK.out.inv.short (by omega)) hxh hnd)
      have hst : (l.take (k + 1)).foldl JoinS.step ⟨A, 0, ByteArray.empty⟩ = s.step x := by rw [fold_take _ _ hx, hE.out]
      have hsd : nd.kind = 5 → s.data.size + nd.data.size ≤ 9223372036854775807 := fun h5 => by
        have h1 := HTX.out k x hx
        have h2 := HJK.out.size
        have hdr : l.drop k = x :: l.drop (k + 1) := by rw [List.drop_eq_getElem_cons hlt, (List.getElem?_eq_some_iff.1 hx).2]
        have h3 := HJK.out.data x (by rw [hdr]; simp)
        have h4 := HJK.out.kind x hxA
        rw [hnd] at h3 h4
        have h5' : tx (A.get x) = nd.data.size := by unfold tx; rw [if_pos (h4.symm.trans h5), h3]
        omega
      have HST := Lib.hid hst
      have HCU := Lib.hid (fun (l' : List Asrt) W (q : Own w0 B (.arena b s.ar :: l') W) => Cut_own q HJK.out.inv hxh)
      have hsx : s.step x = if nd.kind ≠ 5 then s.flush else if s.first = 0 ∧ nd.data ≠ ByteArray.empty then ⟨s.ar, x, nd.data⟩ else ⟨s.ar.cut x, s.first, s.data ++ nd.data⟩ := by unfold JoinS.step; rw [hnd]
      clear hri hcs hx hnd hxA hxh hlen hst hE
      by_cases h5 : nd.kind = 5
      · have e5 : (nd.kind != 5) = false := by simp [h5]
        have hsd' := hsd h5
        have HQ := Lib.hid (empty_str (s := nd.data))
        by_cases h0 : s.first = 0
        · have e0 : (s.first == 0) = true := by simp [h0]
          cases hz : nd.data.toList.isEmpty with
          | true =>
            have hz' : nd.data = ByteArray.empty := of_decide_eq_true (HQ.out.symm.trans hz)
            rw [if_neg (fun q => q h5), if_neg (fun q => q.2 hz')] at hsx
            rw [hsx] at HST
            clear h5 h0 hz' hsx hsd HQ
            go_wp2_with fail
            refine HN.out.mono ?_
            rintro e w3 ⟨ka', kl', kc', aa', al', ac', rfl, o4, -⟩
            clear HN c1 bac hT
            have HT := Lib.hid (nodeBox_facts (w := w3) nd ka' kc' aa' ac' kl' al')
            have o5 := o4.nodeBox nd (.slice ka' kl' kc') (.slice aa' al' ac')
            go_wp2_with ((with_reducible refine wpList_store_mid ?_ 46 (.tmp 9) (.tmp 24) ?_ w3.heap.size 0 (nd.cells (.slice ka' kl' kc') (.slice aa' al' ac')).toArray ?_ ?_ ?_ ?_ ?_ ?_); exact rfl; exact rfl; exact rfl; exact rfl; exact HT.out.1; exact sizeNode _ _ _; exact all_oneCell_toArray HT.out.2; clear HT; generalize hw5 : World.setCells _ _ _ _ = w5 at o5 ⊢; generalize hg5 : w3.heap.size = g5 at o5 ⊢; clear hw5 hg5; have q0 : w5.cell? ⟨g5, 0, none⟩ = some (.int .i64 nd.kind) := (cell_of_row w5 _ _ _ _ _ (o5.box (g := g5) (o := .cells (nd.cells (.slice ka' kl' kc') (.slice aa' al' ac')).toArray 46 (0, 0)) (by simp))).trans rfl; have q7 : w5.cell? ⟨g5, 7, none⟩ = some (.string nd.data) := (cell_of_row w5 _ _ _ _ _ (o5.box (g := g5) (o := .cells (nd.cells (.slice ka' kl' kc') (.slice aa' al' ac')).toArray 46 (0, 0)) (by simp))).trans rfl; have bf : w5.cell? ⟨g + 1, 0, none⟩ = some (.int .i64 s.first) := box_cell (o5.box (g := g + 1) (o := .cells #[.int .i64 s.first] 3 (0, 0)) (by simp)); have bd : w5.cell? ⟨g + 1 + 1, 0, none⟩ = some (.string s.data) := box_cell (o5.box (g := g + 1 + 1) (o := .cells #[.string s.data] 9 (0, 0)) (by simp)); have fd : w5.frozen? ⟨g + 1 + 1, 0, none⟩ = false := frozen_of_row w5 _ _ _ _ (o5.box (g := g + 1 + 1) (o := .cells #[.string s.data] 9 (0, 0)) (by simp)); have ba : w5.cell? ⟨g, 0, none⟩ = some (.pointer (some ⟨b, 0, none⟩)) := box_cell (o5.box (g := g) (o := .cells #[.pointer (some ⟨b, 0, none⟩)] 23 (0, 0)) (by simp)))
            have o6 := o5.sink4.swap.set1 (u := .string (s.data ++ nd.data))
            have ba' : (w5.setCell ⟨g + 1 + 1, 0, none⟩ (.string (s.data ++ nd.data))).cell? ⟨g, 0, none⟩ = some (.pointer (some ⟨b, 0, none⟩)) := box_cell (o6.box (g := g) (o := .cells #[.pointer (some ⟨b, 0, none⟩)] 23 (0, 0)) (by simp))
            have HC := Lib.hid (HCU.out _ _ o6.swap)
            clear o5 o6 HCU
            go_wp2_with fail
            refine HC.out.mono ?_
            rintro e w6 ⟨rfl, o6⟩
            have HO6 := Lib.hid o6.lift4.drop
            clear o6 HC q0 q7 bf bd fd ba ba'
            go_wp2
            go_roundw
            case rel => exact ⟨k + 1, _, hlt, by go_num, HST, HO6⟩
            case measure => simp [intOf]; omega
          | false =>
            have hz' : nd.data ≠ ByteArray.empty := of_decide_eq_false (HQ.out.symm.trans hz)
            rw [if_neg (fun q => q h5), if_pos ⟨h0, hz'⟩] at hsx
            rw [hsx] at HST
            clear h5 h0 hz' hsx hsd HQ HCU hsd'
            go_wp2_with fail
            refine HN.out.mono ?_
            rintro e w3 ⟨ka', kl', kc', aa', al', ac', rfl, o4, -⟩
            clear HN c1 bac hT
            have HT := Lib.hid (nodeBox_facts (w := w3) nd ka' kc' aa' ac' kl' al')
            have o5 := o4.nodeBox nd (.slice ka' kl' kc') (.slice aa' al' ac')
            go_wp2_with ((with_reducible refine wpList_store_mid ?_ 46 (.tmp 9) (.tmp 24) ?_ w3.heap.size 0 (nd.cells (.slice ka' kl' kc') (.slice aa' al' ac')).toArray ?_ ?_ ?_ ?_ ?_ ?_); exact rfl; exact rfl; exact rfl; exact rfl; exact HT.out.1; exact sizeNode _ _ _; exact all_oneCell_toArray HT.out.2; clear HT; generalize hw5 : World.setCells _ _ _ _ = w5 at o5 ⊢; generalize hg5 : w3.heap.size = g5 at o5 ⊢; clear hw5 hg5; have q0 : w5.cell? ⟨g5, 0, none⟩ = some (.int .i64 nd.kind) := (cell_of_row w5 _ _ _ _ _ (o5.box (g := g5) (o := .cells (nd.cells (.slice ka' kl' kc') (.slice aa' al' ac')).toArray 46 (0, 0)) (by simp))).trans rfl; have q7 : w5.cell? ⟨g5, 7, none⟩ = some (.string nd.data) := (cell_of_row w5 _ _ _ _ _ (o5.box (g := g5) (o := .cells (nd.cells (.slice ka' kl' kc') (.slice aa' al' ac')).toArray 46 (0, 0)) (by simp))).trans rfl; have bf : w5.cell? ⟨g + 1, 0, none⟩ = some (.int .i64 s.first) := box_cell (o5.box (g := g + 1) (o := .cells #[.int .i64 s.first] 3 (0, 0)) (by simp)); have bd : w5.cell? ⟨g + 1 + 1, 0, none⟩ = some (.string s.data) := box_cell (o5.box (g := g + 1 + 1) (o := .cells #[.string s.data] 9 (0, 0)) (by simp)); have ff : w5.frozen? ⟨g + 1, 0, none⟩ = false := frozen_of_row w5 _ _ _ _ (o5.box (g := g + 1) (o := .cells #[.int .i64 s.first] 3 (0, 0)) (by simp)); have fd : w5.frozen? ⟨g + 1 + 1, 0, none⟩ = false := frozen_of_row w5 _ _ _ _ (o5.box (g := g + 1 + 1) (o := .cells #[.string s.data] 9 (0, 0)) (by simp)))
            have o5' := o5.sink4.read (Below.drew (Below.refl _ _))
            have o6 := o5'.rot3.set1 (u := .int .i64 x)
            have fa : (w5.drew.setCell ⟨g + 1, 0, none⟩ (.int .i64 x)).cell? ⟨g + 1 + 1, 0, none⟩ = some (.string s.data) := box_cell (o6.box (g := g + 1 + 1) (o := .cells #[.string s.data] 9 (0, 0)) (by simp))
            have fb : (w5.drew.setCell ⟨g + 1, 0, none⟩ (.int .i64 x)).cell? ⟨g5, 7, none⟩ = some (.string nd.data) := (cell_of_row _ _ _ _ _ _ (o6.box (g := g5) (o := .cells (nd.cells (.slice ka' kl' kc') (.slice aa' al' ac')).toArray 46 (0, 0)) (by simp))).trans rfl
            have oa := o6.rot3.set1 (u := .string nd.data)
            have HO6 := Lib.hid oa.rot3.lift4.drop
            clear o5 o5' o6 oa
            go_region
            all_goals
              go_wp2
              go_roundw
              case rel => exact ⟨k + 1, _, hlt, by go_num, HST, HO6⟩
              case measure => simp [intOf]; omega
        · have e0 : (s.first == 0) = false := by simp [h0]
          rw [if_neg (fun q => q h5), if_neg (fun q => h0 q.1)] at hsx
          rw [hsx] at HST
          clear h5 h0 hsx hsd HQ
          go_wp2_with fail
          refine HN.out.mono ?_
          rintro e w3 ⟨ka', kl', kc', aa', al', ac', rfl, o4, -⟩
          clear HN c1 bac hT
          have HT := Lib.hid (nodeBox_facts (w := w3) nd ka' kc' aa' ac' kl' al')
          have o5 := o4.nodeBox nd (.slice ka' kl' kc') (.slice aa' al' ac')
          go_wp2_with ((with_reducible refine wpList_store_mid ?_ 46 (.tmp 9) (.tmp 24) ?_ w3.heap.size 0 (nd.cells (.slice ka' kl' kc') (.slice aa' al' ac')).toArray ?_ ?_ ?_ ?_ ?_ ?_); exact rfl; exact rfl; exact rfl; exact rfl; exact HT.out.1; exact sizeNode _ _ _; exact all_oneCell_toArray HT.out.2; clear HT; generalize hw5 : World.setCells _ _ _ _ = w5 at o5 ⊢; generalize hg5 : w3.heap.size = g5 at o5 ⊢; clear hw5 hg5; have q0 : w5.cell? ⟨g5, 0, none⟩ = some (.int .i64 nd.kind) := (cell_of_row w5 _ _ _ _ _ (o5.box (g := g5) (o := .cells (nd.cells (.slice ka' kl' kc') (.slice aa' al' ac')).toArray 46 (0, 0)) (by simp))).trans rfl; have q7 : w5.cell? ⟨g5, 7, none⟩ = some (.string nd.data) := (cell_of_row w5 _ _ _ _ _ (o5.box (g := g5) (o := .cells (nd.cells (.slice ka' kl' kc') (.slice aa' al' ac')).toArray 46 (0, 0)) (by simp))).trans rfl; have bf : w5.cell? ⟨g + 1, 0, none⟩ = some (.int .i64 s.first) := box_cell (o5.box (g := g + 1) (o := .cells #[.int .i64 s.first] 3 (0, 0)) (by simp)); have bd : w5.cell? ⟨g + 1 + 1, 0, none⟩ = some (.string s.data) := box_cell (o5.box (g := g + 1 + 1) (o := .cells #[.string s.data] 9 (0, 0)) (by simp)); have fd : w5.frozen? ⟨g + 1 + 1, 0, none⟩ = false := frozen_of_row w5 _ _ _ _ (o5.box (g := g + 1 + 1) (o := .cells #[.string s.data] 9 (0, 0)) (by simp)); have ba : w5.cell? ⟨g, 0, none⟩ = some (.pointer (some ⟨b, 0, none⟩)) := box_cell (o5.box (g := g) (o := .cells #[.pointer (some ⟨b, 0, none⟩)] 23 (0, 0)) (by simp)))
          have o6 := o5.sink4.swap.set1 (u := .string (s.data ++ nd.data))
          have ba' : (w5.setCell ⟨g + 1 + 1, 0, none⟩ (.string (s.data ++ nd.data))).cell? ⟨g, 0, none⟩ = some (.pointer (some ⟨b, 0, none⟩)) := box_cell (o6.box (g := g) (o := .cells #[.pointer (some ⟨b, 0, none⟩)] 23 (0, 0)) (by simp))
          have HC := Lib.hid (HCU.out _ _ o6.swap)
          clear o5 o6 HCU
          go_wp2_with fail
          refine HC.out.mono ?_
          rintro e w6 ⟨rfl, o6⟩
          have HO6 := Lib.hid o6.lift4.drop
          clear o6 HC q0 q7 bf bd fd ba ba'
          go_wp2
          go_roundw
          case rel => exact ⟨k + 1, _, hlt, by go_num, HST, HO6⟩
          case measure => simp [intOf]; omega
      · have e5 : (nd.kind != 5) = true := by simp [h5]
        rw [if_pos h5] at hsx
        rw [hsx] at HST
        clear h5 hsx hsd HCU
        go_wp2_with fail
        refine HN.out.mono ?_
        rintro e w3 ⟨ka', kl', kc', aa', al', ac', rfl, o4, -⟩
        clear HN c1 bac hT
        have HT := Lib.hid (nodeBox_facts (w := w3) nd ka' kc' aa' ac' kl' al')
        have o5 := o4.nodeBox nd (.slice ka' kl' kc') (.slice aa' al' ac')
        go_wp2_with ((with_reducible refine wpList_store_mid ?_ 46 (.tmp 9) (.tmp 24) ?_ w3.heap.size 0 (nd.cells (.slice ka' kl' kc') (.slice aa' al' ac')).toArray ?_ ?_ ?_ ?_ ?_ ?_); exact rfl; exact rfl; exact rfl; exact rfl; exact HT.out.1; exact sizeNode _ _ _; exact all_oneCell_toArray HT.out.2; clear HT; generalize hw5 : World.setCells _ _ _ _ = w5 at o5 ⊢; generalize hg5 : w3.heap.size = g5 at o5 ⊢; clear hw5 hg5; have q0 : w5.cell? ⟨g5, 0, none⟩ = some (.int .i64 nd.kind) := (cell_of_row w5 _ _ _ _ _ (o5.box (g := g5) (o := .cells (nd.cells (.slice ka' kl' kc') (.slice aa' al' ac')).toArray 46 (0, 0)) (by simp))).trans rfl)
        have HC := Lib.hid (joinEnd_own o5.sink4)
        clear o5
        go_wp2_with fail
        refine HC.out.mono ?_
        rintro e w6 ⟨rfl, o6⟩
        have HO6 := Lib.hid o6.lift4.drop
        clear o6 HC q0
        go_wp2
        go_roundw
        case rel => exact ⟨k + 1, _, hlt, by go_num, HST, HO6⟩
        case measure => simp [intOf]; omega
    · have hkl2 : l.take k = l := List.take_of_length_le (by omega)
      rw [hkl2] at hE
      have HF : Hid (A.join h = s.flush.ar) := Lib.hid (by rw [HIN.out, hE.out])
      have HC := Lib.hid (joinEnd_own hT.out)
      clear hE hkl2 HJK HIN hT
      go_wp2_with fail
      refine HC.out.mono ?_
      rintro e w3 ⟨rfl, o4⟩
      have HO4 := Lib.hid o4
      clear o4 HC
      go_wp2
      go_end0
      rw [HF.out]
      exact ⟨rfl, HO4.out.swap.drop.swap.drop.swap.drop.swap.drop⟩

end Go.Proofs.YtpicinjcmjaogaaGreat
