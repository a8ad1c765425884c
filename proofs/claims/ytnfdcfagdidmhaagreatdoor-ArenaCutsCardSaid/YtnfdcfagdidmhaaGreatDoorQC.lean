/-
  strings.NewReplacer, Replacer.Replace at three bytes; arena.quote.
-/
import Derived.Test.YtnfdcfagdidmhaaGreatDoorQB2
namespace Go.Proofs.YtnfdcfagdidmhaaGreatDoor
open Go.RowKit
set_option linter.unusedVariables false

theorem setc {w : World} {b i c j : Nat} {v : Value} {x : Value} (h : w.cell? ⟨c, j, none⟩ = some x) (hn : c ≠ b) : (w.setCell ⟨b, i, none⟩ v).cell? ⟨c, j, none⟩ = some x := by
  rw [World.cell?_setCell_other _ _ _ _ (by intro e; injection e with e1 e2 e3; exact hn e1.symm)]; exact h
theorem seti {w : World} {b i j : Nat} {v x : Value} (h : w.cell? ⟨b, j, none⟩ = some x) (hn : j ≠ i) : (w.setCell ⟨b, i, none⟩ v).cell? ⟨b, j, none⟩ = some x := by
  rw [World.cell?_setCell_other _ _ _ _ (by intro e; injection e with e1 e2 e3; exact hn e2.symm)]; exact h
/-- A store into a block that begins with a 32 bit number leaves the table as it is. -/
theorem RepT.setCell {w : World} {g b i : Nat} {n : Int} {v : Value} (h : RepT w g) (hb : w.cell? ⟨b, 0, none⟩ = some (.int .u32 n)) : RepT (w.setCell ⟨b, i, none⟩ v) g := by
  have hg : g ≠ b := fun e => by
    have := h.tab 0 (by omega) (by omega)
    rw [e, hb] at this; cases this
  refine ⟨fun c h1 h2 => setc (h.tab c h1 h2) hg, fun c hc => ?_, ?_⟩
  · obtain ⟨r, k, e0, e1, e2⟩ := h.esc c hc
    have hr : r ≠ b := fun e => by rw [e, hb] at e1; cases e1
    exact ⟨r, k, setc e0 hg, setc e1 hr, setc e2 hr⟩
  · obtain ⟨t, k, e0, e1, e2, e3⟩ := h.rep
    have ht : t ≠ b := fun e => by rw [e, hb] at e1; cases e1
    exact ⟨t, k, setc e0 hg, setc e1 ht, setc e2 ht, setc e3 ht⟩

/-- The pairs lie in a row. -/
structure Pairs (w : World) (o : Nat) : Prop where
  s0 : w.cell? ⟨o, 0, none⟩ = some (.string ⟨#[34]⟩)
  s1 : w.cell? ⟨o, 1, none⟩ = some (.string ⟨#[92, 34]⟩)
  s2 : w.cell? ⟨o, 2, none⟩ = some (.string ⟨#[92]⟩)
  s3 : w.cell? ⟨o, 3, none⟩ = some (.string ⟨#[92, 92]⟩)
  s4 : w.cell? ⟨o, 4, none⟩ = some (.string ⟨#[10]⟩)
  s5 : w.cell? ⟨o, 5, none⟩ = some (.string ⟨#[92, 110]⟩)

/-- What buildOnce leaves. -/
structure Built (B b g : Nat) (n m : Int) (w0 w : World) : Prop where
  c0 : w.cell? ⟨b, 0, none⟩ = some (.int .u32 n)
  c1 : w.cell? ⟨b, 1, none⟩ = some (.int .i32 m)
  c3 : w.cell? ⟨b, 3, none⟩ = some (.iface 195 (.pointer (some ⟨g, 0, none⟩)))
  fz : ∀ i : Nat, w.frozen? ⟨b, i, none⟩ = false
  rep : RepT w g
  low : Below B w0 w

set_option maxRecDepth 100000 in
set_option maxHeartbeats 4000000 in
theorem q_buildOnce (B b o oc : Nat) (w0 w : World) (hB : Below B w0 w) (hb : B ≤ b) (h0 : w.cell? ⟨b, 0, none⟩ = some (.int .u32 0)) (h1 : w.cell? ⟨b, 1, none⟩ = some (.int .i32 1)) (h3 : w.cell? ⟨b, 3, none⟩ = some .nilIface) (h4 : w.cell? ⟨b, 4, none⟩ = some (.slice (some ⟨o, 0, none⟩) 6 oc)) (hP : Pairs w o) (fz : ∀ i : Nat, w.frozen? ⟨b, i, none⟩ = false) :
    Calls Tryz.prog 130 #[.pointer (some ⟨b, 0, none⟩)] w fun e W => e = .returned (.tuple #[]) ∧ ∃ g, Built B b g 0 1 w0 W := by
  have HQ := Lib.hid (q_build b o oc w h4 hP.s0 hP.s1 hP.s2 hP.s3 hP.s4 hP.s5)
  have hbl := World.block_lt_of_cell? w _ h0
  have HF := Lib.hid (fun (W : World) (q : Below w.heap.size w W) (i : Nat) => (frozen_heap (q.block b hbl) i).trans (fz i))
  have HP := Lib.hid hP
  clear hP
  go_enter Tryz.func130, Tryz.ntmps130
  go_wp2_with fail
  refine HQ.out.mono ?_
  rintro e w1 ⟨g, rfl, hR, hB1⟩
  have a0 := Below.old hB1 h0
  have a1 := Below.old hB1 h1
  have a3 := Below.old hB1 h3
  have a4 := Below.old hB1 h4
  have f3 := HF.out w1 hB1 3
  have f4 := HF.out w1 hB1 4
  have HR := Lib.hid hR
  have HB := Lib.hid (hB.trans (hB1.mono (by omega)))
  have HF1 := Lib.hid (HF.out w1 hB1)
  clear HQ HF hR hB1 h0 h1 h3 h4 hbl fz HP
  go_wp2
  go_end0
  refine ⟨rfl, g, ?_⟩
  refine ⟨seti (seti a0 (by decide)) (by decide), seti (seti a1 (by decide)) (by decide), seti (World.cell?_setCell_same _ _ _ a3) (by decide), fun i => ?_, (HR.out.setCell a0).setCell (seti a0 (by decide)), (HB.out.setCell (p := ⟨b, 3, none⟩) hb _).setCell (p := ⟨b, 4, none⟩) hb _⟩
  rw [World.frozen?_setCell, World.frozen?_setCell]
  exact HF1.out i

theorem Built.done {B b g : Nat} {w0 w : World} (h : Built B b g 0 1 w0 w) (hb : B ≤ b) : Built B b g 1 0 w0 ((w.drew.setCell ⟨b, 0, none⟩ (.int .u32 1)).setCell ⟨b, 1, none⟩ (.int .i32 0)) := by
  have a0 : w.drew.cell? ⟨b, 0, none⟩ = some (.int .u32 0) := h.c0
  have a1 : w.drew.cell? ⟨b, 1, none⟩ = some (.int .i32 1) := h.c1
  have a3 : w.drew.cell? ⟨b, 3, none⟩ = _ := h.c3
  have e0 : (w.drew.setCell ⟨b, 0, none⟩ (.int .u32 1)).cell? ⟨b, 0, none⟩ = some (.int .u32 1) := World.cell?_setCell_same _ _ _ a0
  have hR : RepT w.drew g := ⟨h.rep.tab, h.rep.esc, h.rep.rep⟩
  refine ⟨seti e0 (by decide), World.cell?_setCell_same _ _ _ (seti a1 (by decide)), seti (seti a3 (by decide)) (by decide), fun i => ?_, (hR.setCell a0).setCell e0, ((Below.drew h.low).setCell (p := ⟨b, 0, none⟩) hb _).setCell (p := ⟨b, 1, none⟩) hb _⟩
  rw [World.frozen?_setCell, World.frozen?_setCell]
  exact h.fz i

set_option maxRecDepth 100000 in
set_option maxHeartbeats 4000000 in
/-- Replacer.Replace, the first time. -/
theorem q_Replace (b o oc : Nat) (s : ByteArray) (w : World) (hs : s.size ≤ 1000000) (h0 : w.cell? ⟨b, 0, none⟩ = some (.int .u32 0)) (h1 : w.cell? ⟨b, 1, none⟩ = some (.int .i32 0)) (h3 : w.cell? ⟨b, 3, none⟩ = some .nilIface) (h4 : w.cell? ⟨b, 4, none⟩ = some (.slice (some ⟨o, 0, none⟩) 6 oc)) (hP : Pairs w o) (hob : o ≠ b) (fz : ∀ i : Nat, w.frozen? ⟨b, i, none⟩ = false) :
    Calls Tryz.prog 124 #[.pointer (some ⟨b, 0, none⟩), .string s] w fun e w' => e = .returned (.string ⟨(s.toList.flatMap escB).toArray⟩) ∧ Below b w w' := by
  have hP1 : Pairs (w.setCell ⟨b, 1, none⟩ (.int .i32 1)) o := ⟨setc hP.s0 hob, setc hP.s1 hob, setc hP.s2 hob, setc hP.s3 hob, setc hP.s4 hob, setc hP.s5 hob⟩
  have HD := Lib.hid (q_do b w (fun W => ∃ g, Built b b g 0 1 w W) h0 h1 (fz 1)
    (q_buildOnce b b o oc w _ ((Below.refl _ _).setCell (p := ⟨b, 1, none⟩) (Nat.le_refl _) _) (Nat.le_refl _) (seti h0 (by decide)) (World.cell?_setCell_same _ _ _ h1) (seti h3 (by decide)) (seti h4 (by decide)) hP1 (fun i => by rw [World.frozen?_setCell]; exact fz i))
    (fun W hW => by obtain ⟨g, q⟩ := hW; exact ⟨q.c0, q.fz 0, q.c1, q.fz 1⟩))
  have hbl := World.block_lt_of_cell? w _ h0
  clear h0 h1 h3 h4 hP fz hP1
  go_enter Tryz.func124, Tryz.ntmps124
  go_wp2_with fail
  refine HD.out.mono ?_
  rintro e w1 ⟨rfl, W, ⟨g, hW⟩, hw1⟩
  have hD := hW.done (Nat.le_refl _)
  rw [← hw1] at hD
  have c3 := hD.c3
  have HQ := Lib.hid (fun W (q : Below w1.heap.size w1 W) => q_replace g s W (hD.rep.below q) hs)
  have HB := Lib.hid hD.low
  clear hD hw1 hW HD
  have hm : ∀ (n : Nat) (w : World), (method (n + 1) 195 (.pointer (some ⟨g, 0, none⟩)) "Replace").run Tryz.prog w = .ok (199, .pointer (some ⟨g, 0, none⟩)) w := fun _ _ => by kernel_rfl
  go_wp2_with fail
  refine (HQ.out _ (Below.refl _ _)).mono ?_
  rintro e w2 ⟨rfl, hB2⟩
  have HB2 := Lib.hid (HB.out.trans (hB2.mono (Nat.le_trans (Nat.le_of_lt hbl) HB.out.size)))
  clear HQ HB hB2 hm
  go_wp2
  go_ret
  exact ⟨rfl, HB2.out⟩

def pairsV : List Value := [.string ⟨#[34]⟩, .string ⟨#[92, 34]⟩, .string ⟨#[92]⟩, .string ⟨#[92, 92]⟩, .string ⟨#[10]⟩, .string ⟨#[92, 110]⟩]
/-- A new Replacer. -/
structure Fresh (b o oc : Nat) (w : World) : Prop where
  c0 : w.cell? ⟨b, 0, none⟩ = some (.int .u32 0)
  c1 : w.cell? ⟨b, 1, none⟩ = some (.int .i32 0)
  c3 : w.cell? ⟨b, 3, none⟩ = some .nilIface
  c4 : w.cell? ⟨b, 4, none⟩ = some (.slice (some ⟨o, 0, none⟩) 6 oc)
  prs : Pairs w o
  ne : o ≠ b
  fz : ∀ i : Nat, w.frozen? ⟨b, i, none⟩ = false

set_option maxRecDepth 100000 in
set_option maxHeartbeats 4000000 in
theorem q_new (w : World) : Calls Tryz.prog 123 #[.slice (some ⟨w.heap.size, 0, none⟩) 6 6] (w.alloc (.cells pairsV.toArray 9)) fun e w' => ∃ b o oc, e = .returned (.pointer (some ⟨b, 0, none⟩)) ∧ Fresh b o oc w' ∧ w.heap.size ≤ b ∧ Below w.heap.size w w' := by
  obtain ⟨i0, hi, hz0, hz1, hz2⟩ := info_parts (show (Tryz.prog.info? 9).map (fun i => (i.zero, i.size, i.bytes)) = some (some (.string ⟨#[]⟩), 1, 16) by kernel_rfl)
  have HI := Lib.hid hi
  have HN : Hid ((w.alloc (.cells pairsV.toArray 9)).ownsRow w.heap.size 9 1 (.slice none 0 0) 0 []) := Lib.hid (World.ownsRow_nil _ _ _ _)
  clear hi
  go_enter Tryz.func123, Tryz.ntmps123
  go_wp2_with (at_builtin; refine wpList_append_own_at _ rfl _ _ 154 rfl w.heap.size 9 i0 _ 1 16 Tryz.underlying154 HI.out hz0 hz1 hz2 rfl (by decide) (.slice none 0 0) 0 _ rfl HN.out ⟨w.heap.size, 0, none⟩ 6 6 pairsV rfl rfl ?a1 ?a2 ?a3 ?a4 ?a5 ?_)
  case a1 => intro j u hj; rw [Addr.add_mid, Nat.zero_add]; exact cell_new' rfl (by simpa using hj)
  case a2 => intro u hu; simp [pairsV] at hu; rcases hu with rfl | rfl | rfl | rfl | rfl | rfl <;> rfl
  case a3 => unfold maxLen; omega
  case a4 => omega
  case a5 => simp
  intro v' w4 hown hgrow hne _
  have HO := Lib.hid hown
  have HG := Lib.hid hgrow
  have HNE := Lib.hid hne
  obtain ⟨va, vc, rfl⟩ := q_form hown
  clear hown hgrow hne
  go_wp2
  go_ret
  have hB4 : Below w.heap.size w w4 := ((Below.refl _ w).alloc (Nat.le_refl _) _).grown HG.out (Nat.le_trans (Nat.le_succ _) (by simp)) (fun k hk => by simp [Value.ownBlock] at hk)
  rcases HO.out.2 with ⟨hv, h0⟩ | ⟨o, cap, cur, hv, hbo, hcur, hr⟩
  · exact absurd h0 (by decide)
  have e1 : va = some ⟨o, 0, none⟩ := by injection hv
  subst e1
  have hol := lt_of_block hcur
  have hp : ∀ j u, pairsV[j]? = some u → w4.cell? ⟨o, j, none⟩ = some u := by
    intro j u hj
    have := HO.out.cells (g := o) rfl j u hj
    rwa [Addr.add_mid, Nat.zero_add] at this
  refine ⟨w4.heap.size, o, vc, rfl, ⟨cell_new' rfl rfl, cell_new' rfl rfl, cell_new' rfl rfl, cell_new' rfl rfl, ⟨cell_old' _ (hp 0 _ rfl), cell_old' _ (hp 1 _ rfl), cell_old' _ (hp 2 _ rfl), cell_old' _ (hp 3 _ rfl), cell_old' _ (hp 4 _ rfl), cell_old' _ (hp 5 _ rfl)⟩, by omega, fun i => ?_⟩, hB4.size, hB4.alloc hB4.size _⟩
  exact frozen_of_row _ _ _ _ _ (heap_alloc_new _ _)

set_option maxRecDepth 100000 in
set_option maxHeartbeats 4000000 in
theorem q_quote (s : ByteArray) (w : World) (hs : s.size ≤ 1000000) : Calls Tryz.prog 113 #[.string s] w fun e w' => e = .returned (.string ⟨(quoteS s).toArray⟩) ∧ Below w.heap.size w w' := by
  have HN := Lib.hid (q_new w)
  go_enter Tryz.func113, Tryz.ntmps113
  go_wp2_with fail
  refine HN.out.mono ?_
  rintro e w1 ⟨b, o, oc, rfl, hF, hb, hB1⟩
  have HR := Lib.hid (q_Replace b o oc s w1 hs hF.c0 hF.c1 hF.c3 hF.c4 hF.prs hF.ne hF.fz)
  have HB1 := Lib.hid hB1
  clear HN hF hB1
  go_wp2_with fail
  refine HR.out.mono ?_
  rintro e w2 ⟨rfl, hB2⟩
  have HB2 := Lib.hid (HB1.out.trans (hB2.mono hb))
  clear HR HB1 hB2
  obtain ⟨q, hq, hql⟩ : ∃ q : ByteArray, q = ⟨(s.toList.flatMap escB).toArray⟩ ∧ q.size ≤ 2000000 := ⟨_, rfl, by
    have h1 := esc_len s.toList
    have h2 : s.toList.length = s.size := by rw [Go.ByteArray.toList_eq]; rfl
    show ((s.toList.flatMap escB).toArray).size ≤ _
    rw [List.size_toArray]; omega⟩
  rw [← hq]
  have HQ := Lib.hid hq
  clear hq
  go_wp2
  all_goals (try (exfalso; omega))
  go_ret
  refine ⟨congrArg (fun x => Ending.returned (.string x)) ?_, HB2.out⟩
  rw [HQ.out]
  apply ByteArray.ext
  simp [quoteS, quoteL]
end Go.Proofs.YtnfdcfagdidmhaaGreatDoor
