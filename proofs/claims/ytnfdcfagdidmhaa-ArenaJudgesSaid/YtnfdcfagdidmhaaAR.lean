/-
  The program's Sound: no way up leads back. (Printed by genar.py.)
-/
import Derived.Test.YtnfdcfagdidmhaaAB
import Derived.Maps.AppendAt
import Derived.Maps.OwnIn
namespace Go.Proofs.Ytnfdcfagdidmhaa
open Go.RowKit Go.Shelf Classical
set_option linter.unusedVariables false

attribute [local go_sem] Oper.semAt_some

/-- Steps up from a over l to h. -/
def Seg (A : Ar) : Int → List Int → Int → Prop
  | a, [], h => a = h
  | a, x :: l, h => x = a ∧ A.has a ∧ Seg A (A.up a) l h
theorem Seg.snoc {A : Ar} : ∀ {l : List Int} {a h : Int}, Seg A a l h → A.has h → Seg A a (l ++ [h]) (A.up h)
  | [], a, h, e, hh => by have e : a = h := e; subst e; exact ⟨rfl, hh, rfl⟩
  | x :: l, a, h, ⟨e, ha, hs⟩, hh => ⟨e, ha, hs.snoc hh⟩
theorem Seg.way {A : Ar} : ∀ {l p : List Int} {a h : Int}, Seg A a l h → A.Way A.up h p → A.Way A.up a (l ++ p)
  | [], p, a, h, e, hw => by have e : a = h := e; subst e; exact hw
  | x :: l, p, a, h, ⟨e, ha, hs⟩, hw => ⟨e, ha, hs.way hw⟩
theorem Seg.rest {A : Ar} : ∀ {l p : List Int} {a h : Int}, Seg A a l h → A.Way A.up a p → ∃ q, p = l ++ q ∧ A.Way A.up h q
  | [], p, a, h, e, hw => by have e : a = h := e; subst e; exact ⟨p, rfl, hw⟩
  | x :: l, [], a, h, ⟨e, ha, hs⟩, hw => by
    have e0 : a = 0 := hw
    exact absurd e0 (has_ne ha)
  | x :: l, y :: p, a, h, ⟨e, ha, hs⟩, ⟨e2, _, hw⟩ => by
    obtain ⟨q, hq, hw2⟩ := hs.rest hw
    exact ⟨q, by rw [e, e2, hq]; rfl, hw2⟩
theorem seg_head {A : Ar} {l : List Int} {a h : Int} (hs : Seg A a l h) (hn : l ≠ []) : a ∈ l := by
  cases l with
  | nil => exact absurd rfl hn
  | cons x l => obtain ⟨rfl, -⟩ := hs; simp
theorem way_at {A : Ar} {up : Int → Int} : ∀ {l : List Int} {h x : Int}, A.Way up h l → x ∈ l → ∃ p, A.Way up x p
  | y :: l, h, x, ⟨e, hh, hw⟩, hx => by
    rcases List.mem_cons.1 hx with rfl | hx
    · exact ⟨x :: l, rfl, by rw [e]; exact hh, by rw [e]; exact hw⟩
    · exact way_at hw hx
theorem Seg.cycle {A : Ar} {l : List Int} {a h : Int} (hs : Seg A a l h) (hh : A.has a) (hm : h ∈ l) (hhh : A.has h) : ¬ A.Rooted := by
  intro hR
  obtain ⟨p, hp⟩ := hR a hh
  obtain ⟨q, rfl, hq⟩ := hs.rest hp
  have hnd := way_nodup hp
  cases q with
  | nil =>
    have e0 : h = 0 := hq
    exact has_ne hhh e0
  | cons y q =>
    obtain ⟨rfl, -, -⟩ := hq
    rw [List.nodup_append] at hnd
    exact hnd.2.2 y hm y (by simp) rfl

/-- What rooted keeps: the table of states, its box, the marks of the ranges that have ended; all below block N. -/
structure St (w : World) (m : Nat) (S : Nat → Int) (ds : List Deferred) (N : Nat) (W : World) : Prop where
  low : Below w.heap.size w W
  row : W.ownsRow w.heap.size 3 1 (.slice (some ⟨w.heap.size, 0, none⟩) m m) m (tab m (fun x => .int .i64 (S x)))
  box : W.heap[w.heap.size + 1]? = some (.cells #[.slice (some ⟨w.heap.size, 0, none⟩) m m] 32 (0, 0))
  big : w.heap.size + 1 < N
  size : N ≤ W.heap.size
  marks : ∃ Ds : List Nat, ds = Ds.map (fun D => { target := .collected D, args := #[] }) ∧ Ds.Nodup ∧ ∀ D ∈ Ds, w.heap.size + 1 < D ∧ D < N ∧ W.heap[D]? = some (.deferred (some []))
theorem St.upd {w W W' : World} {m N : Nat} {S : Nat → Int} {ds : List Deferred} {F : Nat → Prop} (h : St w m S ds N W) (hu : Upd F W W') (hF : ∀ k, F k → N ≤ k) : St w m S ds N W' := by
  obtain ⟨Ds, h1, h2, h3⟩ := h.marks
  have hno : ∀ k, k < N → ¬ F k := fun k hk hf => by have := hF k hf; omega
  have hb := h.big; have hs := h.size
  refine ⟨h.low.trans (hu.toBelow' (fun k hk => hno k (by omega)) h.low.size), owns_upd h.row hu (fun k hk => ?_), (hu.block _ (by omega) (hno _ hb)).trans h.box, hb, Nat.le_trans hs hu.size, Ds, h1, h2, fun D hD => ⟨(h3 D hD).1, (h3 D hD).2.1, (hu.block D (by have := (h3 D hD).2.1; omega) (hno _ (h3 D hD).2.1)).trans (h3 D hD).2.2⟩⟩
  simp [Value.ownBlock] at hk
  exact hno k (by omega)
theorem St.lift {w W : World} {m N N' : Nat} {S : Nat → Int} {ds : List Deferred} (h : St w m S ds N W) (h1 : N ≤ N') (h2 : N' ≤ W.heap.size) : St w m S ds N' W := by
  obtain ⟨Ds, q1, q2, q3⟩ := h.marks
  exact ⟨h.low, h.row, h.box, Nat.lt_of_lt_of_le h.big h1, h2, Ds, q1, q2, fun D hD => ⟨(q3 D hD).1, Nat.lt_of_lt_of_le (q3 D hD).2.1 h1, (q3 D hD).2.2⟩⟩
theorem St.set {w W : World} {m N : Nat} {S : Nat → Int} {ds : List Deferred} (h : St w m S ds N W) (j : Nat) (u : Int) : St w m (fun x => if x = j then u else S x) ds N (W.setCell ⟨w.heap.size, j, none⟩ (.int .i64 u)) := by
  obtain ⟨Ds, h1, h2, h3⟩ := h.marks
  have ho := (h.row.stored j (.int .i64 u)).1
  rw [tab_set] at ho
  refine ⟨h.low.setCell (Nat.le_refl _) _, ?_, (heap_set_other _ _ _ _ (by simp)).trans h.box, h.big, by simpa using h.size, Ds, h1, h2, fun D hD => ⟨(h3 D hD).1, (h3 D hD).2.1, (heap_set_other _ _ _ _ (by have := (h3 D hD).1; show D ≠ w.heap.size; omega)).trans (h3 D hD).2.2⟩⟩
  rw [show tab m (fun x => Value.int .i64 (if x = j then u else S x)) = tab m (fun x => if x = j then .int .i64 u else .int .i64 (S x)) from tab_congr (fun x _ => by split <;> rfl)]
  exact ho
theorem St.congr {w W : World} {m N : Nat} {S S' : Nat → Int} {ds : List Deferred} (h : St w m S ds N W) (e : ∀ x, x < m → S x = S' x) : St w m S' ds N W := by
  obtain ⟨q1, q2, q3, q4, q5, q6⟩ := h
  refine ⟨q1, ?_, q3, q4, q5, q6⟩
  rw [← tab_congr (f := fun x => Value.int .i64 (S x)) (g := fun x => Value.int .i64 (S' x)) (fun x hx => by rw [e x hx])]
  exact q2
theorem St.mark {w W : World} {m N D : Nat} {S : Nat → Int} {ds : List Deferred} (h : St w m S ds N W) (h1 : N ≤ D) (h2 : W.heap[D]? = some (.deferred (some []))) : St w m S ({ target := .collected D, args := #[] } :: ds) (D + 1) W := by
  obtain ⟨Ds, q1, q2, q3⟩ := h.marks
  have hl := lt_of_block h2
  have hb := h.big
  refine ⟨h.low, h.row, h.box, by omega, by omega, D :: Ds, by rw [q1]; rfl, List.nodup_cons.2 ⟨fun hD => by have := (q3 D hD).2.1; omega, q2⟩, fun D' hD => ?_⟩
  rcases List.mem_cons.1 hD with rfl | hD
  · exact ⟨by omega, by omega, h2⟩
  · exact ⟨(q3 D' hD).1, by have := (q3 D' hD).2.1; omega, (q3 D' hD).2.2⟩

/-- A function leaves with marks alone among its deferred calls. -/
theorem leaves_marks {P : Program} {n : Nat} {fn : Func} {tmps : Array Value} {R : Ending → World → Prop} {B : Nat} : ∀ (Ds : List Nat) (W : World), Ds.Nodup → (∀ D ∈ Ds, B ≤ D ∧ W.heap[D]? = some (.deferred (some []))) →
    (∀ W', Below B W W' → ∃ v, (results fn tmps).run P W' = .ok v W' ∧ R (.returned v) W') → B ≤ W.heap.size →
    LeavesInM Fence.wide n P fn tmps R (Ds.map (fun D => { target := .collected D, args := #[] })) .returning W
  | [], W, _, _, h, _ => h W (Below.refl _ _)
  | D :: Ds, W, hn, hD, h, hB => by
    obtain ⟨hd1, hd2⟩ := List.nodup_cons.1 hn
    have hbel : Below B W (W.putObj D (.deferred none)) := Upd.toBelow' (F := fun k => k = D) (upd_put _ rfl) (fun k hk e => by have := (hD D (by simp)).1; omega) hB
    refine ⟨by simp, .inl ⟨D, _, rfl, run_takeDeferred (hD D (by simp)).2, leaves_marks Ds _ hd2 (fun D' hD' => ⟨(hD D' (by simp [hD'])).1, ?_⟩) (fun W' hW' => h W' (hbel.trans hW')) (by simpa using hB)⟩⟩
    exact (World.putObj_heap_other (fun e => hd1 (by rw [← e]; exact hD'))).trans (hD D' (by simp [hD'])).2

theorem infoInt2 : (Try.prog.info? 3).map (fun i => (i.zero, i.size, i.bytes)) = some (some (.int .i64 0), 1, 8) := by kernel_rfl

/-- The states within a round. -/
noncomputable def stL (L : List Int) (S : Nat → Int) (y : Nat) : Int := if (y : Int) ∈ L then 1 else S y
/-- The states between the rounds. -/
def RInv (A : Ar) (S : Nat → Int) (k : Nat) : Prop := (∀ x : Nat, x ≤ A.ns.length → S x = 0 ∨ (S x = 2 ∧ A.has x ∧ ∃ p, A.Way A.up x p)) ∧ ∀ x : Nat, 1 ≤ x → x ≤ k → S x = 2
/-- The way of a round. -/
def SegP (A : Ar) (k : Int) (L : List Int) (x : Int) : Prop := Seg A (k + 1) L x ∧ L.Nodup ∧ (∀ y ∈ L, A.has y) ∧ (x = 0 ∨ A.has x)
/-- The states within the range. -/
noncomputable def stB {L : List Int} (pre : List { p : Int × Int // p.2 ∈ L }) (L' : List Int) (S : Nat → Int) (y : Nat) : Int := if ∃ p ∈ pre, p.1.2 = (y : Int) then 2 else stL L' S y
def lenOf : Value → Nat
  | .slice _ k _ => k
  | _ => 0

set_option maxRecDepth 100000 in
set_option maxHeartbeats 8000000 in
theorem Rooted_any (A : Ar) (v : Value) (w : World) (hv : RNodes w v A.ns) (hs : A.ns.length ≤ 100000) (hup : A.UpOK) :
    Calls Try.prog 92 #[v] w fun e w' => e = .returned (.bool (decide A.Rooted)) ∧ Below w.heap.size w w' := by
  obtain ⟨j0, hj, hy0, hy1, hy2⟩ := info_parts infoInt2
  have m32 := fun W : World => run_make (P := Try.prog) W 32 3 j0 _ Try.underlying32 hj hy0 .i64 .i64 ((A.ns.length : Int) + 1) ((A.ns.length : Int) + 1) (by omega) (by omega) (by rw [hy2]; omega) (by omega)
  rw [hy1] at m32
  simp only [show ((A.ns.length : Int) + 1).toNat = A.ns.length + 1 from by omega] at m32
  have HI := Lib.hid hj
  have HV := Lib.hid hv
  have HUP := Lib.hid hup
  obtain ⟨a, c, rfl, p1, p2, -⟩ := hv
  clear hj hup
  refine (callsIn_wide (n := 8)).1 ?_
  refine callsIn_of_wp_marks Try.func92 rfl trivial ?_ rfl
  simp only [Try.ntmps92, List.size_toArray, List.length_cons, List.length_nil, Nat.reduceAdd, Nat.reduceSub, Array.replicate_succ, Array.replicate_zero, List.push_toArray, List.append_toArray, List.nil_append, List.cons_append]
  gi_wp2
  generalize hW0 : (w.alloc (.cells (madeCells #[.int .i64 0] (A.ns.length + 1)) 3)).alloc (.cells #[.slice (some ⟨w.heap.size, 0, none⟩) (A.ns.length + 1) (A.ns.length + 1)] 32) = W0
  have HST0 : Hid (St w (A.ns.length + 1) (fun _ => 0) [] (w.heap.size + 2) W0) := Lib.hid (by
    have e := tab_made (A.ns.length + 1) (.int .i64 0)
    rw [Nat.mul_one] at e
    have o1 := World.ownsRow_made (base := w.heap.size) (e := 3) (size := 1) w (madeCells #[.int .i64 0] (A.ns.length + 1)) (A.ns.length + 1) (Nat.le_refl _) (by unfold maxLen; omega) (by rw [size_madeCells]; omega)
    subst hW0
    refine ⟨((Below.refl _ _).alloc (Nat.le_refl _) _).alloc (by simp) _, ?_, ?_, by omega, by simp, [], rfl, List.nodup_nil, fun D hD => by simp at hD⟩
    · refine World.ownsRow.alloc ?_ _
      rw [← e]
      exact World.ownsRow_lit w _ _ (Nat.le_refl _) (by unfold maxLen; omega) (by rw [size_madeCells]; omega)
    · have := World.alloc_heap_new (w.alloc (.cells (madeCells #[.int .i64 0] (A.ns.length + 1)) 3)) (.cells #[.slice (some ⟨w.heap.size, 0, none⟩) (A.ns.length + 1) (A.ns.length + 1)] 32)
      rwa [World.size_alloc] at this)
  clear hW0 m32
  refine wpIn_loop (fun a' w' => ∃ u2 u4 u5 u6 u7 u9 u16 u17 u18 u19 u20 u21 u22 u23 u24 u25 u26 u27 u28 u29 u30 u31 u32 u33 u34 u35 u36 u37 u38 u39 u40 u41 u42 u43 u44 u45 u46 u47 u48 u49 u50 u51 u52 u53 u54 u55 u56 u57 u58 u59 u60 u61 u62 u63 : Value, ∃ ds : List Deferred, (∃ (k : Nat) (S : Nat → Int) (N : Nat), k ≤ A.ns.length ∧ u16 = .int .i64 (k : Int) ∧ Hid (St w (A.ns.length + 1) S ds N w') ∧ Hid (RInv A S k)) ∧ a' = { tmps := #[.slice a A.ns.length c, undef, u2, .pointer (some ⟨w.heap.size + 1, 0, none⟩), u4, u5, u6, u7, undef, u9, .slice a A.ns.length c, .int .i64 (A.ns.length : Int), .int .i64 ((A.ns.length : Int) + 1), .slice (some ⟨w.heap.size, 0, none⟩) (A.ns.length + 1) (A.ns.length + 1), .slice a A.ns.length c, .int .i64 (A.ns.length : Int), u16, u17, u18, u19, u20, u21, u22, u23, u24, u25, u26, u27, u28, u29, u30, u31, u32, u33, u34, u35, u36, u37, u38, u39, u40, u41, u42, u43, u44, u45, u46, u47, u48, u49, u50, u51, u52, u53, u54, u55, u56, u57, u58, u59, u60, u61, u62, u63], defers := ds }) (fun a' _ => A.ns.length - (intOf (a'.tmps.getD 16 undef)).toNat) ?start ?round
  case start =>
    repeat apply Exists.intro
    refine ⟨?_, rfl⟩
    exact ⟨0, fun _ => 0, _, Nat.zero_le _, rfl, HST0, Lib.hid ⟨fun x _ => Or.inl rfl, fun x h1 h2 => by omega⟩⟩
  case round =>
  clear HST0
  rintro a' wr ⟨u2, u4, u5, u6, u7, u9, u16, u17, u18, u19, u20, u21, u22, u23, u24, u25, u26, u27, u28, u29, u30, u31, u32, u33, u34, u35, u36, u37, u38, u39, u40, u41, u42, u43, u44, u45, u46, u47, u48, u49, u50, u51, u52, u53, u54, u55, u56, u57, u58, u59, u60, u61, u62, u63, ds, ⟨k, S, N, hk, rfl, hSt, hInv⟩, rfl⟩
  by_cases hlt : k < A.ns.length
  case neg =>
    have HF := Lib.hid (show A.Rooted from fun h hh => by
      have h1 := hh.1
      have h2 := hh.2
      unfold Ar.n at h2
      have e2 := hInv.out.2 h.toNat (by omega) (by omega)
      rcases hInv.out.1 h.toNat (by omega) with e | ⟨-, -, hp⟩
      · rw [e] at e2; omega
      · rw [show ((h.toNat : Nat) : Int) = h by omega] at hp; exact hp)
    clear hInv
    gi_wp2
    obtain ⟨Ds, rfl, hn, hD⟩ := hSt.out.marks
    exact leaves_marks (B := w.heap.size) Ds wr hn (fun D hd => ⟨by have := (hD D hd).1; omega, (hD D hd).2.2⟩) (fun W' hW' => ⟨.bool true, by simp [results, Try.f92, go_sem], ret_bool (decide_eq_true HF.out).symm, hSt.out.low.trans hW'⟩) hSt.out.low.size
  case pos =>
  have hhk : A.has ((k : Int) + 1) := ⟨by omega, by unfold Ar.n; omega⟩
  have HHK := Lib.hid hhk
  clear hhk
  have hNw : N ≤ wr.heap.size := hSt.out.size
  obtain ⟨wo, rfl⟩ : ∃ wo : World, wo = wr := ⟨_, rfl⟩
  gi_wp2
  gi_loopw [6, 5] (fun h way wx => ∃ (L : List Int) (x : Int) (vb : Option Addr) (vc : Nat), h = .int .i64 x ∧ way = .slice vb L.length vc ∧ Hid (SegP A (k : Int) L x) ∧ Hid (wx.ownsRow wo.heap.size 3 1 (.slice vb L.length vc) L.length (L.map intv)) ∧ Hid (St w (A.ns.length + 1) (stL L S) ds N wx) ∧ wo.heap.size ≤ wx.heap.size) (fun _ way _ => A.ns.length + 1 - lenOf way)
  case atStart => exact ⟨[], _, none, 0, rfl, rfl, Lib.hid ⟨rfl, List.nodup_nil, fun y hy => by simp at hy, Or.inr HHK.out⟩, Lib.hid (World.ownsRow_nil _ _ _ _), Lib.hid (hSt.out.congr (fun y _ => by simp [stL])), Nat.le_refl _⟩
  case round =>
    clear hSt
    obtain ⟨L, x, vb, vc, rfl, rfl, hSeg, hWay, hSt, hsz⟩ := hrel
    have hLn : L.length ≤ A.ns.length := len_le_of_nodup _ _ hSeg.out.2.1 (fun y hy => hSeg.out.2.2.1 y hy)
    have b3 := box_cell hSt.out.box
    by_cases hx0 : x = 0
    case pos =>
      subst hx0
      have hz : ((0 : Int) != 0) = false := rfl
      have HX : Hid ((∀ y ∈ L, ∃ p, A.Way A.up y p) ∧ (L = [] → S (k + 1) = 2)) := Lib.hid ⟨fun y hy => way_at (by have := hSeg.out.1.way (show A.Way A.up 0 [] from rfl); rw [List.append_nil] at this; exact this) hy, fun e => by have := hSeg.out.1; rw [e] at this; have e0 : (k : Int) + 1 = 0 := this; omega⟩
      gi_wp2_with fail
      refine ⟨trivial, ?_⟩
      refine (callsIn_wide.2 (Backward_any vb L.length vc _)).mono ?_
      rintro e w2 ⟨rfl, rfl⟩
      gi_wp2_with fail
      have hbx : (wr.alloc (.cells #[.slice vb L.length vc] 32)).heap[wr.heap.size]? = some (.cells #[.slice vb L.length vc] 32 (0, 0)) := World.alloc_heap_new wr _
      have hW1 := hWay.out.alloc (.cells #[.slice vb L.length vc] 32)
      have hS1 : St w (A.ns.length + 1) (stB ([] : List { p : Int × Int // p.2 ∈ L }) L S) ds (wr.alloc (.cells #[.slice vb L.length vc] 32)).heap.size (wr.alloc (.cells #[.slice vb L.length vc] 32)) :=
        ((hSt.out.upd (F := fun _ => False) ((Upd.refl _ _).alloc _) (fun k h => h.elim)).congr (fun z _ => by simp [stB])).lift (by simp; have := hSt.out.size; omega) (Nat.le_refl _)
      have hob := owns_block hWay.out
      have hNN := hSt.out.big
      have hNs := hSt.out.size
      generalize wr.alloc (.cells #[.slice vb L.length vc] 32) = W1 at *
      have hseq := Back_seq L vb vc wr.heap.size wo.heap.size 7 (by omega) (by omega) W1 (fun k => k = w.heap.size) hbx hW1 (fun e => by omega) (fun k hk e => by have := (hob k hk).1; omega)
      have HSG := Lib.hid hSeg.out
      have HS1 := Lib.hid hS1
      clear hbx hW1 hob hSeg hSt hWay hS1
      refine wpIn_rangeFunc_U rfl (by omega) (gf := 136) (lb := #[.pointer (some ⟨wr.heap.size, 0, none⟩)]) rfl trivial (enters_of Try.func136 (by kernel_rfl) rfl)
        hseq (fun _ h => h.elim) (by rintro k rfl; have := HS1.out.big; omega) (fun _ => rfl)
        (fun pre W => St w (A.ns.length + 1) (stB pre L S) ds W1.heap.size W) (fun _ _ => False)
        (fun s A' B hs hu => hs.upd hu (fun k hk => hk.elim (fun h => h.elim) id)) (fun s A' B hs hu => hs) HS1.out ?a11 ?assign1 ?body1 ?done1 ?stop1
      case assign1 =>
        intro l p W K hK
        gi_wp2
        exact hK
      case body1 =>
        rintro l pre ⟨⟨r1, r2⟩, hp⟩ W hI
        have hpL := HSG.out.2.2.1 _ hp
        dsimp only at hpL
        have q1 := hpL.1
        have q2 := hpL.2
        unfold Ar.n at q2
        obtain ⟨y', rfl⟩ : ∃ y' : Nat, r2 = (y' : Int) := ⟨r2.toNat, by omega⟩
        have b4 := box_cell hI.box
        have s4 := hI.row.cellAt y' (by omega)
        rw [tab_get (by omega)] at s4
        have s5 := hI.row.frozenAt y'
        have HI2 := Lib.hid ((hI.set y' 2).congr (S' := stB (pre ++ [⟨(r1, (y' : Int)), hp⟩]) L S) (fun z _ => by
          unfold stB
          by_cases hz : z = y'
          · subst hz
            rw [if_pos rfl, if_pos ⟨⟨(r1, (z : Int)), hp⟩, by simp, rfl⟩]
          · rw [if_neg hz]
            by_cases he : ∃ p ∈ pre, p.1.2 = (z : Int)
            · obtain ⟨p, hp1, hp2⟩ := he
              rw [if_pos ⟨p, hp1, hp2⟩, if_pos ⟨p, by simp [hp1], hp2⟩]
            · rw [if_neg he, if_neg]
              rintro ⟨p, hp1, hp2⟩
              rcases List.mem_append.1 hp1 with hp1 | hp1
              · exact he ⟨p, hp1, hp2⟩
              · simp at hp1
                rw [hp1] at hp2
                simp at hp2
                omega))
        clear hI hpL hseq
        gi_wp2
        exact ⟨(Upd.refl (fun k => k = w.heap.size) W).setCell (p := ⟨w.heap.size, y', none⟩) (.inr rfl) _, HI2.out⟩
      case done1 =>
        rintro D xs W rfl hI hD1 hD2
        have HSN := Lib.hid ((hI.mark hD1 hD2).congr (S' := fun z => if (z : Int) ∈ L then 2 else S z) (fun z _ => by
          unfold stB stL
          by_cases hz : (z : Int) ∈ L
          · rw [if_pos (backL_snd.2 hz), if_pos hz]
          · rw [if_neg (fun h => hz (backL_snd.1 h)), if_neg hz, if_neg hz]))
        have HRI : Hid (RInv A (fun z => if (z : Int) ∈ L then 2 else S z) (k + 1)) := Lib.hid ⟨fun z hz => by
          by_cases hzL : (z : Int) ∈ L
          · exact Or.inr ⟨if_pos hzL, HSG.out.2.2.1 _ hzL, HX.out.1 _ hzL⟩
          · simp only [if_neg hzL]; exact hInv.out.1 z hz, fun z h1 h2 => by
          by_cases hzL : (z : Int) ∈ L
          · exact if_pos hzL
          · simp only [if_neg hzL]
            by_cases hzk : z ≤ k
            · exact hInv.out.2 z h1 hzk
            · have hzk1 : z = k + 1 := by omega
              subst hzk1
              by_cases hLn : L = []
              · exact HX.out.2 hLn
              · refine absurd (seg_head HSG.out.1 hLn) ?_
                rw [show ((k : Int) + 1) = ((k + 1 : Nat) : Int) by omega]; exact hzL⟩
        clear hI hseq
        gi_wp2
        refine ⟨?_, ?mm1⟩
        · repeat apply Exists.intro
          refine ⟨?_, rfl⟩
          exact ⟨k + 1, _, _, hlt, by go_num, HSN, HRI⟩
        case mm1 => simp [intOf]; omega
      case stop1 =>
        rintro D pre W _ hI
        exact hI.elim
    case neg =>
    have hxh : A.has x := hSeg.out.2.2.2.resolve_left hx0
    have hz : (x != 0) = true := by simp [hx0]
    have hx1 := hxh.1
    have hx2 := hxh.2
    unfold Ar.n at hx2
    have HXH := Lib.hid hxh
    clear hx0 hxh
    obtain ⟨y, rfl⟩ : ∃ y : Nat, x = (y : Int) := ⟨x.toNat, by omega⟩
    have s1 := hSt.out.row.cellAt y (by omega)
    rw [tab_get (by omega)] at s1
    have s2 := hSt.out.row.frozenAt y
    by_cases hm : (y : Int) ∈ L
    case pos =>
      rw [show stL L S y = 1 from if_pos hm] at s1
      have HF := Lib.hid (hSeg.out.1.cycle HHK.out hm HXH.out)
      clear hm
      gi_wp2
      obtain ⟨Ds, rfl, hn, hD⟩ := hSt.out.marks
      exact leaves_marks (B := w.heap.size) Ds wr hn (fun D hd => ⟨by have := (hD D hd).1; omega, (hD D hd).2.2⟩) (fun W' hW' => ⟨.bool false, by simp [results, Try.f92, go_sem], ret_bool (decide_eq_false HF.out).symm, hSt.out.low.trans hW'⟩) hSt.out.low.size
    case neg =>
    rw [show stL L S y = S y from if_neg hm] at s1
    rcases hInv.out.1 y (by omega) with hS | ⟨hS, -, hp⟩
    case inr =>
      rw [hS] at s1
      have HX : Hid ((∀ y ∈ L, ∃ p, A.Way A.up y p) ∧ (L = [] → S (k + 1) = 2)) := Lib.hid ⟨fun y' hy' => by
        obtain ⟨p, hp⟩ := hp
        exact way_at (hSeg.out.1.way hp) (List.mem_append.2 (Or.inl hy')), fun e => by
        have := hSeg.out.1; rw [e] at this
        have e0 : (k : Int) + 1 = (y : Int) := this
        rw [show k + 1 = y by omega]; exact hS⟩
      clear hm hS hp
      gi_wp2_with fail
      refine ⟨trivial, ?_⟩
      refine (callsIn_wide.2 (Backward_any vb L.length vc _)).mono ?_
      rintro e w2 ⟨rfl, rfl⟩
      gi_wp2_with fail
      have hbx : (wr.alloc (.cells #[.slice vb L.length vc] 32)).heap[wr.heap.size]? = some (.cells #[.slice vb L.length vc] 32 (0, 0)) := World.alloc_heap_new wr _
      have hW1 := hWay.out.alloc (.cells #[.slice vb L.length vc] 32)
      have hS1 : St w (A.ns.length + 1) (stB ([] : List { p : Int × Int // p.2 ∈ L }) L S) ds (wr.alloc (.cells #[.slice vb L.length vc] 32)).heap.size (wr.alloc (.cells #[.slice vb L.length vc] 32)) :=
        ((hSt.out.upd (F := fun _ => False) ((Upd.refl _ _).alloc _) (fun k h => h.elim)).congr (fun z _ => by simp [stB])).lift (by simp; have := hSt.out.size; omega) (Nat.le_refl _)
      have hob := owns_block hWay.out
      have hNN := hSt.out.big
      have hNs := hSt.out.size
      generalize wr.alloc (.cells #[.slice vb L.length vc] 32) = W1 at *
      have hseq := Back_seq L vb vc wr.heap.size wo.heap.size 7 (by omega) (by omega) W1 (fun k => k = w.heap.size) hbx hW1 (fun e => by omega) (fun k hk e => by have := (hob k hk).1; omega)
      have HSG := Lib.hid hSeg.out
      have HS1 := Lib.hid hS1
      clear hbx hW1 hob hSeg hSt hWay hS1
      refine wpIn_rangeFunc_U rfl (by omega) (gf := 136) (lb := #[.pointer (some ⟨wr.heap.size, 0, none⟩)]) rfl trivial (enters_of Try.func136 (by kernel_rfl) rfl)
        hseq (fun _ h => h.elim) (by rintro k rfl; have := HS1.out.big; omega) (fun _ => rfl)
        (fun pre W => St w (A.ns.length + 1) (stB pre L S) ds W1.heap.size W) (fun _ _ => False)
        (fun s A' B hs hu => hs.upd hu (fun k hk => hk.elim (fun h => h.elim) id)) (fun s A' B hs hu => hs) HS1.out ?a12 ?assign2 ?body2 ?done2 ?stop2
      case assign2 =>
        intro l p W K hK
        gi_wp2
        exact hK
      case body2 =>
        rintro l pre ⟨⟨r1, r2⟩, hp⟩ W hI
        have hpL := HSG.out.2.2.1 _ hp
        dsimp only at hpL
        have q1 := hpL.1
        have q2 := hpL.2
        unfold Ar.n at q2
        obtain ⟨y', rfl⟩ : ∃ y' : Nat, r2 = (y' : Int) := ⟨r2.toNat, by omega⟩
        have b4 := box_cell hI.box
        have s4 := hI.row.cellAt y' (by omega)
        rw [tab_get (by omega)] at s4
        have s5 := hI.row.frozenAt y'
        have HI2 := Lib.hid ((hI.set y' 2).congr (S' := stB (pre ++ [⟨(r1, (y' : Int)), hp⟩]) L S) (fun z _ => by
          unfold stB
          by_cases hz : z = y'
          · subst hz
            rw [if_pos rfl, if_pos ⟨⟨(r1, (z : Int)), hp⟩, by simp, rfl⟩]
          · rw [if_neg hz]
            by_cases he : ∃ p ∈ pre, p.1.2 = (z : Int)
            · obtain ⟨p, hp1, hp2⟩ := he
              rw [if_pos ⟨p, hp1, hp2⟩, if_pos ⟨p, by simp [hp1], hp2⟩]
            · rw [if_neg he, if_neg]
              rintro ⟨p, hp1, hp2⟩
              rcases List.mem_append.1 hp1 with hp1 | hp1
              · exact he ⟨p, hp1, hp2⟩
              · simp at hp1
                rw [hp1] at hp2
                simp at hp2
                omega))
        clear hI hpL hseq
        gi_wp2
        exact ⟨(Upd.refl (fun k => k = w.heap.size) W).setCell (p := ⟨w.heap.size, y', none⟩) (.inr rfl) _, HI2.out⟩
      case done2 =>
        rintro D xs W rfl hI hD1 hD2
        have HSN := Lib.hid ((hI.mark hD1 hD2).congr (S' := fun z => if (z : Int) ∈ L then 2 else S z) (fun z _ => by
          unfold stB stL
          by_cases hz : (z : Int) ∈ L
          · rw [if_pos (backL_snd.2 hz), if_pos hz]
          · rw [if_neg (fun h => hz (backL_snd.1 h)), if_neg hz, if_neg hz]))
        have HRI : Hid (RInv A (fun z => if (z : Int) ∈ L then 2 else S z) (k + 1)) := Lib.hid ⟨fun z hz => by
          by_cases hzL : (z : Int) ∈ L
          · exact Or.inr ⟨if_pos hzL, HSG.out.2.2.1 _ hzL, HX.out.1 _ hzL⟩
          · simp only [if_neg hzL]; exact hInv.out.1 z hz, fun z h1 h2 => by
          by_cases hzL : (z : Int) ∈ L
          · exact if_pos hzL
          · simp only [if_neg hzL]
            by_cases hzk : z ≤ k
            · exact hInv.out.2 z h1 hzk
            · have hzk1 : z = k + 1 := by omega
              subst hzk1
              by_cases hLn : L = []
              · exact HX.out.2 hLn
              · refine absurd (seg_head HSG.out.1 hLn) ?_
                rw [show ((k : Int) + 1) = ((k + 1 : Nat) : Int) by omega]; exact hzL⟩
        clear hI hseq
        gi_wp2
        refine ⟨?_, ?mm2⟩
        · repeat apply Exists.intro
          refine ⟨?_, rfl⟩
          exact ⟨k + 1, _, _, hlt, by go_num, HSN, HRI⟩
        case mm2 => simp [intOf]; omega
      case stop2 =>
        rintro D pre W _ hI
        exact hI.elim
    case inl =>
    rw [hS] at s1
    obtain ⟨b1, o1, rfl, -, hcs⟩ := HV.out.at (by omega)
    obtain ⟨nd, hn⟩ : ∃ nd, A.ns[y - 1]? = some nd := ⟨_, List.getElem?_eq_getElem (by omega)⟩
    obtain ⟨kv, av, F, -, -⟩ := hcs (y - 1) nd hn
    have hg : A.get (y : Int) = nd := by
      show (A.ns[(y : Int).toNat - 1]?).getD zeroNd = nd
      rw [show (y : Int).toNat - 1 = y - 1 from by omega, hn]; rfl
    have HGF := Lib.hid (And.intro hg F)
    have hup : A.up (y : Int) = if nd.parent ≠ 0 then nd.parent else nd.host := by unfold Ar.up; rw [hg]
    have hSt2 := hSt.out.set y 1
    have hWay2 : (wr.setCell ⟨w.heap.size, y, none⟩ (.int .i64 1)).ownsRow wo.heap.size 3 1 (.slice vb L.length vc) L.length (L.map intv) := owns_upd hWay.out ((Upd.refl (fun k => k = w.heap.size) wr).setCell (p := ⟨w.heap.size, y, none⟩) (.inr rfl) _) (fun k hk e => by have := (owns_block hWay.out k hk).1; have := hSt.out.big; have := hSt.out.size; omega)
    have HS2 := Lib.hid (hSt2.congr (S' := stL (L ++ [(y : Int)]) S) (fun z _ => by
      unfold stL
      by_cases hzy : z = y
      · subst hzy; simp
      · have : ((z : Int) = (y : Int)) = False := by simp; omega
        simp [hzy, List.mem_append, this]))
    have HW2 := Lib.hid hWay2
    have HSEG := Lib.hid (show (x' : Int) → x' = A.up y → SegP A k (L ++ [(y : Int)]) x' from fun x' e => ⟨by rw [e]; exact hSeg.out.1.snoc HXH.out, by rw [List.nodup_append]; exact ⟨hSeg.out.2.1, by simp, fun p hp q hq => by simp at hq; subst hq; exact fun e => hm (by rw [← e]; exact hp)⟩, fun z hz => by
      rcases List.mem_append.1 hz with hz | hz
      · exact hSeg.out.2.2.1 z hz
      · simp at hz; rw [hz]; exact HXH.out, by
      by_cases h0 : A.up y = 0
      · exact Or.inl (by rw [e, h0])
      · exact Or.inr (by rw [e]; exact HUP.out _ HXH.out h0)⟩)
    have hlL : L.length < A.ns.length := by
      have := len_le_of_nodup A.ns.length (L ++ [(y : Int)]) (HSEG.out _ rfl).2.1 (fun z hz => (HSEG.out _ rfl).2.2.1 z hz)
      simp at this; omega
    have HUPE := Lib.hid hup
    have hnt : ((y : Int) - 1).toNat = y - 1 := by omega
    have hsz2 := hsz
    clear hS hm hcs hn F hg hup hSt2 hWay2 hSeg hSt hWay
    gi_wp2_with (gi_at_builtin; refine wpListIn_append_own_at _ rfl _ _ 32 rfl wo.heap.size 3 j0 _ 1 8 Try.underlying32 HI.out hy0 hy1 hy2 rfl (by decide) _ _ _ rfl (HW2.out.alloc _) ⟨wr.heap.size, 0, none⟩ 1 1 [intv (y : Int)] rfl rfl ?c1 ?c2 ?c3 ?c4 ?c5 ?_)
    case c1 => intro j u hj; rw [Addr.add_mid, Nat.zero_add]; exact cell_new' (by simp) (by simpa [intv] using hj)
    case c2 => intro u hu; simp at hu; subst hu; rfl
    case c3 => unfold maxLen; omega
    case c4 => omega
    case c5 => simp; omega
    intro v' w1 hown hgrow _ hat
    obtain ⟨vb', vc', rfl⟩ := ownsForm hown
    have hS3 := (HS2.out.upd (F := fun _ => False) ((Upd.refl _ _).alloc (.cells #[.int .i64 (y : Int)] 3)) (fun k h => h.elim)).upd (F := fun k => wo.heap.size ≤ k) (Upd.grown hgrow (fun k hk => (owns_block HW2.out k hk).1)) (fun k hk => by omega)
    have hsz3 : wo.heap.size ≤ w1.heap.size := by have := hgrow.size; simp at this; omega
    have f1 := Below.old hS3.low HGF.out.2.c1
    have f12 := Below.old hS3.low HGF.out.2.c12
    have HO3 : Hid (w1.ownsRow wo.heap.size 3 1 (.slice vb' (L ++ [(y : Int)]).length vc') (L ++ [(y : Int)]).length ((L ++ [(y : Int)]).map intv)) := Lib.hid (by simpa using hown)
    have HS3 := Lib.hid hS3
    clear hown hgrow hat hS3 HS2 HW2 hz
    by_cases hpz : nd.parent = 0
    case pos =>
      have z1 : (nd.parent == 0) = true := by simp [hpz]
      have HE := Lib.hid (show nd.host = A.up (y : Int) by rw [HUPE.out, if_neg (by simp [hpz])])
      clear hpz
      gi_wp2
      go_roundw
      case rel => exact ⟨L ++ [(y : Int)], nd.host, vb', vc', rfl, by simp, Lib.hid (HSEG.out _ HE.out), HO3, HS3, hsz3⟩
      case measure => simp [lenOf]; omega
    case neg =>
      have z1 : (nd.parent == 0) = false := by simp [hpz]
      have HE := Lib.hid (show nd.parent = A.up (y : Int) by rw [HUPE.out, if_pos hpz])
      clear hpz
      gi_wp2
      go_roundw
      case rel => exact ⟨L ++ [(y : Int)], nd.parent, vb', vc', rfl, by simp, Lib.hid (HSEG.out _ HE.out), HO3, HS3, hsz3⟩
      case measure => simp [lenOf]; omega

end Go.Proofs.Ytnfdcfagdidmhaa
