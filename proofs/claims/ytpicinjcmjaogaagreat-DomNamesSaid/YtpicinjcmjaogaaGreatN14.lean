/-
  Parts: D2, D3.
-/
import Derived.BigQuiet
import Derived.Test.YtpicinjcmjaogaaGreatN11
import Derived.Test.YtpicinjcmjaogaaGreatN13

/- Contracts of dom: next, nodes. -/
namespace Go.Proofs.YtpicinjcmjaogaaGreat
open Go.RowKit
set_option linter.unusedVariables false

theorem Index_own {w0 w : World} {B b : Nat} {A : Ar} {l : List Asrt} {h : Int} (o : Own w0 B l w) (hm : Asrt.arena b A ∈ l) (hI : A.Inv) :
    Calls Tryz.prog 41 #[.pointer (some ⟨b, 0, none⟩), .int .i64 h] w fun e w' => e = .returned (.int .i64 (A.index h)) ∧ w = w' := by
  obtain ⟨ρ, hA⟩ := o.arena hm
  exact Index_arena A ρ b h w hA (fun hh hp => (hI.wf.link h hh hp).1)

theorem next_zero {A : Ar} {h : Int} (hp : (A.get h).parent = 0) : A.next h = 0 := by
  unfold Ar.next
  have : A.index h = -1 := if_neg (fun q => q.2 hp)
  rw [this, if_neg (fun q => by have := q.1; omega)]
theorem index_nat {A : Ar} (hI : A.Inv) {h : Int} (hh : A.has h) (hp : (A.get h).parent ≠ 0) : ∃ i : Nat, A.index h = i ∧ i < (A.get (A.get h).parent).kids.length ∧ (A.get (A.get h).parent).kids[i]? = some h := by
  obtain ⟨h1, h2, h3⟩ := hI.wf.link h hh hp
  obtain ⟨i, e, hi, hg, _⟩ := findI_mem h2
  exact ⟨i, by unfold Ar.index; rw [if_pos ⟨hh, hp⟩, e], hi, hg⟩

set_option maxRecDepth 100000 in
set_option maxHeartbeats 1000000 in
theorem Next_own {w0 w : World} {B b : Nat} {A : Ar} {l : List Asrt} {h : Int} (o : Own w0 B l w) (hm : Asrt.arena b A ∈ l) (hI : A.Inv) (hs : A.ns.length ≤ 1000000) (hh : A.has h) :
    Calls Tryz.prog 120 #[.pointer (some ⟨b, 0, none⟩), .int .i64 h] w fun e w' => e = .returned (.int .i64 (A.next h)) ∧ Own w0 B l w' := by
  have hpo : A.parentOf h = (A.get h).parent := if_pos hh
  have HI := Lib.hid hI
  have HM := Lib.hid hm
  have HP := Lib.hid (Parent_own o hm (h := h))
  have HK := Lib.hid (Kids_own o hm (hI.short hs) (h := (A.get h).parent))
  rw [hpo] at HP
  by_cases hp : (A.get h).parent = 0
  · have hx : A.index h = -1 := if_neg (fun q => q.2 hp)
    have HN := Lib.hid (next_zero hp)
    clear hp hI hs o hm hpo hh
    go_enter Tryz.func120, Tryz.ntmps120
    go_wp2_with fail
    refine HP.out.mono ?_
    rintro e w1 ⟨rfl, rfl⟩
    go_wp2_with fail
    refine HK.out.mono ?_
    rintro e w1 ⟨ka, kc, rfl, o1⟩
    clear HP HK
    go_wp2_with fail
    refine (Index_own o1 (by simp [HM.out]) HI.out).mono ?_
    rintro e w2 ⟨rfl, rfl⟩
    rw [hx]
    have HO := Lib.hid o1
    clear o1
    go_wp2
    go_ret
    rw [HN.out]
    exact ⟨rfl, HO.out.drop⟩
  · obtain ⟨i, hx, hi, -⟩ := index_nat hI hh hp
    have hpp := (hI.wf.link h hh hp).1
    have hkl := Ar.kids_len hI.wf hpp
    have hko : A.kidsOf (A.get h).parent = (A.get (A.get h).parent).kids := if_pos hpp
    rw [hko] at HK
    have HN : Hid (A.next h = if i + 1 < (A.get (A.get h).parent).kids.length then (A.get (A.get h).parent).kids[i + 1]?.getD 0 else 0) := Lib.hid (by
      unfold Ar.next
      rw [hx]
      by_cases q : i + 1 < (A.get (A.get h).parent).kids.length
      · rw [if_pos ⟨by omega, by omega⟩, if_pos q]; rfl
      · rw [if_neg (fun e => q (by have := e.2; omega)), if_neg q])
    generalize (A.get (A.get h).parent).kids = K at *
    generalize (A.get h).parent = p at *
    have hil : (i : Int) ≤ 1000000 := by omega
    clear hp hI o hm hpo hh hko hpp
    by_cases hlt : i + 1 < K.length
    · rw [if_pos hlt] at HN
      go_enter Tryz.func120, Tryz.ntmps120
      go_wp2_with fail
      refine HP.out.mono ?_
      rintro e w1 ⟨rfl, rfl⟩
      go_wp2_with fail
      refine HK.out.mono ?_
      rintro e w1 ⟨ka, kc, rfl, o1⟩
      clear HP HK
      go_wp2_with fail
      refine (Index_own o1 (by simp [HM.out]) HI.out).mono ?_
      rintro e w2 ⟨rfl, rfl⟩
      rw [hx]
      have hri : RInts w1 (.slice ka K.length kc) K := o1.ints (by simp)
      obtain ⟨b1, o2, rfl, -, hcs⟩ := hri.cells (by omega)
      have d1 := hcs (i + 1) (K[i + 1]?.getD 0) (by simp [List.getElem?_eq_getElem hlt])
      have HO := Lib.hid o1
      clear o1 hcs
      generalize K[i + 1]?.getD 0 = y at *
      go_wp2
      go_ret
      rw [HN.out]
      exact ⟨rfl, HO.out.drop⟩
    · rw [if_neg hlt] at HN
      go_enter Tryz.func120, Tryz.ntmps120
      go_wp2_with fail
      refine HP.out.mono ?_
      rintro e w1 ⟨rfl, rfl⟩
      go_wp2_with fail
      refine HK.out.mono ?_
      rintro e w1 ⟨ka, kc, rfl, o1⟩
      clear HP HK
      go_wp2_with fail
      refine (Index_own o1 (by simp [HM.out]) HI.out).mono ?_
      rintro e w2 ⟨rfl, rfl⟩
      rw [hx]
      have HO := Lib.hid o1
      clear o1
      go_wp2
      go_ret
      rw [HN.out]
      exact ⟨rfl, HO.out.drop⟩

theorem ints_new1 {w0 w : World} {B : Nat} {l : List Asrt} (o : Own w0 B l w) (x : Int) : Own w0 B (.ints (.slice (some ⟨w.heap.size, 0, none⟩) 1 1) [x] :: l) (w.alloc (.cells #[.int .i64 x] 3)) :=
  o.fresh (below_alloc w _) ⟨fun k => k = w.heap.size, ⟨owns_mk (l := [x]) (heap_alloc_new w _) (by unfold maxLen; omega) rfl (Nat.le_refl _) (fun k hk => by
    have : k = 0 := by simp at hk; exact hk
    subst this; rfl), fun k => ⟨fun h => by subst h; rfl, fun h => by simp [Value.ownBlock] at h; omega⟩⟩, fun k hk => by omega⟩

set_option maxRecDepth 100000 in
theorem Nodes_dom {w0 w : World} {B b : Nat} {A : Ar} {l : List Asrt} {h : Int} (o : Own w0 B l w) (hm : Asrt.arena b A ∈ l) (hS : A.Short) (hh : A.has h) :
    Calls Tryz.prog 179 #[.pointer (some ⟨b, 0, none⟩), .int .i64 h] w fun e w' => ∃ a c, e = .returned (.slice a (A.nodesOf h).length c) ∧ Own w0 B (.ints (.slice a (A.nodesOf h).length c) (A.nodesOf h) :: l) w' := by
  have HK := Lib.hid (Kind_own o hm hS hh rfl)
  have hko : A.kidsOf h = (A.get h).kids := if_pos hh
  have HM := Lib.hid hm
  have HS := Lib.hid hS
  clear hm hS
  by_cases hk : (A.get h).kind = 2
  · have hn : A.nodesOf h = A.kidsOf h := by unfold Ar.nodesOf; rw [if_pos hk, hko]
    rw [hn]
    clear hn hko
    rw [hk] at HK
    clear hk hh
    go_enter Tryz.func179, Tryz.ntmps179
    go_wp2_with fail
    refine HK.out.mono ?_
    rintro e w1 ⟨rfl, o1, -⟩
    clear HK o
    go_wp2_with fail
    refine (Kids_own o1 HM.out HS.out).mono ?_
    rintro e w2 ⟨a, c, rfl, o2⟩
    have HO := Lib.hid o2
    clear o1 o2
    go_wp2
    go_ret
    exact ⟨a, c, rfl, HO.out⟩
  · have hn : A.nodesOf h = [h] := by unfold Ar.nodesOf; rw [if_neg hk]
    rw [hn]
    have hk' : ((A.get h).kind == 2) = false := by simp [hk]
    generalize (A.get h).kind = kk at *
    clear hn hko hk hh
    go_enter Tryz.func179, Tryz.ntmps179
    go_wp2_with fail
    refine HK.out.mono ?_
    rintro e w1 ⟨rfl, o1, -⟩
    have HO := Lib.hid (ints_new1 o1 h)
    clear HK o o1
    go_wp2
    go_ret
    exact ⟨_, _, rfl, HO.out⟩

end Go.Proofs.YtpicinjcmjaogaaGreat

/- Contracts of dom: visit, below. -/
namespace Go.Proofs.YtpicinjcmjaogaaGreat
open Go.RowKit Go.Shelf
set_option linter.unusedVariables false

attribute [local go_sem] Oper.semAt_some

theorem below_cut {α : Type} {K : List Int} {k : Nat} {x : Int} (g : Int → List α) (hx : K[k]? = some x) : K.flatMap g = (K.take k).flatMap g ++ (g x ++ (K.drop (k + 1)).flatMap g) := by
  have hk := (List.getElem?_eq_some_iff.1 hx).1
  have e : K = K.take k ++ (x :: K.drop (k + 1)) := by
    have := (List.take_append_drop k K).symm
    rw [List.drop_eq_getElem_cons hk, (List.getElem?_eq_some_iff.1 hx).2] at this
    exact this
  conv => lhs; rw [e]
  rw [List.flatMap_append, List.flatMap_cons]

theorem Own.keptLt {w0 w : World} {B : Nat} {G : Nat → Prop} {f : Nat → Option Obj} {l : List Asrt} (h : Own w0 B l w) (hm : Asrt.keep G f ∈ l) : ∀ k, G k → k < w.heap.size :=
  let ⟨_, ⟨_, q, _⟩, _⟩ := h.get hm
  q
theorem yield_wide {m m' : Nat} {P : Program} {l : Nat} {args : Array Value} {W : World} {R : Ending → World → Prop} (h : YieldAt Fence.wide m P l args W R) : YieldAt Fence.wide m' P l args W R := by
  obtain ⟨fn, tmps, assign, body, h1, h2⟩ := h
  exact ⟨fn, tmps, assign, body, h1, h2.1, fun c cs _ => h2.2 c cs (room_wide _)⟩

set_option maxRecDepth 100000 in
set_option maxHeartbeats 2000000 in
theorem visit_any {A : Ar} {b : Nat} (hI : A.Inv) (hsm : A.ns.length ≤ 100000) {w0 : World} {B l n : Nat} {Lf : List Int → List Asrt → Prop} {Jx : List Int → World → Prop} {Sp : List Int → Prop}
    (hLR : ∀ pre L, Lf pre L → ∃ A', Asrt.arena b A' ∈ L ∧ A.Tree A' ∧ A'.Inv ∧ A'.ns.length ≤ 1000000)
    (hY : ∀ pre x W1 L G f, Sp (pre ++ [x]) → Lf pre L → Own w0 B (.keep G f :: L) W1 → YieldAt Fence.wide (n - 1) Tryz.prog l #[.int .i64 x] W1 fun e W' =>
      (e = .returned (.bool true) ∧ ∃ L', Lf (pre ++ [x]) L' ∧ Own w0 B (.keep G f :: L') W') ∨ (e = .returned (.bool false) ∧ Jx (pre ++ [x]) W')) :
    ∀ h, A.has h → ∀ (pre : List Int) (W : World) (L : List Asrt) (G : Nat → Prop) (f : Nat → Option Obj), (∀ l1 x l2, A.below h = l1 ++ x :: l2 → Sp (pre ++ (l1 ++ [x]))) → Lf pre L → Own w0 B (.keep G f :: L) W →
      Calls Tryz.prog 182 #[.pointer (some ⟨b, 0, none⟩), .int .i64 h, .func (.yield l) #[] #[]] W fun e W' =>
        (e = .returned (.bool true) ∧ ∃ L', Lf (pre ++ A.below h) L' ∧ Own w0 B (.keep G f :: L') W') ∨ (e = .returned (.bool false) ∧ ∃ pre', Sp pre' ∧ Jx pre' W') := by
  refine walk_ind hI (fun h hh _ ih pre W L G f hsp hlf o => ?_)
  obtain ⟨A', hm, hT, hI', hs'⟩ := hLR _ _ hlf
  have hk' : (if A'.has h then (A'.get h).kids else []) = (A.get h).kids := by rw [if_pos (hT.has hh), hT.kids hh]
  obtain ⟨ρ, hA'⟩ := o.arena (b := b) (A := A') (by simp [hm])
  have HC := Lib.hid (Kids_any A' ρ b h W hA' (fun hh => ((hI'.short hs').get hh).1))
  have hkl := Ar.kids_len hI.wf hh
  have HBE := Lib.hid (below_eq hI hh)
  have HSP := Lib.hid hsp
  have HIH := Lib.hid ih
  have HLF := Lib.hid hlf
  have HO := Lib.hid o
  have HY := Lib.hid hY
  clear hsp hlf o hA' hm hT hI' ih hLR hY
  rw [hk'] at HC
  clear hk'
  generalize (A.get h).kids = K at *
  refine (callsIn_wide (n := 8)).1 ?_
  refine callsIn_of_wp Tryz.func182 rfl trivial ?_ rfl
  simp only [Tryz.ntmps182, List.size_toArray, List.length_cons, List.length_nil, Nat.reduceAdd, Nat.reduceSub, Array.replicate_succ, Array.replicate_zero, List.push_toArray, List.append_toArray, List.nil_append, List.cons_append]
  gi_wp2_with fail
  refine ⟨trivial, ?_⟩
  refine (callsIn_wide.2 HC.out).mono ?_
  rintro e W1 ⟨hB1, v, rfl, hO⟩
  obtain ⟨va, vc, rfl⟩ := ownsForm hO
  have HO1 := Lib.hid (HO.out.keepMore hB1)
  have HOW := Lib.hid hO
  have HF0 : Hid (∀ k, G k → f k = W1.heap[k]?) := Lib.hid (fun k hk => ((hB1.block k (HO.out.keptLt (G := G) (f := f) (by simp) k hk)).trans (HO.out.kept (G := G) (f := f) (by simp) k hk)).symm)
  clear hO HC HO hB1
  gi_wp2
  gi_loopw [13] (fun i wr => ∃ (k : Nat), k ≤ K.length ∧ i = .int .i64 k ∧ Hid (∃ L', Lf (pre ++ (K.take k).flatMap (fun k => k :: A.below k)) L' ∧ Own w0 B (.keep (fun k => G k ∨ (W.heap.size ≤ k ∧ k < W1.heap.size)) (fun k => W1.heap[k]?) :: L') wr)) (fun i _ => K.length - (intOf i).toNat)
  case atStart => exact ⟨0, Nat.zero_le _, rfl, Lib.hid ⟨L, by simpa using HLF.out, HO1.out⟩⟩
  case round =>
    obtain ⟨k, hk, rfl, hT⟩ := hrel
    by_cases hlt : k < K.length
    · obtain ⟨x, hx⟩ : ∃ x, K[k]? = some x := ⟨_, List.getElem?_eq_getElem hlt⟩
      obtain ⟨L', hl', o'⟩ := hT.out
      have hkeep : ∀ q, W.heap.size ≤ q → q < W1.heap.size → wr.heap[q]? = W1.heap[q]? := fun q h1 h2 => o'.kept (G := fun k => G k ∨ (W.heap.size ≤ k ∧ k < W1.heap.size)) (f := fun k => W1.heap[k]?) (by simp) q (.inr ⟨h1, h2⟩)
      obtain ⟨b1, o1, rfl, -, hcs⟩ := (ints_reads (owns_keep HOW.out hkeep)).cells (by omega)
      have d1 := hcs k x hx
      have hcut := below_cut (fun k => k :: A.below k) hx
      have htk := flat_take (fun k => k :: A.below k) hx
      rw [← HBE.out] at hcut
      have HTK := Lib.hid htk
      have hsp1 := HSP.out ((K.take k).flatMap (fun k => k :: A.below k)) x (A.below x ++ (K.drop (k + 1)).flatMap (fun k => k :: A.below k)) (by rw [hcut]; simp)
      have hsp2 : Hid (∀ l1 y l2, A.below x = l1 ++ y :: l2 → Sp ((pre ++ (K.take k).flatMap (fun k => k :: A.below k) ++ [x]) ++ (l1 ++ [y]))) := Lib.hid (fun l1 y l2 e => by
        have := HSP.out ((K.take k).flatMap (fun k => k :: A.below k) ++ x :: l1) y (l2 ++ (K.drop (k + 1)).flatMap (fun k => k :: A.below k)) (by rw [hcut, e]; simp)
        simpa using this)
      have hmem := Lib.hid (List.mem_of_getElem? hx)
      generalize (K.take k).flatMap (fun k => k :: A.below k) = D at *
      rw [← List.append_assoc] at hsp1
      have HS1 := Lib.hid hsp1
      obtain ⟨fn, tmps, assign, body, hy, hR⟩ := yield_wide (m' := 7) (HY.out (pre ++ D) x wr L' _ _ hsp1 hl' o')
      clear hcs hx hkeep hcut htk hl' o' hsp1 hT
      gi_wp2
      refine hR.mono ?_
      rintro e W3 (⟨rfl, L3, hl3, o3⟩ | ⟨rfl, hJ⟩)
      · have HR := Lib.hid (HIH.out x hmem.out (pre ++ D ++ [x]) W3 L3 _ _ hsp2.out hl3 o3)
        clear hR hy o3 hl3
        gi_wp2_with fail
        refine ⟨trivial, ?_⟩
        refine (callsIn_wide.2 HR.out).mono ?_
        rintro e W4 (⟨rfl, L4, hl4, o4⟩ | ⟨rfl, hJ⟩)
        · have hrel : Hid (∃ L', Lf (pre ++ (K.take (k + 1)).flatMap (fun k => k :: A.below k)) L' ∧ Own w0 B (.keep (fun k => G k ∨ (W.heap.size ≤ k ∧ k < W1.heap.size)) (fun k => W1.heap[k]?) :: L') W4) := Lib.hid ⟨L4, by rw [HTK.out]; simpa using hl4, o4⟩
          clear hl4 o4 HR
          gi_wp2
          go_roundw
          case rel => exact ⟨k + 1, hlt, by go_num, hrel⟩
          case measure => simp [intOf]; omega
        · have HJ := Lib.hid hJ
          clear hJ HR
          gi_wp2
          go_ret
          exact .inr ⟨rfl, HJ.out⟩
      · have HJ := Lib.hid hJ
        clear hJ hR hy
        gi_wp2_with fail
        refine ⟨trivial, ?_⟩
        gi_wp2
        go_ret
        exact .inr ⟨rfl, _, HS1.out, HJ.out⟩
    · have hkl : K.take k = K := List.take_of_length_le (by omega)
      obtain ⟨L', hl', o'⟩ := hT.out
      rw [hkl, ← HBE.out] at hl'
      have HF := Lib.hid (And.intro hl' o')
      clear hl' o' hT hkl
      gi_wp2
      go_ret
      exact .inl ⟨rfl, _, HF.out.1, HF.out.2.keepLess (fun _ => .inl) HF0.out⟩

/-- What the loops over below read of the rounds' memory: the two boxes, an arena with the same tree. -/
def belowRd (A : Ar) (b ab hb : Nat) (h : Int) (L : List Asrt) : Prop :=
  Asrt.box ab (.cells #[.pointer (some ⟨b, 0, none⟩)] 23 (0, 0)) ∈ L ∧ Asrt.box hb (.cells #[.int .i64 h] 3 (0, 0)) ∈ L ∧ ∃ A', Asrt.arena b A' ∈ L ∧ A.Tree A' ∧ A'.Inv ∧ A'.ns.length ≤ 1000000
theorem belowRd_cons {A : Ar} {b ab hb : Nat} {h : Int} (a : Asrt) (L : List Asrt) (r : belowRd A b ab hb h L) : belowRd A b ab hb h (a :: L) := by
  obtain ⟨h1, h2, A', h3, h4⟩ := r
  exact ⟨by simp [h1], by simp [h2], A', by simp [h3], h4⟩

theorem Below_any (b : Nat) (h : Int) (w : World) : Calls Tryz.prog 123 #[.pointer (some ⟨b, 0, none⟩), .int .i64 h] w fun e w' =>
      e = .returned (.func (.func 181) #[] #[.pointer (some ⟨w.heap.size, 0, none⟩), .pointer (some ⟨w.heap.size + 1, 0, none⟩)]) ∧
      w' = (w.alloc (.cells #[.pointer (some ⟨b, 0, none⟩)] 23)).alloc (.cells #[.int .i64 h] 3) := by
  go_enter Tryz.func123, Tryz.ntmps123
  go_wp2
  go_ret
  exact ⟨rfl, rfl⟩

set_option maxRecDepth 100000 in
set_option maxHeartbeats 1000000 in
theorem below_seq {A : Ar} {b ab hb : Nat} {h : Int} (hI : A.Inv) (hsm : A.ns.length ≤ 100000) (hh : A.has h) (w0 : World) (B n : Nat) :
    SeqG Fence.wide n Tryz.prog 181 #[.pointer (some ⟨ab, 0, none⟩), .pointer (some ⟨hb, 0, none⟩)] (fun x : Int => #[Value.int .i64 x]) (fun xs => xs = A.below h) (fun pre => ∃ rest, A.below h = pre ++ rest) (belowRd A b ab hb h) w0 B := by
  intro l Lf Jx W L hLR hY hl o
  obtain ⟨hab, hhb, -⟩ := hLR _ _ hl
  have k1 := box_cell (o.box hab)
  have k2 := box_cell (o.box hhb)
  have HC := Lib.hid (visit_any (n := n) hI hsm (Sp := fun pre => ∃ rest, A.below h = pre ++ rest) (fun pre L q => (hLR pre L q).2.2) hY h hh [] W L _ _ (fun l1 x l2 e => ⟨l2, by rw [e]; simp⟩) hl (o.keep0 (fun _ => none)))
  clear hY hLR hl o
  refine callsIn_wide.2 ((callsIn_wide (n := 8)).1 ?_)
  refine callsIn_of_wp Tryz.func181 rfl trivial ?_ rfl
  simp only [Tryz.ntmps181, List.size_toArray, List.length_cons, List.length_nil, Nat.reduceAdd, Nat.reduceSub, Array.replicate_succ, Array.replicate_zero, List.push_toArray, List.append_toArray, List.nil_append, List.cons_append]
  gi_wp2_with fail
  refine ⟨trivial, ?_⟩
  refine (callsIn_wide.2 HC.out).mono ?_
  rintro e W3 (⟨rfl, L3, hl3, o3⟩ | ⟨rfl, pre', hs', hJ⟩)
  · have HF := Lib.hid (And.intro hl3 o3)
    clear hl3 o3 HC
    gi_wp2
    go_end0
    exact ⟨⟨_, rfl⟩, .inl ⟨_, L3, rfl, by simpa using HF.out.1, HF.out.2.drop⟩⟩
  · have HF := Lib.hid (And.intro hs' hJ)
    clear hs' hJ HC
    gi_wp2
    go_end0
    exact ⟨⟨_, rfl⟩, .inr ⟨pre', HF.out.1, HF.out.2⟩⟩

end Go.Proofs.YtpicinjcmjaogaaGreat
