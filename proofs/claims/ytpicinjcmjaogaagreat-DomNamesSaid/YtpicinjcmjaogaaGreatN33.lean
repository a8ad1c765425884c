/-
  Parts: D14, DQ, D18, D19, D20.
-/
import Derived.Deep.RegionLaw
import Derived.Lib.SliceRun
import Derived.Deep.RegionHeld3
import Derived.BigRegion
import Derived.Deep.CutRange
import Derived.Test.YtpicinjcmjaogaaGreatN27
import Derived.Test.YtpicinjcmjaogaaGreatN29
import Derived.Test.YtpicinjcmjaogaaGreatN32

/- Contracts of dom: slices.Delete of one attribute, RemoveAttribute. -/
namespace Go.Proofs.YtpicinjcmjaogaaGreat
open Go.RowKit Go.Shelf
set_option linter.unusedVariables false

attribute [local go_sem] Oper.semAt_some

abbrev zeroAttr : List Value := [.int .i64 0, .string ByteArray.empty, .string ByteArray.empty]

end Go.Proofs.YtpicinjcmjaogaaGreat

/- Layer 5 as plain data: the arena while a copy is made. No program here. -/
namespace Go.Proofs.YtpicinjcmjaogaaGreat
set_option linter.unusedVariables false

/-- While nodes of C are copied: the nodes of A0 are as they were. -/
structure DupI (A0 B : Ar) (d : Int) (X : Nat) : Prop where
  inv : B.Inv
  has : B.has d
  kind : (B.get d).kind = 1
  old : ∀ x, A0.has x → B.has x ∧ B.get x = A0.get x
  cap : B.cap d ≤ X
theorem DupI.mono {A0 B : Ar} {d : Int} {X Y : Nat} (h : DupI A0 B d X) (hXY : X ≤ Y) : DupI A0 B d Y := ⟨h.inv, h.has, h.kind, h.old, Nat.le_trans h.cap hXY⟩

theorem DupI.step {C A0 B : Ar} (hC : C.Inv) {d : Int} {X m : Nat} (hI : DupI A0 B d X) {k c : Int} (hk : C.has k ∧ (C.get k).kind ≠ 1 ∧ (C.get k).kind ≠ 2) (hw : (C.walk k).length ≤ m) (hc : ¬ A0.has c) (hcB : B.has c) (hck : (B.get c).kind = 1 ∨ (B.get c).kind = 2 ∨ (B.get c).kind = 4) :
    DupI A0 (dupStep (fun B k => dupF C true m B d k) c B k) d (X + (C.walk k).length) ∧ (dupStep (fun B k => dupF C true m B d k) c B k).has c ∧ ((dupStep (fun B k => dupF C true m B d k) c B k).get c).kind = (B.get c).kind ∧
      (∀ x, B.inertAt x ≠ 0 → (dupStep (fun B k => dupF C true m B d k) c B k).inertAt x ≠ 0) := by
  obtain ⟨K2, S⟩ := copies_fold hC (rec := fun B k => dupF C true m B d k) (d := d) (c := c) [k] (B := B) (fun B' k' hk' hB hd hkd => by simp at hk'; subst hk'; exact copy_facts hC m hB hd hkd hk.1 hk.2.1 hw) (fun k' hk' => by simp at hk'; subst hk'; exact hk.2) hI.inv hI.has hI.kind hcB (fun _ => hck)
  obtain ⟨f1, f2⟩ := dup_fold (C := C) (rec := fun B k => dupF C true m B d k) (d := d) (c := c) [k] (A := B) (fun B' k' hk' hB hd hkd => by simp at hk'; subst hk'; exact dupF_facts hC m true hB hd hkd hk.1 hk.2.1 hw) hI.inv hI.has hI.kind
  have e : [k].foldl (dupStep (fun B k => dupF C true m B d k) c) B = dupStep (fun B k => dupF C true m B d k) c B k := rfl
  rw [e] at S f1 f2
  refine ⟨⟨f1.inv, f1.has d hI.has, (f1.kind d hI.has).trans hI.kind, fun x hx => ?_, ?_⟩, f1.has c hcB, f1.kind c hcB, f1.inert⟩
  · obtain ⟨h1, h2⟩ := hI.old x hx
    obtain ⟨s1, s2⟩ := S.old x h1
    have hne : x ≠ c := fun e => hc (by rw [← e]; exact hx)
    rw [if_neg hne] at s2
    exact ⟨s1, s2.trans h2⟩
  · have := hI.cap
    simp at f2
    omega

/-- The first stage: one node is made. -/
theorem DupI.alone {A C : Ar} {d h : Int} (hA : A.Inv) (hC : C.Inv) (hd : A.has d) (hk : (A.get d).kind = 1) (hh : C.has h) (h1 : (C.get h).kind ≠ 1) :
    DupI A (A.alone d (C.get h)).2 d (A.cap d + (if (C.get h).contents ≠ 0 then 2 else 1)) ∧ (A.alone d (C.get h)).1 = A.n + 1 ∧ (A.alone d (C.get h)).2.has (A.n + 1) ∧ ((A.alone d (C.get h)).2.get (A.n + 1)).kind = (C.get h).kind := by
  obtain ⟨a1, a2, a3⟩ := alone_facts hA hC hd hk hh h1
  obtain ⟨n1, n2, n3⟩ := alone_new hA hC hd hk hh h1
  refine ⟨⟨a1.inv, a1.has d hd, (a1.kind d hd).trans hk, n2.old, ?_⟩, n1, n2.has, n2.like.1.symm⟩
  have : isTemplate (C.get h) ↔ (C.get h).contents ≠ 0 := ⟨fun q => by
    have := (hC.cont h hh (by have := hh.1; omega) q).1.1
    omega, fun q => Classical.byContradiction fun t => q (hC.nocont h hh (.inr t))⟩
  by_cases q : (C.get h).contents = 0
  · rw [if_neg (fun e => e q)]; rw [if_neg (fun e => this.1 e q)] at a2; exact a2
  · rw [if_pos q]; rw [if_pos (this.2 q)] at a2; exact a2
theorem DupI.document {A : Ar} (hA : A.Inv) (q : Bool) : DupI A (A.document q) (A.n + 1) (A.ns.length + 2) ∧ (A.document q).has (A.n + 1) ∧ ((A.document q).get (A.n + 1)).kind = 1 := by
  have hnew : (A.document q).has (A.n + 1) := (Ar.add_has _ _ _).2 (.inr rfl)
  have hk : ((A.document q).get (A.n + 1)).kind = 1 := by unfold Ar.document; rw [Ar.add_new]
  refine ⟨⟨Ar.InvX.document hA q, hnew, hk, fun x hx => ⟨(Ar.add_has _ _ _).2 (.inl hx), Ar.add_old _ hx⟩, ?_⟩, hnew, hk⟩
  have := Ar.cap_le (A.document q) (A.n + 1)
  have h2 : (A.document q).ns.length = A.ns.length + 1 := by simp [Ar.document, Ar.add]
  omega
end Go.Proofs.YtpicinjcmjaogaaGreat

/- Contracts of dom: duplicate, kind by kind. (Printed by gend18.py.) -/
namespace Go.Proofs.YtpicinjcmjaogaaGreat
open Go.RowKit Go.Shelf
set_option linter.unusedVariables false

attribute [local go_sem] Oper.semAt_some

def Emb (C A : Ar) : Prop := ∀ x, C.has x → A.has x ∧ A.get x = C.get x
/-- The arena that is copied from: the same one, or another thing. -/
def Src (C : Ar) (b bf : Nat) (A : Ar) (L : List Asrt) : Prop := (bf = b ∧ Emb C A) ∨ Asrt.arena bf C ∈ L
theorem Src.at' {C A : Ar} {b bf : Nat} {L : List Asrt} (s : Src C b bf A L) (hA : A.Inv) (hC : C.Inv) (hAs : A.ns.length ≤ 300000) (hCs : C.ns.length ≤ 300000) {x : Int} (hx : C.has x) :
    ∃ C', Asrt.arena bf C' ∈ Asrt.arena b A :: L ∧ C'.Inv ∧ C'.ns.length ≤ 300000 ∧ C'.has x ∧ C'.get x = C.get x := by
  rcases s with ⟨rfl, h⟩ | h
  · exact ⟨A, by simp, hA, hAs, (h x hx).1, (h x hx).2⟩
  · exact ⟨C, by simp [h], hC, hCs, hx, rfl⟩
theorem Src.grow {C A B : Ar} {b bf : Nat} {L L' : List Asrt} (s : Src C b bf A L) (hE : ∀ x, A.has x → B.has x ∧ B.get x = A.get x) (hL : ∀ a ∈ L, a ∈ L') : Src C b bf B L' := by
  rcases s with ⟨rfl, h⟩ | h
  · exact .inl ⟨rfl, fun x hx => ⟨(hE x (h x hx).1).1, (hE x (h x hx).1).2.trans (h x hx).2⟩⟩
  · exact .inr (hL _ h)

/-- The contract of duplicate, with fuel. -/
def DupOK (C : Ar) (b bf m : Nat) : Prop := ∀ (deep : Bool) (A : Ar) (d h : Int) (L : List Asrt) (w0 w : World) (B : Nat), A.Inv → A.has d → (A.get d).kind = 1 → C.has h → (C.walk h).length ≤ m →
  (if (C.get h).kind = 1 then A.ns.length + 2 else A.cap d) + (C.walk h).length + 2 ≤ 300000 → Src C b bf A L → Own w0 B (.arena b A :: L) w →
    Calls Tryz.prog 144 #[.pointer (some ⟨b, 0, none⟩), .int .i64 d, .pointer (some ⟨bf, 0, none⟩), .int .i64 h, .bool deep] w fun e w' => e = .returned (.int .i64 (dupF C deep m A d h).1) ∧ Own w0 B (.arena b (dupF C deep m A d h).2 :: L) w'

end Go.Proofs.YtpicinjcmjaogaaGreat

/- Contracts of dom: Clone, Import. (Printed by gend19.py.) -/
namespace Go.Proofs.YtpicinjcmjaogaaGreat
open Go.RowKit Go.Shelf
set_option linter.unusedVariables false

attribute [local go_sem] Oper.semAt_some

end Go.Proofs.YtpicinjcmjaogaaGreat

/- Contracts of dom: Normalize. -/
namespace Go.Proofs.YtpicinjcmjaogaaGreat
open Go.RowKit Go.Shelf
set_option linter.unusedVariables false

attribute [local go_sem] Oper.semAt_some

theorem ints_nil20 {w0 w : World} {B : Nat} {l : List Asrt} (o : Own w0 B l w) : Own w0 B (.ints (.slice none 0 0) [] :: l) w :=
  o.fresh (Below.refl _ _) ⟨fun _ => False, ⟨World.ownsRow_nil _ _ _ _, fun k => by simp [Value.ownBlock]⟩, fun _ h => h.elim⟩

set_option maxRecDepth 100000 in
set_option maxHeartbeats 4000000 in
theorem NormalizeD_own {w0 w : World} {B b : Nat} {A : Ar} {L : List Asrt} {h : Int} (o : Own w0 B (.arena b A :: L) w) (hI : A.Inv) (hs : A.ns.length ≤ 100000) (hm : ∀ y, A.has y → A.kidsTx y ≤ 9223372036854775807) :
    Calls Tryz.prog 79 #[.pointer (some ⟨b, 0, none⟩), .int .i64 h] w fun e w' => e = .returned (.int .i64 (A.normalize h).1) ∧ Own w0 B (.arena b (A.normalize h).2 :: L) w' := by
  obtain ⟨i0, hi, hz0, hz1, hz2⟩ := info_parts infoInt
  have HI := Lib.hid hi
  clear hi
  have HS := hI.short (show A.ns.length ≤ 1000000 by omega)
  by_cases hh : A.has h
  · have HC1 := Lib.hid (Check1_own (opt := -1) (x := h) o (b := b) (A := A) (by simp) HS (chk1n.trans (if_pos hh)))
    have HF : Hid (A.normalize h = (0, ((A.join h).below h).foldl Ar.join (A.join h))) := Lib.hid (if_pos hh)
    have HJ := Lib.hid (fun w1 (o1 : Own w0 B (.arena b A :: L) w1) => join_own hI hh hs (hm h hh) o1)
    have n0 : NormP A [h] (A.join h) := (NormP.start hI).step hI hh
    have hB := n0.inv
    have hlB : (A.join h).ns.length ≤ 100000 := by rw [n0.len]; omega
    have hhB := n0.has hh
    have hbl : ((A.join h).below h).length ≤ 100000 := by
      have h1 := below_len hB h hhB
      have h2 := walk_len hB h
      omega
    have HNA := Lib.hid (norm_at hI hh)
    have HNX := Lib.hid (fun k x => @norm_x A h hI hh k x)
    have HNT := Lib.hid (fun (C : Ar) dn x (q : NormP A dn C) (hx : A.has x) (hn : x ∉ dn) => (show C.kidsTx x ≤ 9223372036854775807 by rw [q.tx hI hx hn]; exact hm x hx))
    clear o hI hh HS hm n0
    generalize hBe : A.join h = B1 at *
    clear hBe
    refine (callsIn_wide (n := 8)).1 ?_
    refine callsIn_of_wp_marks Tryz.func79 rfl trivial ?_ rfl
    simp only [Tryz.ntmps79, List.size_toArray, List.length_cons, List.length_nil, Nat.reduceAdd, Nat.reduceSub, Array.replicate_succ, Array.replicate_zero, List.push_toArray, List.append_toArray, List.nil_append, List.cons_append]
    refine wpIn_wide.2 ?_
    go_wp2_with fail
    refine HC1.out.mono ?_
    rintro e w1 ⟨rfl, o1⟩
    have HC2 := Lib.hid (HJ.out _ o1)
    clear HC1 HJ o1
    go_wp2_with fail
    refine HC2.out.mono ?_
    rintro e w2 ⟨rfl, o2⟩
    clear HC2
    go_wp2_with fail
    refine (Below_any b h _).mono ?_
    rintro e w3 ⟨rfl, rfl⟩
    have o3 := ((o2.alloc (.cells #[.slice none 0 0] 41)).alloc (.cells #[.pointer (some ⟨b, 0, none⟩)] 23)).alloc (.cells #[.int .i64 h] 3)
    simp only [World.size_alloc] at o3
    have o4 := ints_nil20 o3.rot4.rot4
    have hseq := below_seq (ab := w2.heap.size + 1) (hb := w2.heap.size + 1 + 1) (b := b) hB hlB hhB w0 B 7
    clear o2 o3
    go_wp2_with fail
    refine wpIn_wide.1 (wpIn_rangeFunc_G (n := 8) (α := Int) rfl (by omega) (gf := 181) (lb := #[.pointer (some ⟨w2.heap.size + 1, 0, none⟩), .pointer (some ⟨w2.heap.size + 1 + 1, 0, none⟩)]) rfl trivial (enters_of Tryz.func181 (by kernel_rfl) rfl)
      (Rd := belowRd B1 b (w2.heap.size + 1) (w2.heap.size + 1 + 1) h) belowRd_cons hseq (fun _ => rfl) o4
      (fun pre L' => (∃ rest, B1.below h = pre ++ rest) ∧ ∃ va vc, L' = .ints (.slice va pre.length vc) pre :: .box w2.heap.size (.cells #[.slice va pre.length vc] 41 (0, 0)) :: .arena b B1 :: .box (w2.heap.size + 1 + 1) (.cells #[.int .i64 h] 3 (0, 0)) :: .box (w2.heap.size + 1) (.cells #[.pointer (some ⟨b, 0, none⟩)] 23 (0, 0)) :: L)
      (fun _ _ _ => False) ?hLR ⟨⟨_, rfl⟩, none, 0, rfl⟩ ?a1 ?assign ?body ?done ?stop)
    case assign =>
      intro l' x W' K hK
      gi_wp2
      exact hK
    case hLR =>
      rintro pre L' ⟨⟨rest, hrest⟩, va, vc, rfl⟩
      exact ⟨by simp, by simp, _, by simp, Ar.Tree.refl _, hB, by omega⟩
    case body =>
      rintro l' G f pre x W' L' ⟨rest, hrest⟩ ⟨-, va, vc, rfl⟩ o
      have hpl : pre.length ≤ 100000 := by have := congrArg List.length hrest; simp at this; omega
      have HP : Hid (∃ rest, B1.below h = pre ++ [x] ++ rest) := Lib.hid ⟨rest, hrest⟩
      have k1 := box_cell (o.box (g := w2.heap.size) (o := .cells #[.slice va pre.length vc] 41 (0, 0)) (by simp))
      have hro := o.row (e := 3) (size := 1) (v := .slice va pre.length vc) (n := pre.length) (xs := pre.map intv) (by simp)
      have HO := Lib.hid o
      have HR := Lib.hid hro
      have hBW : B ≤ W'.heap.size := o.big
      clear o hro hrest hseq o4
      gi_wp2_with (gi_at_builtin; refine wpListIn_append_own_at _ rfl _ _ 41 rfl B 3 i0 _ 1 8 Tryz.underlying41 HI.out hz0 hz1 hz2 rfl (by decide) _ _ _ rfl (HR.out.alloc _) ⟨W'.heap.size, 0, none⟩ 1 1 [intv x] rfl rfl ?c1 ?c2 ?c3 ?c4 ?c5 ?_)
      case c1 => intro j u hj; rw [Addr.add_mid, Nat.zero_add]; exact cell_new' rfl (by simpa [intv] using hj)
      case c2 => intro u hu; simp at hu; subst hu; rfl
      case c3 => unfold maxLen; omega
      case c4 => omega
      case c5 => simp; omega
      intro v' w4 hown hgrow _ hat
      have o5 := (((HO.out.swap).alloc (.cells #[.int .i64 x] 3)).swap.grow hown hgrow (by simpa using hat)).swap.drop.rot3
      obtain ⟨va', vc', rfl⟩ := ownsForm hown
      have k3 := box_cell (o5.box (g := w2.heap.size) (o := .cells #[.slice va pre.length vc] 41 (0, 0)) (by simp))
      have f3 := box_free (o5.box (g := w2.heap.size) (o := .cells #[.slice va pre.length vc] 41 (0, 0)) (by simp))
      have o6 := (o5.set1 (u := .slice va' (pre.length + 1) vc')).swap.rot3
      have e1 : (pre ++ [x]).length = pre.length + 1 := by simp
      have e2 : (pre ++ [x]).map intv = pre.map intv ++ [intv x] := by simp
      have HK : Hid (Own w0 B (.keep G f :: .ints (.slice va' (pre ++ [x]).length vc') (pre ++ [x]) :: .box w2.heap.size (.cells #[.slice va' (pre ++ [x]).length vc'] 41 (0, 0)) :: .arena b B1 :: .box (w2.heap.size + 1 + 1) (.cells #[.int .i64 h] 3 (0, 0)) :: .box (w2.heap.size + 1) (.cells #[.pointer (some ⟨b, 0, none⟩)] 23 (0, 0)) :: L) (w4.setCell ⟨w2.heap.size, 0, none⟩ (.slice va' (pre.length + 1) vc'))) := Lib.hid (by
        unfold Asrt.ints
        rw [e1, e2]; exact o6)
      clear o5 o6 e1 e2 hown hgrow hat HO HR
      gi_wp2
      exact ⟨_, ⟨HP.out, va', vc', rfl⟩, HK.out⟩
    case done =>
      rintro xs W' L' rfl ⟨-, va, vc, rfl⟩ o
      simp only [World.size_alloc] at o
      generalize B1.below h = l at *
      have HO := Lib.hid o.rot4
      have q1 := box_cell (o.box (g := w2.heap.size) (o := .cells #[.slice va l.length vc] 41 (0, 0)) (by simp))
      clear o hseq o4
      go_wp2
      simp only [World.size_alloc]
      go_loopw [30] (fun i wr => ∃ (k : Nat), k ≤ l.length ∧ i = .int .i64 k ∧ Hid (Own w0 B (.arena b ((l.take k).foldl Ar.join B1) :: .box (w2.heap.size + 1 + 1 + 1) (.deferred (some [])) :: .ints (.slice va l.length vc) l :: .box w2.heap.size (.cells #[.slice va l.length vc] 41 (0, 0)) :: .box (w2.heap.size + 1 + 1) (.cells #[.int .i64 h] 3 (0, 0)) :: .box (w2.heap.size + 1) (.cells #[.pointer (some ⟨b, 0, none⟩)] 23 (0, 0)) :: L) wr)) (fun i _ => l.length - (intOf i).toNat)
      case atStart => exact ⟨0, Nat.zero_le _, rfl, HO⟩
      case round =>
        obtain ⟨k, hk, rfl, hT⟩ := hrel
        clear HO
        by_cases hlt : k < l.length
        · obtain ⟨x, hx⟩ : ∃ x, l[k]? = some x := ⟨_, List.getElem?_eq_getElem hlt⟩
          have hri : RInts wr (.slice va l.length vc) l := hT.out.ints (by simp)
          obtain ⟨b1, o1, rfl, -, hcs⟩ := hri.cells (by omega)
          have c1 := hcs k x hx
          have n1 := HNA.out k hk
          obtain ⟨x1, x2⟩ := HNX.out k x hx
          have n2 := HNT.out _ _ x n1 x1 x2
          have HX := Lib.hid (fold_take (fun (B : Ar) x => B.join x) B1 hx)
          generalize (l.take k).foldl Ar.join B1 = A1 at *
          have HC := Lib.hid (join_own n1.inv (n1.has x1) (by rw [n1.len]; omega) n2 hT.out)
          clear hri hcs hx n1 n2 x1 x2 hT
          go_wp2_with fail
          refine HC.out.mono ?_
          rintro e w6 ⟨rfl, o6⟩
          rw [← HX.out] at o6
          have HO6 := Lib.hid o6
          clear o6 HC c1
          go_wp2
          go_roundw
          case rel => exact ⟨k + 1, hlt, by go_num, HO6⟩
          case measure => simp [intOf]; omega
        · have hkl : l.take k = l := List.take_of_length_le (by omega)
          rw [hkl] at hT
          have hD := hT.out.box (g := w2.heap.size + 1 + 1 + 1) (o := .deferred (some [])) (by simp)
          go_wp2
          refine ⟨by simp, .inl ⟨_, _, rfl, run_takeDeferred hD, ?_⟩⟩
          refine ⟨.int .i64 0, by simp [results, Tryz.f79, go_sem], ?_⟩
          rw [HF.out]
          refine ⟨rfl, ?_⟩
          have o20 := (hT.out.swap.setBox (upd_put (.deferred none) rfl) (World.putObj_heap_same (lt_of_block hD))).drop
          exact o20.swap.drop.swap.drop.swap.drop.swap.drop
    case stop =>
      rintro c pre W' L' - hf -
      exact hf.elim
  · have HC1 := Lib.hid (Check1_own (opt := -1) (x := h) o (b := b) (A := A) (by simp) HS (chk1n.trans (if_neg hh)))
    have HF : Hid (A.normalize h = (3, A)) := Lib.hid (if_neg hh)
    clear o hI HS hm
    go_enter Tryz.func79, Tryz.ntmps79
    go_wp2_with fail
    refine HC1.out.mono ?_
    rintro e w1 ⟨rfl, o1⟩
    have HO := Lib.hid o1
    clear o1 HC1
    go_wp2
    go_ret
    rw [HF.out]
    exact ⟨rfl, HO.out⟩

end Go.Proofs.YtpicinjcmjaogaaGreat
