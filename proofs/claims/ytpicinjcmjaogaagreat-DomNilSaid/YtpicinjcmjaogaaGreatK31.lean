/-
  Parts: D18.
-/
import Derived.Deep.RegionHeld3
import Derived.BigRegion
import Derived.Deep.CutRange
import Derived.Test.YtpicinjcmjaogaaGreatK30

/- Contracts of dom: duplicate, kind by kind. (Printed by gend18.py.) -/
namespace Go.Proofs.YtpicinjcmjaogaaGreat
open Go.RowKit Go.Shelf
set_option linter.unusedVariables false

attribute [local go_sem] Oper.semAt_some

/-- Two things in new memory that differ. -/
theorem Own.fresh2 {w0 w w' : World} {B : Nat} {a a' : Asrt} {l : List Asrt} (h : Own w0 B l w) (hb : Below w.heap.size w w') (ha : ∃ S S', a.P w' S ∧ a'.P w' S' ∧ (∀ k, S k → w.heap.size ≤ k) ∧ (∀ k, S' k → w.heap.size ≤ k) ∧ ∀ k, S k → ¬ S' k) : Own w0 B (a :: a' :: l) w' := by
  obtain ⟨S, S', h1, h2, h3, h4, h5⟩ := ha
  have o1 : Own w0 B (a' :: l) w' := h.fresh hb ⟨S', h2, h4⟩
  obtain ⟨T, ⟨T1, T2, t1, t2, t3, t4⟩, t5⟩ := (h.fresh hb ⟨S', h2, h4⟩ : Own w0 B (a' :: l) w').hold
  obtain ⟨U, hU, hU2⟩ := h.hold
  have hlt := hU.lt
  have hU' : Hold w' l U := hU.upd (F := fun _ => False) (Upd.below hb) (fun _ _ => id)
  refine ⟨⟨fun k => S k ∨ (S' k ∨ U k), ⟨S, fun k => S' k ∨ U k, h1, ⟨S', U, h2, hU', fun k hk hu => ?_, fun _ => Iff.rfl⟩, fun k hk hu => ?_, fun _ => Iff.rfl⟩, fun k hk => ?_⟩, o1.low, o1.size⟩
  · have := hlt k hu; have := h4 k hk; omega
  · rcases hu with hu | hu
    · exact h5 k hk hu
    · have := hlt k hu; have := h3 k hk; omega
  · rcases hk with hk | hk | hk
    · have := h3 k hk; have := h.big; omega
    · have := h4 k hk; have := h.big; omega
    · exact hU2 k hk

/-- A description whose rows are the caller's. -/
theorem NodeKA_own {w0 w : World} {B b : Nat} {A : Ar} {l : List Asrt} {h : Int} {n : Nd} (o : Own w0 B l w) (hm : Asrt.arena b A ∈ l) (hS : A.Short) (hh : A.has h) (hn : A.get h = n) :
    Calls Tryz.prog 34 #[.pointer (some ⟨b, 0, none⟩), .int .i64 h] w fun e w' => ∃ ka kc aa ac, e = .returned (.tuple #[.agg (n.cells (.slice ka n.kids.length kc) (.slice aa n.attrs.length ac)).toArray, .int .i64 0]) ∧
      Own w0 B (.ints (.slice ka n.kids.length kc) n.kids :: .atts (.slice aa n.attrs.length ac) n.attrs :: l) w' := by
  subst hn
  obtain ⟨ρ, hA⟩ := o.arena hm
  refine (Node_any A ρ b h w hA hS).mono ?_
  rintro e w' ⟨hB, kv, av, rfl, h1, h2⟩
  rw [if_pos hh] at h1 h2 ⊢
  rw [if_pos hh]
  have hap := owns_apart h1 h2 (by decide)
  have hb1 := owns_block h1
  have hb2 := owns_block h2
  obtain ⟨ka, kc, rfl⟩ := ownsForm h1
  obtain ⟨aa, ac, rfl⟩ := ownsForm h2
  exact ⟨ka, kc, aa, ac, rfl, o.fresh2 hB ⟨_, _, ⟨owns_base h1 (Nat.zero_le _), fun _ => Iff.rfl⟩, ⟨owns_base h2 (Nat.zero_le _), fun _ => Iff.rfl⟩, fun k hk => (hb1 k hk).1, fun k hk => (hb2 k hk).1, hap⟩⟩

def Emb (C A : Ar) : Prop := ∀ x, C.has x → A.has x ∧ A.get x = C.get x
/-- The arena that is copied from: the same one, or another thing. -/
def Src (C : Ar) (b bf : Nat) (A : Ar) (L : List Asrt) : Prop := (bf = b ∧ Emb C A) ∨ Asrt.arena bf C ∈ L
theorem Src.at' {C A : Ar} {b bf : Nat} {L : List Asrt} (s : Src C b bf A L) (hA : A.Inv) (hC : C.Inv) (hAs : A.ns.length ≤ 300000) (hCs : C.ns.length ≤ 300000) {x : Int} (hx : C.has x) :
    ∃ C', Asrt.arena bf C' ∈ Asrt.arena b A :: L ∧ C'.Inv ∧ C'.ns.length ≤ 300000 ∧ C'.has x ∧ C'.get x = C.get x := by
  rcases s with ⟨rfl, h⟩ | h
  · exact ⟨A, by simp, hA, hAs, (h x hx).1, (h x hx).2⟩
  · exact ⟨C, by simp [h], hC, hCs, hx, rfl⟩
theorem Src.grow {C A B : Ar} {b bf : Nat} {L L' : List Asrt} (s : Src C b bf A L) (hE : ∀ x, A.has x → B.has x ∧ B.get x = A.get x) (hL : ∀ a ∈ L, a ∈ L') : Src C b bf B L' := by
  rcases s with ⟨rfl, h⟩ | h
  · exact .inl ⟨rfl, fun x hx => ⟨(hE x (h x hx).1).1, (hE x (h x hx).1).2.trans (h x hx).2⟩⟩
  · exact .inr (hL _ h)

/-- The contract of duplicate, with fuel. -/
def DupOK (C : Ar) (b bf m : Nat) : Prop := ∀ (deep : Bool) (A : Ar) (d h : Int) (L : List Asrt) (w0 w : World) (B : Nat), A.Inv → A.has d → (A.get d).kind = 1 → C.has h → (C.walk h).length ≤ m →
  (if (C.get h).kind = 1 then A.ns.length + 2 else A.cap d) + (C.walk h).length + 2 ≤ 300000 → Src C b bf A L → Own w0 B (.arena b A :: L) w →
    Calls Tryz.prog 144 #[.pointer (some ⟨b, 0, none⟩), .int .i64 d, .pointer (some ⟨bf, 0, none⟩), .int .i64 h, .bool deep] w fun e w' => e = .returned (.int .i64 (dupF C deep m A d h).1) ∧ Own w0 B (.arena b (dupF C deep m A d h).2 :: L) w'

/-- The copies of some nodes, one by one: the stages of the arena, and the calls. -/
theorem copies_calls {C A A2 : Ar} (hC : C.Inv) {b bf m : Nat} (ih : DupOK C b bf m) {d c : Int} {X : Nat} (hI : DupI A A2 d X) (hc : ¬ A.has c) (hcB : A2.has c) (ks : List Int) (hck : ks ≠ [] → (A2.get c).kind = 1 ∨ (A2.get c).kind = 2 ∨ (A2.get c).kind = 4)
    (hk : ∀ k ∈ ks, C.has k ∧ (C.get k).kind ≠ 1 ∧ (C.get k).kind ≠ 2 ∧ (C.walk k).length ≤ m) (hX : X + (ks.flatMap C.walk).length + 2 ≤ 300000) {L : List Asrt} (hsrc : Src C b bf A L) :
    ∃ (st : Nat → Ar) (yv : Nat → Int → Int) (ya : Nat → Int → Ar), st 0 = A2 ∧ st ks.length = ks.foldl (dupStep (fun B k => dupF C true m B d k) c) A2 ∧
      (∀ i x, ks[i]? = some x → ∀ (w0 : World) (B : Nat) (L' : List Asrt) (W : World), (∀ a ∈ L, a ∈ L') → Own w0 B (.arena b (st i) :: L') W →
        Calls Tryz.prog 144 #[.pointer (some ⟨b, 0, none⟩), .int .i64 d, .pointer (some ⟨bf, 0, none⟩), .int .i64 x, .bool true] W fun e w' => e = .returned (.int .i64 (yv i x)) ∧ Own w0 B (.arena b (ya i x) :: L') w') ∧
      (∀ i x, ks[i]? = some x → ∀ (w0 : World) (B : Nat) (L' : List Asrt) (W : World), Own w0 B (.arena b (ya i x) :: L') W →
        Calls Tryz.prog 125 #[.pointer (some ⟨b, 0, none⟩), .int .i64 c, .int .i64 (yv i x), .int .i64 0] W fun e w' => (∃ v, e = .returned (.int .i64 v)) ∧ Own w0 B (.arena b (st (i + 1)) :: L') w') := by
  have hf := DupI.fold hC hI hc hcB ks hck hk
  refine ⟨fun i => (ks.take i).foldl (dupStep (fun B k => dupF C true m B d k) c) A2, fun i x => (dupF C true m ((ks.take i).foldl (dupStep (fun B k => dupF C true m B d k) c) A2) d x).1, fun i x => (dupF C true m ((ks.take i).foldl (dupStep (fun B k => dupF C true m B d k) c) A2) d x).2, rfl, by show (ks.take ks.length).foldl _ _ = _; rw [List.take_length], ?_, ?_⟩
  · intro i x hx w0 B L' W hL q
    have hi : i ≤ ks.length := by have := (List.getElem?_eq_some_iff.1 hx).1; omega
    obtain ⟨f1, -, -, -⟩ := hf i hi
    obtain ⟨k1, k2, k3, k4⟩ := hk x (List.mem_of_getElem? hx)
    have hfl := flat_le (C := C) hx
    have hcap := f1.cap
    refine ih true _ d x L' w0 W B f1.inv f1.has f1.kind k1 k4 (by rw [if_neg k2]; omega) (hsrc.grow f1.old hL) q
  · intro i x hx w0 B L' W q
    have hi : i ≤ ks.length := by have := (List.getElem?_eq_some_iff.1 hx).1; omega
    obtain ⟨f1, -, -, -⟩ := hf i hi
    obtain ⟨k1, k2, k3, k4⟩ := hk x (List.mem_of_getElem? hx)
    have hfl := flat_le (C := C) hx
    have hcap := f1.cap
    obtain ⟨g1, g2⟩ := dupF_facts hC m true f1.inv f1.has f1.kind k1 k2 k4
    have hst : (ks.take (i + 1)).foldl (dupStep (fun B k => dupF C true m B d k) c) A2 = dupStep (fun B k => dupF C true m B d k) c ((ks.take i).foldl (dupStep (fun B k => dupF C true m B d k) c) A2) x := fold_take _ _ hx
    have hsz := Ar.cap_ge (dupF C true m ((ks.take i).foldl (dupStep (fun B k => dupF C true m B d k) c) A2) d x).2 d
    have hle : (dupF C true m ((ks.take i).foldl (dupStep (fun B k => dupF C true m B d k) c) A2) d x).2.ns.length ≤ 1000000 := by omega
    dsimp only
    rw [hst]
    refine (q.call (fun ρ hA => Put_any _ ρ b c (dupF C true m ((ks.take i).foldl (dupStep (fun B k => dupF C true m B d k) c) A2) d x).1 0 W hA g1.inv.wf hle)).mono ?_
    rintro e w' ⟨h1, h2⟩
    exact ⟨⟨_, h1⟩, h2⟩

set_option maxRecDepth 100000 in
set_option maxHeartbeats 2000000 in
theorem dup_2_true {C : Ar} (hC : C.Inv) (hCs : C.ns.length ≤ 300000) {b bf m : Nat} (ih : DupOK C b bf m) (A : Ar) (d h : Int) (L : List Asrt) (w0 w : World) (B : Nat) (hA : A.Inv) (hd : A.has d) (hk : (A.get d).kind = 1) (hh : C.has h) (hw : (C.walk h).length ≤ m + 1)
    (hsz : (if (C.get h).kind = 1 then A.ns.length + 2 else A.cap d) + (C.walk h).length + 2 ≤ 300000) (hsrc : Src C b bf A L) (o : Own w0 B (.arena b A :: L) w) (hkind : (C.get h).kind = 2) :
    Calls Tryz.prog 144 #[.pointer (some ⟨b, 0, none⟩), .int .i64 d, .pointer (some ⟨bf, 0, none⟩), .int .i64 h, .bool true] w fun e w' => e = .returned (.int .i64 (dupF C true (m + 1) A d h).1) ∧ Own w0 B (.arena b (dupF C true (m + 1) A d h).2 :: L) w' := by
  have h1 : (C.get h).kind ≠ 1 := by omega
  rw [if_neg h1] at hsz
  have hwp := walk_pos hC hh
  have hcg := Ar.cap_ge A d
  obtain ⟨C', hm, hCi, hCl, hCh, hCg⟩ := hsrc.at' hA hC (by omega) hCs hh
  have hcont : (C.get h).contents = 0 := hC.nocont h hh (.inr (fun q => by have := q.1; omega))
  obtain ⟨s1, s2, s3, s4⟩ := DupI.alone hA hC hd hk hh h1
  rw [if_neg (fun q => q hcont)] at s1
  have hkk := kids_copy hC hh hw
  have hkc : (C.get h).kids ≠ [] → ((A.alone d (C.get h)).2.get (A.n + 1)).kind = 1 ∨ ((A.alone d (C.get h)).2.get (A.n + 1)).kind = 2 ∨ ((A.alone d (C.get h)).2.get (A.n + 1)).kind = 4 := fun q => by rw [s4]; exact hC.kidk h hh q
  have hwl := walk_kids_len hC hh
  have hkl := Ar.kids_len hC.wf hh
  have hdup := dupF_eq C true m A d h
  have hmid : dupMid C true m (A.alone d (C.get h)) d h = (A.alone d (C.get h)).2 := by unfold dupMid; rw [if_neg (fun q => q.2.2 hcont)]
  rw [hmid, if_neg h1] at hdup
  generalize hnd : C.get h = nd at *
  have HN := Lib.hid (NodeKA_own (b := bf) (A := C') o hm (hCi.short (by omega)) hCh hCg)
  have hal : A.alone d nd = ((A.make d fragNd).1.1, (A.make d fragNd).2) := by unfold Ar.alone; simp [hkind]
  have HMK := Lib.hid (fun l' W (q : Own w0 B (.arena b A :: l') W) => q.call (fun ρ hA' => Fragment_any A ρ b d W hA' (by omega)))
  unfold pairV at HMK
  rw [hal] at s1 s2 s3 s4 hkc hdup
  generalize A.make d fragNd = R at *
  obtain ⟨⟨c, er⟩, A2⟩ := R
  dsimp only at *
  rw [if_pos rfl] at hdup
  obtain ⟨st, yv, ya, t0, t1, t2, t3⟩ := copies_calls hC ih s1 (c := c) (by rw [s2]; exact no_new) (by rw [s2]; exact s3) nd.kids (by rw [s2]; exact hkc) hkk (by omega) hsrc
  have HFINST := Lib.hid t1
  have HCALL := Lib.hid t2
  have HPUT := Lib.hid t3
  have HF := Lib.hid hdup
  have hkl2 : (nd.kids.length : Int) ≤ 300000 := by omega
  have e1 : (nd.kind == 1) = false := by simp [hkind]
  have e2 : (nd.kind == 2) = true := by simp [hkind]
  have e3 : (nd.kind == 3) = false := by simp [hkind]
  have e5 : (nd.kind == 5) = false := by simp [hkind]
  have e6 : (nd.kind == 6) = false := by simp [hkind]
  have e4 : (nd.kind == 4) = false := by simp [hkind]
  clear hd hk hh hw hsz hsrc o hwp hcg hm hCi hCl hCh hCg hcont s1 s2 s3 s4 hkk hkc hwl hdup hmid hal hkind h1 hnd
  go_enter Tryz.func144, Tryz.ntmps144
  go_wp2_with fail
  refine HN.out.mono ?_
  rintro e w2 ⟨ka, kc, aa, ac, rfl, o2⟩
  clear HN
  have HT := Lib.hid (nodeBox_facts (w := w2) nd ka kc aa ac nd.kids.length nd.attrs.length)
  have o5 := o2.nodeBox nd (.slice ka nd.kids.length kc) (.slice aa nd.attrs.length ac)
  go_wp2_with ((with_reducible refine wpList_store_mid ?_ 46 (.tmp 11) (.tmp 26) ?_ w2.heap.size 0 (nd.cells (.slice ka nd.kids.length kc) (.slice aa nd.attrs.length ac)).toArray ?_ ?_ ?_ ?_ ?_ ?_); exact rfl; exact rfl; exact rfl; exact rfl; exact HT.out.1; exact sizeNode _ _ _; exact all_oneCell_toArray HT.out.2; clear HT; generalize hw5 : World.setCells _ _ _ _ = w5 at o5 ⊢; generalize hg5 : w2.heap.size = g5 at o5 ⊢; clear hw5 hg5; have q0 : w5.cell? ⟨g5, 0, none⟩ = some (.int .i64 nd.kind) := (cell_of_row w5 _ _ _ _ _ (o5.box (g := g5) (o := .cells (nd.cells (.slice ka nd.kids.length kc) (.slice aa nd.attrs.length ac)).toArray 46 (0, 0)) (by simp))).trans rfl)
  have oM := o5.perm (by simpa using (List.perm_append_comm (l₁ := [Asrt.box g5 (.cells (nd.cells (.slice ka nd.kids.length kc) (.slice aa nd.attrs.length ac)).toArray 46 (0, 0)), .ints (.slice ka nd.kids.length kc) nd.kids, .atts (.slice aa nd.attrs.length ac) nd.attrs]) (l₂ := [Asrt.arena b A])).append_right L)
  have HM := Lib.hid (HMK.out _ _ oM)
  clear o5 oM HMK
  go_wp2_with fail
  refine HM.out.mono ?_
  rintro e w6 ⟨rfl, o6⟩
  clear HM q0
  rw [← t0] at o6
  have q2 : w6.cell? ⟨g5, 2, none⟩ = some (.slice ka nd.kids.length kc) := (cell_of_row w6 _ _ _ _ _ (o6.box (g := g5) (o := .cells (nd.cells (.slice ka nd.kids.length kc) (.slice aa nd.attrs.length ac)).toArray 46 (0, 0)) (by simp))).trans rfl
  have HO6 := Lib.hid o6
  clear o6 t0 t1 t2 t3
  go_wp2
  go_loopw [134] (fun i wr => ∃ k : Nat, k ≤ nd.kids.length ∧ i = .int .i64 k ∧ Hid (Own w0 B (.arena b (st k) :: .box g5 (.cells (nd.cells (.slice ka nd.kids.length kc) (.slice aa nd.attrs.length ac)).toArray 46 (0, 0)) :: .ints (.slice ka nd.kids.length kc) nd.kids :: .atts (.slice aa nd.attrs.length ac) nd.attrs :: L) wr)) (fun i _ => nd.kids.length - (intOf i).toNat)
  case atStart => exact ⟨0, Nat.zero_le _, rfl, HO6⟩
  case round =>
    obtain ⟨k, hk, rfl, hT⟩ := hrel
    by_cases hlt : k < nd.kids.length
    · obtain ⟨x, hx⟩ : ∃ x, nd.kids[k]? = some x := ⟨_, List.getElem?_eq_getElem hlt⟩
      have hri : RInts wr (.slice ka nd.kids.length kc) nd.kids := hT.out.ints (by simp)
      obtain ⟨b1, o1, rfl, -, hcs⟩ := hri.cells (by omega)
      have c1 := hcs k x hx
      have HC := Lib.hid (HCALL.out k x hx w0 B _ wr (fun a ha => by simp [ha]) hT.out)
      have HP := Lib.hid (HPUT.out k x hx)
      clear hri hcs hx hT
      go_wp2_with fail
      refine HC.out.mono ?_
      rintro e w7 ⟨rfl, o7⟩
      have HP7 := Lib.hid (HP.out w0 B _ _ o7)
      clear o7 HC HP
      go_wp2_with fail
      refine HP7.out.mono ?_
      rintro e w8 ⟨⟨pv, rfl⟩, o8⟩
      have HO8 := Lib.hid o8
      clear o8 HP7 c1
      go_wp2
      go_roundw
      case rel => exact ⟨k + 1, hlt, by go_num, HO8⟩
      case measure => simp [intOf]; omega
    · have hkl : k = nd.kids.length := by omega
      have o9 := hT.out
      rw [hkl, HFINST.out] at o9
      have HO9 := Lib.hid o9
      clear o9 hT hkl
      go_wp2
      go_ret
      rw [HF.out]
      exact ⟨rfl, HO9.out.swap.drop.swap.drop.swap.drop⟩

set_option maxRecDepth 100000 in
set_option maxHeartbeats 2000000 in
theorem dup_2_false {C : Ar} (hC : C.Inv) (hCs : C.ns.length ≤ 300000) {b bf m : Nat} (ih : DupOK C b bf m) (A : Ar) (d h : Int) (L : List Asrt) (w0 w : World) (B : Nat) (hA : A.Inv) (hd : A.has d) (hk : (A.get d).kind = 1) (hh : C.has h) (hw : (C.walk h).length ≤ m + 1)
    (hsz : (if (C.get h).kind = 1 then A.ns.length + 2 else A.cap d) + (C.walk h).length + 2 ≤ 300000) (hsrc : Src C b bf A L) (o : Own w0 B (.arena b A :: L) w) (hkind : (C.get h).kind = 2) :
    Calls Tryz.prog 144 #[.pointer (some ⟨b, 0, none⟩), .int .i64 d, .pointer (some ⟨bf, 0, none⟩), .int .i64 h, .bool false] w fun e w' => e = .returned (.int .i64 (dupF C false (m + 1) A d h).1) ∧ Own w0 B (.arena b (dupF C false (m + 1) A d h).2 :: L) w' := by
  have h1 : (C.get h).kind ≠ 1 := by omega
  rw [if_neg h1] at hsz
  have hwp := walk_pos hC hh
  have hcg := Ar.cap_ge A d
  obtain ⟨C', hm, hCi, hCl, hCh, hCg⟩ := hsrc.at' hA hC (by omega) hCs hh
  have hcont : (C.get h).contents = 0 := hC.nocont h hh (.inr (fun q => by have := q.1; omega))
  obtain ⟨s1, s2, s3, s4⟩ := DupI.alone hA hC hd hk hh h1
  rw [if_neg (fun q => q hcont)] at s1
  have hkk := kids_copy hC hh hw
  have hkc : (C.get h).kids ≠ [] → ((A.alone d (C.get h)).2.get (A.n + 1)).kind = 1 ∨ ((A.alone d (C.get h)).2.get (A.n + 1)).kind = 2 ∨ ((A.alone d (C.get h)).2.get (A.n + 1)).kind = 4 := fun q => by rw [s4]; exact hC.kidk h hh q
  have hwl := walk_kids_len hC hh
  have hkl := Ar.kids_len hC.wf hh
  have hdup := dupF_eq C false m A d h
  have hmid : dupMid C false m (A.alone d (C.get h)) d h = (A.alone d (C.get h)).2 := by unfold dupMid; rw [if_neg (fun q => q.2.2 hcont)]
  rw [hmid, if_neg h1] at hdup
  generalize hnd : C.get h = nd at *
  have HN := Lib.hid (NodeKA_own (b := bf) (A := C') o hm (hCi.short (by omega)) hCh hCg)
  have hal : A.alone d nd = ((A.make d fragNd).1.1, (A.make d fragNd).2) := by unfold Ar.alone; simp [hkind]
  have HMK := Lib.hid (fun l' W (q : Own w0 B (.arena b A :: l') W) => q.call (fun ρ hA' => Fragment_any A ρ b d W hA' (by omega)))
  unfold pairV at HMK
  rw [hal] at s1 s2 s3 s4 hkc hdup
  generalize A.make d fragNd = R at *
  obtain ⟨⟨c, er⟩, A2⟩ := R
  dsimp only at *
  rw [if_neg (by decide)] at hdup
  have HF := Lib.hid hdup
  have e1 : (nd.kind == 1) = false := by simp [hkind]
  have e2 : (nd.kind == 2) = true := by simp [hkind]
  have e3 : (nd.kind == 3) = false := by simp [hkind]
  have e5 : (nd.kind == 5) = false := by simp [hkind]
  have e6 : (nd.kind == 6) = false := by simp [hkind]
  have e4 : (nd.kind == 4) = false := by simp [hkind]
  clear hd hk hh hw hsz hsrc o hwp hcg hm hCi hCl hCh hCg hcont s1 s2 s3 s4 hkk hkc hwl hdup hmid hal hkind h1 hnd
  go_enter Tryz.func144, Tryz.ntmps144
  go_wp2_with fail
  refine HN.out.mono ?_
  rintro e w2 ⟨ka, kc, aa, ac, rfl, o2⟩
  clear HN
  have HT := Lib.hid (nodeBox_facts (w := w2) nd ka kc aa ac nd.kids.length nd.attrs.length)
  have o5 := o2.nodeBox nd (.slice ka nd.kids.length kc) (.slice aa nd.attrs.length ac)
  go_wp2_with ((with_reducible refine wpList_store_mid ?_ 46 (.tmp 11) (.tmp 26) ?_ w2.heap.size 0 (nd.cells (.slice ka nd.kids.length kc) (.slice aa nd.attrs.length ac)).toArray ?_ ?_ ?_ ?_ ?_ ?_); exact rfl; exact rfl; exact rfl; exact rfl; exact HT.out.1; exact sizeNode _ _ _; exact all_oneCell_toArray HT.out.2; clear HT; generalize hw5 : World.setCells _ _ _ _ = w5 at o5 ⊢; generalize hg5 : w2.heap.size = g5 at o5 ⊢; clear hw5 hg5; have q0 : w5.cell? ⟨g5, 0, none⟩ = some (.int .i64 nd.kind) := (cell_of_row w5 _ _ _ _ _ (o5.box (g := g5) (o := .cells (nd.cells (.slice ka nd.kids.length kc) (.slice aa nd.attrs.length ac)).toArray 46 (0, 0)) (by simp))).trans rfl)
  have oM := o5.perm (by simpa using (List.perm_append_comm (l₁ := [Asrt.box g5 (.cells (nd.cells (.slice ka nd.kids.length kc) (.slice aa nd.attrs.length ac)).toArray 46 (0, 0)), .ints (.slice ka nd.kids.length kc) nd.kids, .atts (.slice aa nd.attrs.length ac) nd.attrs]) (l₂ := [Asrt.arena b A])).append_right L)
  have HM := Lib.hid (HMK.out _ _ oM)
  clear o5 oM HMK
  go_wp2_with fail
  refine HM.out.mono ?_
  rintro e w6 ⟨rfl, o6⟩
  clear HM q0
  have HO6 := Lib.hid o6
  clear o6
  go_wp2
  go_ret
  rw [HF.out]
  exact ⟨rfl, HO6.out.swap.drop.swap.drop.swap.drop⟩

set_option maxRecDepth 100000 in
set_option maxHeartbeats 2000000 in
theorem dup_3_true {C : Ar} (hC : C.Inv) (hCs : C.ns.length ≤ 300000) {b bf m : Nat} (ih : DupOK C b bf m) (A : Ar) (d h : Int) (L : List Asrt) (w0 w : World) (B : Nat) (hA : A.Inv) (hd : A.has d) (hk : (A.get d).kind = 1) (hh : C.has h) (hw : (C.walk h).length ≤ m + 1)
    (hsz : (if (C.get h).kind = 1 then A.ns.length + 2 else A.cap d) + (C.walk h).length + 2 ≤ 300000) (hsrc : Src C b bf A L) (o : Own w0 B (.arena b A :: L) w) (hkind : (C.get h).kind = 3) :
    Calls Tryz.prog 144 #[.pointer (some ⟨b, 0, none⟩), .int .i64 d, .pointer (some ⟨bf, 0, none⟩), .int .i64 h, .bool true] w fun e w' => e = .returned (.int .i64 (dupF C true (m + 1) A d h).1) ∧ Own w0 B (.arena b (dupF C true (m + 1) A d h).2 :: L) w' := by
  have h1 : (C.get h).kind ≠ 1 := by omega
  rw [if_neg h1] at hsz
  have hwp := walk_pos hC hh
  have hcg := Ar.cap_ge A d
  obtain ⟨C', hm, hCi, hCl, hCh, hCg⟩ := hsrc.at' hA hC (by omega) hCs hh
  have hcont : (C.get h).contents = 0 := hC.nocont h hh (.inr (fun q => by have := q.1; omega))
  obtain ⟨s1, s2, s3, s4⟩ := DupI.alone hA hC hd hk hh h1
  rw [if_neg (fun q => q hcont)] at s1
  have hkk := kids_copy hC hh hw
  have hkc : (C.get h).kids ≠ [] → ((A.alone d (C.get h)).2.get (A.n + 1)).kind = 1 ∨ ((A.alone d (C.get h)).2.get (A.n + 1)).kind = 2 ∨ ((A.alone d (C.get h)).2.get (A.n + 1)).kind = 4 := fun q => by rw [s4]; exact hC.kidk h hh q
  have hwl := walk_kids_len hC hh
  have hkl := Ar.kids_len hC.wf hh
  have hdup := dupF_eq C true m A d h
  have hmid : dupMid C true m (A.alone d (C.get h)) d h = (A.alone d (C.get h)).2 := by unfold dupMid; rw [if_neg (fun q => q.2.2 hcont)]
  rw [hmid, if_neg h1] at hdup
  generalize hnd : C.get h = nd at *
  have HN := Lib.hid (NodeKA_own (b := bf) (A := C') o hm (hCi.short (by omega)) hCh hCg)
  have hal : A.alone d nd = ((A.make d (docTypeNd nd.name nd.pub nd.sys)).1.1, (A.make d (docTypeNd nd.name nd.pub nd.sys)).2) := by unfold Ar.alone; simp [hkind]
  have HMK := Lib.hid (fun l' W (q : Own w0 B (.arena b A :: l') W) => q.call (fun ρ hA' => Doctype_any A ρ b d nd.name nd.pub nd.sys W hA' (by omega)))
  unfold pairV at HMK
  rw [hal] at s1 s2 s3 s4 hkc hdup
  generalize A.make d (docTypeNd nd.name nd.pub nd.sys) = R at *
  obtain ⟨⟨c, er⟩, A2⟩ := R
  dsimp only at *
  rw [if_pos rfl] at hdup
  obtain ⟨st, yv, ya, t0, t1, t2, t3⟩ := copies_calls hC ih s1 (c := c) (by rw [s2]; exact no_new) (by rw [s2]; exact s3) nd.kids (by rw [s2]; exact hkc) hkk (by omega) hsrc
  have HFINST := Lib.hid t1
  have HCALL := Lib.hid t2
  have HPUT := Lib.hid t3
  have HF := Lib.hid hdup
  have hkl2 : (nd.kids.length : Int) ≤ 300000 := by omega
  have e1 : (nd.kind == 1) = false := by simp [hkind]
  have e2 : (nd.kind == 2) = false := by simp [hkind]
  have e3 : (nd.kind == 3) = true := by simp [hkind]
  have e5 : (nd.kind == 5) = false := by simp [hkind]
  have e6 : (nd.kind == 6) = false := by simp [hkind]
  have e4 : (nd.kind == 4) = false := by simp [hkind]
  clear hd hk hh hw hsz hsrc o hwp hcg hm hCi hCl hCh hCg hcont s1 s2 s3 s4 hkk hkc hwl hdup hmid hal hkind h1 hnd
  go_enter Tryz.func144, Tryz.ntmps144
  go_wp2_with fail
  refine HN.out.mono ?_
  rintro e w2 ⟨ka, kc, aa, ac, rfl, o2⟩
  clear HN
  have HT := Lib.hid (nodeBox_facts (w := w2) nd ka kc aa ac nd.kids.length nd.attrs.length)
  have o5 := o2.nodeBox nd (.slice ka nd.kids.length kc) (.slice aa nd.attrs.length ac)
  go_wp2_with ((with_reducible refine wpList_store_mid ?_ 46 (.tmp 11) (.tmp 26) ?_ w2.heap.size 0 (nd.cells (.slice ka nd.kids.length kc) (.slice aa nd.attrs.length ac)).toArray ?_ ?_ ?_ ?_ ?_ ?_); exact rfl; exact rfl; exact rfl; exact rfl; exact HT.out.1; exact sizeNode _ _ _; exact all_oneCell_toArray HT.out.2; clear HT; generalize hw5 : World.setCells _ _ _ _ = w5 at o5 ⊢; generalize hg5 : w2.heap.size = g5 at o5 ⊢; clear hw5 hg5; have q0 : w5.cell? ⟨g5, 0, none⟩ = some (.int .i64 nd.kind) := (cell_of_row w5 _ _ _ _ _ (o5.box (g := g5) (o := .cells (nd.cells (.slice ka nd.kids.length kc) (.slice aa nd.attrs.length ac)).toArray 46 (0, 0)) (by simp))).trans rfl; have f0 : w5.cell? ⟨g5, 5, none⟩ = some (.string nd.name) := (cell_of_row w5 _ _ _ _ _ (o5.box (g := g5) (o := .cells (nd.cells (.slice ka nd.kids.length kc) (.slice aa nd.attrs.length ac)).toArray 46 (0, 0)) (by simp))).trans rfl; have f1 : w5.cell? ⟨g5, 8, none⟩ = some (.string nd.pub) := (cell_of_row w5 _ _ _ _ _ (o5.box (g := g5) (o := .cells (nd.cells (.slice ka nd.kids.length kc) (.slice aa nd.attrs.length ac)).toArray 46 (0, 0)) (by simp))).trans rfl; have f2 : w5.cell? ⟨g5, 9, none⟩ = some (.string nd.sys) := (cell_of_row w5 _ _ _ _ _ (o5.box (g := g5) (o := .cells (nd.cells (.slice ka nd.kids.length kc) (.slice aa nd.attrs.length ac)).toArray 46 (0, 0)) (by simp))).trans rfl)
  have oM := o5.perm (by simpa using (List.perm_append_comm (l₁ := [Asrt.box g5 (.cells (nd.cells (.slice ka nd.kids.length kc) (.slice aa nd.attrs.length ac)).toArray 46 (0, 0)), .ints (.slice ka nd.kids.length kc) nd.kids, .atts (.slice aa nd.attrs.length ac) nd.attrs]) (l₂ := [Asrt.arena b A])).append_right L)
  have HM := Lib.hid (HMK.out _ _ oM)
  clear o5 oM HMK
  go_wp2_with fail
  refine HM.out.mono ?_
  rintro e w6 ⟨rfl, o6⟩
  clear HM q0 f0 f1 f2
  rw [← t0] at o6
  have q2 : w6.cell? ⟨g5, 2, none⟩ = some (.slice ka nd.kids.length kc) := (cell_of_row w6 _ _ _ _ _ (o6.box (g := g5) (o := .cells (nd.cells (.slice ka nd.kids.length kc) (.slice aa nd.attrs.length ac)).toArray 46 (0, 0)) (by simp))).trans rfl
  have HO6 := Lib.hid o6
  clear o6 t0 t1 t2 t3
  go_wp2
  go_loopw [134] (fun i wr => ∃ k : Nat, k ≤ nd.kids.length ∧ i = .int .i64 k ∧ Hid (Own w0 B (.arena b (st k) :: .box g5 (.cells (nd.cells (.slice ka nd.kids.length kc) (.slice aa nd.attrs.length ac)).toArray 46 (0, 0)) :: .ints (.slice ka nd.kids.length kc) nd.kids :: .atts (.slice aa nd.attrs.length ac) nd.attrs :: L) wr)) (fun i _ => nd.kids.length - (intOf i).toNat)
  case atStart => exact ⟨0, Nat.zero_le _, rfl, HO6⟩
  case round =>
    obtain ⟨k, hk, rfl, hT⟩ := hrel
    by_cases hlt : k < nd.kids.length
    · obtain ⟨x, hx⟩ : ∃ x, nd.kids[k]? = some x := ⟨_, List.getElem?_eq_getElem hlt⟩
      have hri : RInts wr (.slice ka nd.kids.length kc) nd.kids := hT.out.ints (by simp)
      obtain ⟨b1, o1, rfl, -, hcs⟩ := hri.cells (by omega)
      have c1 := hcs k x hx
      have HC := Lib.hid (HCALL.out k x hx w0 B _ wr (fun a ha => by simp [ha]) hT.out)
      have HP := Lib.hid (HPUT.out k x hx)
      clear hri hcs hx hT
      go_wp2_with fail
      refine HC.out.mono ?_
      rintro e w7 ⟨rfl, o7⟩
      have HP7 := Lib.hid (HP.out w0 B _ _ o7)
      clear o7 HC HP
      go_wp2_with fail
      refine HP7.out.mono ?_
      rintro e w8 ⟨⟨pv, rfl⟩, o8⟩
      have HO8 := Lib.hid o8
      clear o8 HP7 c1
      go_wp2
      go_roundw
      case rel => exact ⟨k + 1, hlt, by go_num, HO8⟩
      case measure => simp [intOf]; omega
    · have hkl : k = nd.kids.length := by omega
      have o9 := hT.out
      rw [hkl, HFINST.out] at o9
      have HO9 := Lib.hid o9
      clear o9 hT hkl
      go_wp2
      go_ret
      rw [HF.out]
      exact ⟨rfl, HO9.out.swap.drop.swap.drop.swap.drop⟩

set_option maxRecDepth 100000 in
set_option maxHeartbeats 2000000 in
theorem dup_3_false {C : Ar} (hC : C.Inv) (hCs : C.ns.length ≤ 300000) {b bf m : Nat} (ih : DupOK C b bf m) (A : Ar) (d h : Int) (L : List Asrt) (w0 w : World) (B : Nat) (hA : A.Inv) (hd : A.has d) (hk : (A.get d).kind = 1) (hh : C.has h) (hw : (C.walk h).length ≤ m + 1)
    (hsz : (if (C.get h).kind = 1 then A.ns.length + 2 else A.cap d) + (C.walk h).length + 2 ≤ 300000) (hsrc : Src C b bf A L) (o : Own w0 B (.arena b A :: L) w) (hkind : (C.get h).kind = 3) :
    Calls Tryz.prog 144 #[.pointer (some ⟨b, 0, none⟩), .int .i64 d, .pointer (some ⟨bf, 0, none⟩), .int .i64 h, .bool false] w fun e w' => e = .returned (.int .i64 (dupF C false (m + 1) A d h).1) ∧ Own w0 B (.arena b (dupF C false (m + 1) A d h).2 :: L) w' := by
  have h1 : (C.get h).kind ≠ 1 := by omega
  rw [if_neg h1] at hsz
  have hwp := walk_pos hC hh
  have hcg := Ar.cap_ge A d
  obtain ⟨C', hm, hCi, hCl, hCh, hCg⟩ := hsrc.at' hA hC (by omega) hCs hh
  have hcont : (C.get h).contents = 0 := hC.nocont h hh (.inr (fun q => by have := q.1; omega))
  obtain ⟨s1, s2, s3, s4⟩ := DupI.alone hA hC hd hk hh h1
  rw [if_neg (fun q => q hcont)] at s1
  have hkk := kids_copy hC hh hw
  have hkc : (C.get h).kids ≠ [] → ((A.alone d (C.get h)).2.get (A.n + 1)).kind = 1 ∨ ((A.alone d (C.get h)).2.get (A.n + 1)).kind = 2 ∨ ((A.alone d (C.get h)).2.get (A.n + 1)).kind = 4 := fun q => by rw [s4]; exact hC.kidk h hh q
  have hwl := walk_kids_len hC hh
  have hkl := Ar.kids_len hC.wf hh
  have hdup := dupF_eq C false m A d h
  have hmid : dupMid C false m (A.alone d (C.get h)) d h = (A.alone d (C.get h)).2 := by unfold dupMid; rw [if_neg (fun q => q.2.2 hcont)]
  rw [hmid, if_neg h1] at hdup
  generalize hnd : C.get h = nd at *
  have HN := Lib.hid (NodeKA_own (b := bf) (A := C') o hm (hCi.short (by omega)) hCh hCg)
  have hal : A.alone d nd = ((A.make d (docTypeNd nd.name nd.pub nd.sys)).1.1, (A.make d (docTypeNd nd.name nd.pub nd.sys)).2) := by unfold Ar.alone; simp [hkind]
  have HMK := Lib.hid (fun l' W (q : Own w0 B (.arena b A :: l') W) => q.call (fun ρ hA' => Doctype_any A ρ b d nd.name nd.pub nd.sys W hA' (by omega)))
  unfold pairV at HMK
  rw [hal] at s1 s2 s3 s4 hkc hdup
  generalize A.make d (docTypeNd nd.name nd.pub nd.sys) = R at *
  obtain ⟨⟨c, er⟩, A2⟩ := R
  dsimp only at *
  rw [if_neg (by decide)] at hdup
  have HF := Lib.hid hdup
  have e1 : (nd.kind == 1) = false := by simp [hkind]
  have e2 : (nd.kind == 2) = false := by simp [hkind]
  have e3 : (nd.kind == 3) = true := by simp [hkind]
  have e5 : (nd.kind == 5) = false := by simp [hkind]
  have e6 : (nd.kind == 6) = false := by simp [hkind]
  have e4 : (nd.kind == 4) = false := by simp [hkind]
  clear hd hk hh hw hsz hsrc o hwp hcg hm hCi hCl hCh hCg hcont s1 s2 s3 s4 hkk hkc hwl hdup hmid hal hkind h1 hnd
  go_enter Tryz.func144, Tryz.ntmps144
  go_wp2_with fail
  refine HN.out.mono ?_
  rintro e w2 ⟨ka, kc, aa, ac, rfl, o2⟩
  clear HN
  have HT := Lib.hid (nodeBox_facts (w := w2) nd ka kc aa ac nd.kids.length nd.attrs.length)
  have o5 := o2.nodeBox nd (.slice ka nd.kids.length kc) (.slice aa nd.attrs.length ac)
  go_wp2_with ((with_reducible refine wpList_store_mid ?_ 46 (.tmp 11) (.tmp 26) ?_ w2.heap.size 0 (nd.cells (.slice ka nd.kids.length kc) (.slice aa nd.attrs.length ac)).toArray ?_ ?_ ?_ ?_ ?_ ?_); exact rfl; exact rfl; exact rfl; exact rfl; exact HT.out.1; exact sizeNode _ _ _; exact all_oneCell_toArray HT.out.2; clear HT; generalize hw5 : World.setCells _ _ _ _ = w5 at o5 ⊢; generalize hg5 : w2.heap.size = g5 at o5 ⊢; clear hw5 hg5; have q0 : w5.cell? ⟨g5, 0, none⟩ = some (.int .i64 nd.kind) := (cell_of_row w5 _ _ _ _ _ (o5.box (g := g5) (o := .cells (nd.cells (.slice ka nd.kids.length kc) (.slice aa nd.attrs.length ac)).toArray 46 (0, 0)) (by simp))).trans rfl; have f0 : w5.cell? ⟨g5, 5, none⟩ = some (.string nd.name) := (cell_of_row w5 _ _ _ _ _ (o5.box (g := g5) (o := .cells (nd.cells (.slice ka nd.kids.length kc) (.slice aa nd.attrs.length ac)).toArray 46 (0, 0)) (by simp))).trans rfl; have f1 : w5.cell? ⟨g5, 8, none⟩ = some (.string nd.pub) := (cell_of_row w5 _ _ _ _ _ (o5.box (g := g5) (o := .cells (nd.cells (.slice ka nd.kids.length kc) (.slice aa nd.attrs.length ac)).toArray 46 (0, 0)) (by simp))).trans rfl; have f2 : w5.cell? ⟨g5, 9, none⟩ = some (.string nd.sys) := (cell_of_row w5 _ _ _ _ _ (o5.box (g := g5) (o := .cells (nd.cells (.slice ka nd.kids.length kc) (.slice aa nd.attrs.length ac)).toArray 46 (0, 0)) (by simp))).trans rfl)
  have oM := o5.perm (by simpa using (List.perm_append_comm (l₁ := [Asrt.box g5 (.cells (nd.cells (.slice ka nd.kids.length kc) (.slice aa nd.attrs.length ac)).toArray 46 (0, 0)), .ints (.slice ka nd.kids.length kc) nd.kids, .atts (.slice aa nd.attrs.length ac) nd.attrs]) (l₂ := [Asrt.arena b A])).append_right L)
  have HM := Lib.hid (HMK.out _ _ oM)
  clear o5 oM HMK
  go_wp2_with fail
  refine HM.out.mono ?_
  rintro e w6 ⟨rfl, o6⟩
  clear HM q0 f0 f1 f2
  have HO6 := Lib.hid o6
  clear o6
  go_wp2
  go_ret
  rw [HF.out]
  exact ⟨rfl, HO6.out.swap.drop.swap.drop.swap.drop⟩

set_option maxRecDepth 100000 in
set_option maxHeartbeats 2000000 in
theorem dup_5_true {C : Ar} (hC : C.Inv) (hCs : C.ns.length ≤ 300000) {b bf m : Nat} (ih : DupOK C b bf m) (A : Ar) (d h : Int) (L : List Asrt) (w0 w : World) (B : Nat) (hA : A.Inv) (hd : A.has d) (hk : (A.get d).kind = 1) (hh : C.has h) (hw : (C.walk h).length ≤ m + 1)
    (hsz : (if (C.get h).kind = 1 then A.ns.length + 2 else A.cap d) + (C.walk h).length + 2 ≤ 300000) (hsrc : Src C b bf A L) (o : Own w0 B (.arena b A :: L) w) (hkind : (C.get h).kind = 5) :
    Calls Tryz.prog 144 #[.pointer (some ⟨b, 0, none⟩), .int .i64 d, .pointer (some ⟨bf, 0, none⟩), .int .i64 h, .bool true] w fun e w' => e = .returned (.int .i64 (dupF C true (m + 1) A d h).1) ∧ Own w0 B (.arena b (dupF C true (m + 1) A d h).2 :: L) w' := by
  have h1 : (C.get h).kind ≠ 1 := by omega
  rw [if_neg h1] at hsz
  have hwp := walk_pos hC hh
  have hcg := Ar.cap_ge A d
  obtain ⟨C', hm, hCi, hCl, hCh, hCg⟩ := hsrc.at' hA hC (by omega) hCs hh
  have hcont : (C.get h).contents = 0 := hC.nocont h hh (.inr (fun q => by have := q.1; omega))
  obtain ⟨s1, s2, s3, s4⟩ := DupI.alone hA hC hd hk hh h1
  rw [if_neg (fun q => q hcont)] at s1
  have hkk := kids_copy hC hh hw
  have hkc : (C.get h).kids ≠ [] → ((A.alone d (C.get h)).2.get (A.n + 1)).kind = 1 ∨ ((A.alone d (C.get h)).2.get (A.n + 1)).kind = 2 ∨ ((A.alone d (C.get h)).2.get (A.n + 1)).kind = 4 := fun q => by rw [s4]; exact hC.kidk h hh q
  have hwl := walk_kids_len hC hh
  have hkl := Ar.kids_len hC.wf hh
  have hdup := dupF_eq C true m A d h
  have hmid : dupMid C true m (A.alone d (C.get h)) d h = (A.alone d (C.get h)).2 := by unfold dupMid; rw [if_neg (fun q => q.2.2 hcont)]
  rw [hmid, if_neg h1] at hdup
  generalize hnd : C.get h = nd at *
  have HN := Lib.hid (NodeKA_own (b := bf) (A := C') o hm (hCi.short (by omega)) hCh hCg)
  have hal : A.alone d nd = ((A.make d (textNd nd.data)).1.1, (A.make d (textNd nd.data)).2) := by unfold Ar.alone; simp [hkind]
  have HMK := Lib.hid (fun l' W (q : Own w0 B (.arena b A :: l') W) => q.call (fun ρ hA' => Text_any A ρ b d nd.data W hA' (by omega)))
  unfold pairV at HMK
  rw [hal] at s1 s2 s3 s4 hkc hdup
  generalize A.make d (textNd nd.data) = R at *
  obtain ⟨⟨c, er⟩, A2⟩ := R
  dsimp only at *
  rw [if_pos rfl] at hdup
  obtain ⟨st, yv, ya, t0, t1, t2, t3⟩ := copies_calls hC ih s1 (c := c) (by rw [s2]; exact no_new) (by rw [s2]; exact s3) nd.kids (by rw [s2]; exact hkc) hkk (by omega) hsrc
  have HFINST := Lib.hid t1
  have HCALL := Lib.hid t2
  have HPUT := Lib.hid t3
  have HF := Lib.hid hdup
  have hkl2 : (nd.kids.length : Int) ≤ 300000 := by omega
  have e1 : (nd.kind == 1) = false := by simp [hkind]
  have e2 : (nd.kind == 2) = false := by simp [hkind]
  have e3 : (nd.kind == 3) = false := by simp [hkind]
  have e5 : (nd.kind == 5) = true := by simp [hkind]
  have e6 : (nd.kind == 6) = false := by simp [hkind]
  have e4 : (nd.kind == 4) = false := by simp [hkind]
  clear hd hk hh hw hsz hsrc o hwp hcg hm hCi hCl hCh hCg hcont s1 s2 s3 s4 hkk hkc hwl hdup hmid hal hkind h1 hnd
  go_enter Tryz.func144, Tryz.ntmps144
  go_wp2_with fail
  refine HN.out.mono ?_
  rintro e w2 ⟨ka, kc, aa, ac, rfl, o2⟩
  clear HN
  have HT := Lib.hid (nodeBox_facts (w := w2) nd ka kc aa ac nd.kids.length nd.attrs.length)
  have o5 := o2.nodeBox nd (.slice ka nd.kids.length kc) (.slice aa nd.attrs.length ac)
  go_wp2_with ((with_reducible refine wpList_store_mid ?_ 46 (.tmp 11) (.tmp 26) ?_ w2.heap.size 0 (nd.cells (.slice ka nd.kids.length kc) (.slice aa nd.attrs.length ac)).toArray ?_ ?_ ?_ ?_ ?_ ?_); exact rfl; exact rfl; exact rfl; exact rfl; exact HT.out.1; exact sizeNode _ _ _; exact all_oneCell_toArray HT.out.2; clear HT; generalize hw5 : World.setCells _ _ _ _ = w5 at o5 ⊢; generalize hg5 : w2.heap.size = g5 at o5 ⊢; clear hw5 hg5; have q0 : w5.cell? ⟨g5, 0, none⟩ = some (.int .i64 nd.kind) := (cell_of_row w5 _ _ _ _ _ (o5.box (g := g5) (o := .cells (nd.cells (.slice ka nd.kids.length kc) (.slice aa nd.attrs.length ac)).toArray 46 (0, 0)) (by simp))).trans rfl; have f0 : w5.cell? ⟨g5, 7, none⟩ = some (.string nd.data) := (cell_of_row w5 _ _ _ _ _ (o5.box (g := g5) (o := .cells (nd.cells (.slice ka nd.kids.length kc) (.slice aa nd.attrs.length ac)).toArray 46 (0, 0)) (by simp))).trans rfl)
  have oM := o5.perm (by simpa using (List.perm_append_comm (l₁ := [Asrt.box g5 (.cells (nd.cells (.slice ka nd.kids.length kc) (.slice aa nd.attrs.length ac)).toArray 46 (0, 0)), .ints (.slice ka nd.kids.length kc) nd.kids, .atts (.slice aa nd.attrs.length ac) nd.attrs]) (l₂ := [Asrt.arena b A])).append_right L)
  have HM := Lib.hid (HMK.out _ _ oM)
  clear o5 oM HMK
  go_wp2_with fail
  refine HM.out.mono ?_
  rintro e w6 ⟨rfl, o6⟩
  clear HM q0 f0
  rw [← t0] at o6
  have q2 : w6.cell? ⟨g5, 2, none⟩ = some (.slice ka nd.kids.length kc) := (cell_of_row w6 _ _ _ _ _ (o6.box (g := g5) (o := .cells (nd.cells (.slice ka nd.kids.length kc) (.slice aa nd.attrs.length ac)).toArray 46 (0, 0)) (by simp))).trans rfl
  have HO6 := Lib.hid o6
  clear o6 t0 t1 t2 t3
  go_wp2
  go_loopw [134] (fun i wr => ∃ k : Nat, k ≤ nd.kids.length ∧ i = .int .i64 k ∧ Hid (Own w0 B (.arena b (st k) :: .box g5 (.cells (nd.cells (.slice ka nd.kids.length kc) (.slice aa nd.attrs.length ac)).toArray 46 (0, 0)) :: .ints (.slice ka nd.kids.length kc) nd.kids :: .atts (.slice aa nd.attrs.length ac) nd.attrs :: L) wr)) (fun i _ => nd.kids.length - (intOf i).toNat)
  case atStart => exact ⟨0, Nat.zero_le _, rfl, HO6⟩
  case round =>
    obtain ⟨k, hk, rfl, hT⟩ := hrel
    by_cases hlt : k < nd.kids.length
    · obtain ⟨x, hx⟩ : ∃ x, nd.kids[k]? = some x := ⟨_, List.getElem?_eq_getElem hlt⟩
      have hri : RInts wr (.slice ka nd.kids.length kc) nd.kids := hT.out.ints (by simp)
      obtain ⟨b1, o1, rfl, -, hcs⟩ := hri.cells (by omega)
      have c1 := hcs k x hx
      have HC := Lib.hid (HCALL.out k x hx w0 B _ wr (fun a ha => by simp [ha]) hT.out)
      have HP := Lib.hid (HPUT.out k x hx)
      clear hri hcs hx hT
      go_wp2_with fail
      refine HC.out.mono ?_
      rintro e w7 ⟨rfl, o7⟩
      have HP7 := Lib.hid (HP.out w0 B _ _ o7)
      clear o7 HC HP
      go_wp2_with fail
      refine HP7.out.mono ?_
      rintro e w8 ⟨⟨pv, rfl⟩, o8⟩
      have HO8 := Lib.hid o8
      clear o8 HP7 c1
      go_wp2
      go_roundw
      case rel => exact ⟨k + 1, hlt, by go_num, HO8⟩
      case measure => simp [intOf]; omega
    · have hkl : k = nd.kids.length := by omega
      have o9 := hT.out
      rw [hkl, HFINST.out] at o9
      have HO9 := Lib.hid o9
      clear o9 hT hkl
      go_wp2
      go_ret
      rw [HF.out]
      exact ⟨rfl, HO9.out.swap.drop.swap.drop.swap.drop⟩

set_option maxRecDepth 100000 in
set_option maxHeartbeats 2000000 in
theorem dup_5_false {C : Ar} (hC : C.Inv) (hCs : C.ns.length ≤ 300000) {b bf m : Nat} (ih : DupOK C b bf m) (A : Ar) (d h : Int) (L : List Asrt) (w0 w : World) (B : Nat) (hA : A.Inv) (hd : A.has d) (hk : (A.get d).kind = 1) (hh : C.has h) (hw : (C.walk h).length ≤ m + 1)
    (hsz : (if (C.get h).kind = 1 then A.ns.length + 2 else A.cap d) + (C.walk h).length + 2 ≤ 300000) (hsrc : Src C b bf A L) (o : Own w0 B (.arena b A :: L) w) (hkind : (C.get h).kind = 5) :
    Calls Tryz.prog 144 #[.pointer (some ⟨b, 0, none⟩), .int .i64 d, .pointer (some ⟨bf, 0, none⟩), .int .i64 h, .bool false] w fun e w' => e = .returned (.int .i64 (dupF C false (m + 1) A d h).1) ∧ Own w0 B (.arena b (dupF C false (m + 1) A d h).2 :: L) w' := by
  have h1 : (C.get h).kind ≠ 1 := by omega
  rw [if_neg h1] at hsz
  have hwp := walk_pos hC hh
  have hcg := Ar.cap_ge A d
  obtain ⟨C', hm, hCi, hCl, hCh, hCg⟩ := hsrc.at' hA hC (by omega) hCs hh
  have hcont : (C.get h).contents = 0 := hC.nocont h hh (.inr (fun q => by have := q.1; omega))
  obtain ⟨s1, s2, s3, s4⟩ := DupI.alone hA hC hd hk hh h1
  rw [if_neg (fun q => q hcont)] at s1
  have hkk := kids_copy hC hh hw
  have hkc : (C.get h).kids ≠ [] → ((A.alone d (C.get h)).2.get (A.n + 1)).kind = 1 ∨ ((A.alone d (C.get h)).2.get (A.n + 1)).kind = 2 ∨ ((A.alone d (C.get h)).2.get (A.n + 1)).kind = 4 := fun q => by rw [s4]; exact hC.kidk h hh q
  have hwl := walk_kids_len hC hh
  have hkl := Ar.kids_len hC.wf hh
  have hdup := dupF_eq C false m A d h
  have hmid : dupMid C false m (A.alone d (C.get h)) d h = (A.alone d (C.get h)).2 := by unfold dupMid; rw [if_neg (fun q => q.2.2 hcont)]
  rw [hmid, if_neg h1] at hdup
  generalize hnd : C.get h = nd at *
  have HN := Lib.hid (NodeKA_own (b := bf) (A := C') o hm (hCi.short (by omega)) hCh hCg)
  have hal : A.alone d nd = ((A.make d (textNd nd.data)).1.1, (A.make d (textNd nd.data)).2) := by unfold Ar.alone; simp [hkind]
  have HMK := Lib.hid (fun l' W (q : Own w0 B (.arena b A :: l') W) => q.call (fun ρ hA' => Text_any A ρ b d nd.data W hA' (by omega)))
  unfold pairV at HMK
  rw [hal] at s1 s2 s3 s4 hkc hdup
  generalize A.make d (textNd nd.data) = R at *
  obtain ⟨⟨c, er⟩, A2⟩ := R
  dsimp only at *
  rw [if_neg (by decide)] at hdup
  have HF := Lib.hid hdup
  have e1 : (nd.kind == 1) = false := by simp [hkind]
  have e2 : (nd.kind == 2) = false := by simp [hkind]
  have e3 : (nd.kind == 3) = false := by simp [hkind]
  have e5 : (nd.kind == 5) = true := by simp [hkind]
  have e6 : (nd.kind == 6) = false := by simp [hkind]
  have e4 : (nd.kind == 4) = false := by simp [hkind]
  clear hd hk hh hw hsz hsrc o hwp hcg hm hCi hCl hCh hCg hcont s1 s2 s3 s4 hkk hkc hwl hdup hmid hal hkind h1 hnd
  go_enter Tryz.func144, Tryz.ntmps144
  go_wp2_with fail
  refine HN.out.mono ?_
  rintro e w2 ⟨ka, kc, aa, ac, rfl, o2⟩
  clear HN
  have HT := Lib.hid (nodeBox_facts (w := w2) nd ka kc aa ac nd.kids.length nd.attrs.length)
  have o5 := o2.nodeBox nd (.slice ka nd.kids.length kc) (.slice aa nd.attrs.length ac)
  go_wp2_with ((with_reducible refine wpList_store_mid ?_ 46 (.tmp 11) (.tmp 26) ?_ w2.heap.size 0 (nd.cells (.slice ka nd.kids.length kc) (.slice aa nd.attrs.length ac)).toArray ?_ ?_ ?_ ?_ ?_ ?_); exact rfl; exact rfl; exact rfl; exact rfl; exact HT.out.1; exact sizeNode _ _ _; exact all_oneCell_toArray HT.out.2; clear HT; generalize hw5 : World.setCells _ _ _ _ = w5 at o5 ⊢; generalize hg5 : w2.heap.size = g5 at o5 ⊢; clear hw5 hg5; have q0 : w5.cell? ⟨g5, 0, none⟩ = some (.int .i64 nd.kind) := (cell_of_row w5 _ _ _ _ _ (o5.box (g := g5) (o := .cells (nd.cells (.slice ka nd.kids.length kc) (.slice aa nd.attrs.length ac)).toArray 46 (0, 0)) (by simp))).trans rfl; have f0 : w5.cell? ⟨g5, 7, none⟩ = some (.string nd.data) := (cell_of_row w5 _ _ _ _ _ (o5.box (g := g5) (o := .cells (nd.cells (.slice ka nd.kids.length kc) (.slice aa nd.attrs.length ac)).toArray 46 (0, 0)) (by simp))).trans rfl)
  have oM := o5.perm (by simpa using (List.perm_append_comm (l₁ := [Asrt.box g5 (.cells (nd.cells (.slice ka nd.kids.length kc) (.slice aa nd.attrs.length ac)).toArray 46 (0, 0)), .ints (.slice ka nd.kids.length kc) nd.kids, .atts (.slice aa nd.attrs.length ac) nd.attrs]) (l₂ := [Asrt.arena b A])).append_right L)
  have HM := Lib.hid (HMK.out _ _ oM)
  clear o5 oM HMK
  go_wp2_with fail
  refine HM.out.mono ?_
  rintro e w6 ⟨rfl, o6⟩
  clear HM q0 f0
  have HO6 := Lib.hid o6
  clear o6
  go_wp2
  go_ret
  rw [HF.out]
  exact ⟨rfl, HO6.out.swap.drop.swap.drop.swap.drop⟩

set_option maxRecDepth 100000 in
set_option maxHeartbeats 2000000 in
theorem dup_6_true {C : Ar} (hC : C.Inv) (hCs : C.ns.length ≤ 300000) {b bf m : Nat} (ih : DupOK C b bf m) (A : Ar) (d h : Int) (L : List Asrt) (w0 w : World) (B : Nat) (hA : A.Inv) (hd : A.has d) (hk : (A.get d).kind = 1) (hh : C.has h) (hw : (C.walk h).length ≤ m + 1)
    (hsz : (if (C.get h).kind = 1 then A.ns.length + 2 else A.cap d) + (C.walk h).length + 2 ≤ 300000) (hsrc : Src C b bf A L) (o : Own w0 B (.arena b A :: L) w) (hkind : (C.get h).kind = 6) :
    Calls Tryz.prog 144 #[.pointer (some ⟨b, 0, none⟩), .int .i64 d, .pointer (some ⟨bf, 0, none⟩), .int .i64 h, .bool true] w fun e w' => e = .returned (.int .i64 (dupF C true (m + 1) A d h).1) ∧ Own w0 B (.arena b (dupF C true (m + 1) A d h).2 :: L) w' := by
  have h1 : (C.get h).kind ≠ 1 := by omega
  rw [if_neg h1] at hsz
  have hwp := walk_pos hC hh
  have hcg := Ar.cap_ge A d
  obtain ⟨C', hm, hCi, hCl, hCh, hCg⟩ := hsrc.at' hA hC (by omega) hCs hh
  have hcont : (C.get h).contents = 0 := hC.nocont h hh (.inr (fun q => by have := q.1; omega))
  obtain ⟨s1, s2, s3, s4⟩ := DupI.alone hA hC hd hk hh h1
  rw [if_neg (fun q => q hcont)] at s1
  have hkk := kids_copy hC hh hw
  have hkc : (C.get h).kids ≠ [] → ((A.alone d (C.get h)).2.get (A.n + 1)).kind = 1 ∨ ((A.alone d (C.get h)).2.get (A.n + 1)).kind = 2 ∨ ((A.alone d (C.get h)).2.get (A.n + 1)).kind = 4 := fun q => by rw [s4]; exact hC.kidk h hh q
  have hwl := walk_kids_len hC hh
  have hkl := Ar.kids_len hC.wf hh
  have hdup := dupF_eq C true m A d h
  have hmid : dupMid C true m (A.alone d (C.get h)) d h = (A.alone d (C.get h)).2 := by unfold dupMid; rw [if_neg (fun q => q.2.2 hcont)]
  rw [hmid, if_neg h1] at hdup
  generalize hnd : C.get h = nd at *
  have HN := Lib.hid (NodeKA_own (b := bf) (A := C') o hm (hCi.short (by omega)) hCh hCg)
  have hal : A.alone d nd = ((A.make d (commentNd nd.data)).1.1, (A.make d (commentNd nd.data)).2) := by unfold Ar.alone; simp [hkind]
  have HMK := Lib.hid (fun l' W (q : Own w0 B (.arena b A :: l') W) => q.call (fun ρ hA' => Comment_any A ρ b d nd.data W hA' (by omega)))
  unfold pairV at HMK
  rw [hal] at s1 s2 s3 s4 hkc hdup
  generalize A.make d (commentNd nd.data) = R at *
  obtain ⟨⟨c, er⟩, A2⟩ := R
  dsimp only at *
  rw [if_pos rfl] at hdup
  obtain ⟨st, yv, ya, t0, t1, t2, t3⟩ := copies_calls hC ih s1 (c := c) (by rw [s2]; exact no_new) (by rw [s2]; exact s3) nd.kids (by rw [s2]; exact hkc) hkk (by omega) hsrc
  have HFINST := Lib.hid t1
  have HCALL := Lib.hid t2
  have HPUT := Lib.hid t3
  have HF := Lib.hid hdup
  have hkl2 : (nd.kids.length : Int) ≤ 300000 := by omega
  have e1 : (nd.kind == 1) = false := by simp [hkind]
  have e2 : (nd.kind == 2) = false := by simp [hkind]
  have e3 : (nd.kind == 3) = false := by simp [hkind]
  have e5 : (nd.kind == 5) = false := by simp [hkind]
  have e6 : (nd.kind == 6) = true := by simp [hkind]
  have e4 : (nd.kind == 4) = false := by simp [hkind]
  clear hd hk hh hw hsz hsrc o hwp hcg hm hCi hCl hCh hCg hcont s1 s2 s3 s4 hkk hkc hwl hdup hmid hal hkind h1 hnd
  go_enter Tryz.func144, Tryz.ntmps144
  go_wp2_with fail
  refine HN.out.mono ?_
  rintro e w2 ⟨ka, kc, aa, ac, rfl, o2⟩
  clear HN
  have HT := Lib.hid (nodeBox_facts (w := w2) nd ka kc aa ac nd.kids.length nd.attrs.length)
  have o5 := o2.nodeBox nd (.slice ka nd.kids.length kc) (.slice aa nd.attrs.length ac)
  go_wp2_with ((with_reducible refine wpList_store_mid ?_ 46 (.tmp 11) (.tmp 26) ?_ w2.heap.size 0 (nd.cells (.slice ka nd.kids.length kc) (.slice aa nd.attrs.length ac)).toArray ?_ ?_ ?_ ?_ ?_ ?_); exact rfl; exact rfl; exact rfl; exact rfl; exact HT.out.1; exact sizeNode _ _ _; exact all_oneCell_toArray HT.out.2; clear HT; generalize hw5 : World.setCells _ _ _ _ = w5 at o5 ⊢; generalize hg5 : w2.heap.size = g5 at o5 ⊢; clear hw5 hg5; have q0 : w5.cell? ⟨g5, 0, none⟩ = some (.int .i64 nd.kind) := (cell_of_row w5 _ _ _ _ _ (o5.box (g := g5) (o := .cells (nd.cells (.slice ka nd.kids.length kc) (.slice aa nd.attrs.length ac)).toArray 46 (0, 0)) (by simp))).trans rfl; have f0 : w5.cell? ⟨g5, 7, none⟩ = some (.string nd.data) := (cell_of_row w5 _ _ _ _ _ (o5.box (g := g5) (o := .cells (nd.cells (.slice ka nd.kids.length kc) (.slice aa nd.attrs.length ac)).toArray 46 (0, 0)) (by simp))).trans rfl)
  have oM := o5.perm (by simpa using (List.perm_append_comm (l₁ := [Asrt.box g5 (.cells (nd.cells (.slice ka nd.kids.length kc) (.slice aa nd.attrs.length ac)).toArray 46 (0, 0)), .ints (.slice ka nd.kids.length kc) nd.kids, .atts (.slice aa nd.attrs.length ac) nd.attrs]) (l₂ := [Asrt.arena b A])).append_right L)
  have HM := Lib.hid (HMK.out _ _ oM)
  clear o5 oM HMK
  go_wp2_with fail
  refine HM.out.mono ?_
  rintro e w6 ⟨rfl, o6⟩
  clear HM q0 f0
  rw [← t0] at o6
  have q2 : w6.cell? ⟨g5, 2, none⟩ = some (.slice ka nd.kids.length kc) := (cell_of_row w6 _ _ _ _ _ (o6.box (g := g5) (o := .cells (nd.cells (.slice ka nd.kids.length kc) (.slice aa nd.attrs.length ac)).toArray 46 (0, 0)) (by simp))).trans rfl
  have HO6 := Lib.hid o6
  clear o6 t0 t1 t2 t3
  go_wp2
  go_loopw [134] (fun i wr => ∃ k : Nat, k ≤ nd.kids.length ∧ i = .int .i64 k ∧ Hid (Own w0 B (.arena b (st k) :: .box g5 (.cells (nd.cells (.slice ka nd.kids.length kc) (.slice aa nd.attrs.length ac)).toArray 46 (0, 0)) :: .ints (.slice ka nd.kids.length kc) nd.kids :: .atts (.slice aa nd.attrs.length ac) nd.attrs :: L) wr)) (fun i _ => nd.kids.length - (intOf i).toNat)
  case atStart => exact ⟨0, Nat.zero_le _, rfl, HO6⟩
  case round =>
    obtain ⟨k, hk, rfl, hT⟩ := hrel
    by_cases hlt : k < nd.kids.length
    · obtain ⟨x, hx⟩ : ∃ x, nd.kids[k]? = some x := ⟨_, List.getElem?_eq_getElem hlt⟩
      have hri : RInts wr (.slice ka nd.kids.length kc) nd.kids := hT.out.ints (by simp)
      obtain ⟨b1, o1, rfl, -, hcs⟩ := hri.cells (by omega)
      have c1 := hcs k x hx
      have HC := Lib.hid (HCALL.out k x hx w0 B _ wr (fun a ha => by simp [ha]) hT.out)
      have HP := Lib.hid (HPUT.out k x hx)
      clear hri hcs hx hT
      go_wp2_with fail
      refine HC.out.mono ?_
      rintro e w7 ⟨rfl, o7⟩
      have HP7 := Lib.hid (HP.out w0 B _ _ o7)
      clear o7 HC HP
      go_wp2_with fail
      refine HP7.out.mono ?_
      rintro e w8 ⟨⟨pv, rfl⟩, o8⟩
      have HO8 := Lib.hid o8
      clear o8 HP7 c1
      go_wp2
      go_roundw
      case rel => exact ⟨k + 1, hlt, by go_num, HO8⟩
      case measure => simp [intOf]; omega
    · have hkl : k = nd.kids.length := by omega
      have o9 := hT.out
      rw [hkl, HFINST.out] at o9
      have HO9 := Lib.hid o9
      clear o9 hT hkl
      go_wp2
      go_ret
      rw [HF.out]
      exact ⟨rfl, HO9.out.swap.drop.swap.drop.swap.drop⟩

set_option maxRecDepth 100000 in
set_option maxHeartbeats 2000000 in
theorem dup_6_false {C : Ar} (hC : C.Inv) (hCs : C.ns.length ≤ 300000) {b bf m : Nat} (ih : DupOK C b bf m) (A : Ar) (d h : Int) (L : List Asrt) (w0 w : World) (B : Nat) (hA : A.Inv) (hd : A.has d) (hk : (A.get d).kind = 1) (hh : C.has h) (hw : (C.walk h).length ≤ m + 1)
    (hsz : (if (C.get h).kind = 1 then A.ns.length + 2 else A.cap d) + (C.walk h).length + 2 ≤ 300000) (hsrc : Src C b bf A L) (o : Own w0 B (.arena b A :: L) w) (hkind : (C.get h).kind = 6) :
    Calls Tryz.prog 144 #[.pointer (some ⟨b, 0, none⟩), .int .i64 d, .pointer (some ⟨bf, 0, none⟩), .int .i64 h, .bool false] w fun e w' => e = .returned (.int .i64 (dupF C false (m + 1) A d h).1) ∧ Own w0 B (.arena b (dupF C false (m + 1) A d h).2 :: L) w' := by
  have h1 : (C.get h).kind ≠ 1 := by omega
  rw [if_neg h1] at hsz
  have hwp := walk_pos hC hh
  have hcg := Ar.cap_ge A d
  obtain ⟨C', hm, hCi, hCl, hCh, hCg⟩ := hsrc.at' hA hC (by omega) hCs hh
  have hcont : (C.get h).contents = 0 := hC.nocont h hh (.inr (fun q => by have := q.1; omega))
  obtain ⟨s1, s2, s3, s4⟩ := DupI.alone hA hC hd hk hh h1
  rw [if_neg (fun q => q hcont)] at s1
  have hkk := kids_copy hC hh hw
  have hkc : (C.get h).kids ≠ [] → ((A.alone d (C.get h)).2.get (A.n + 1)).kind = 1 ∨ ((A.alone d (C.get h)).2.get (A.n + 1)).kind = 2 ∨ ((A.alone d (C.get h)).2.get (A.n + 1)).kind = 4 := fun q => by rw [s4]; exact hC.kidk h hh q
  have hwl := walk_kids_len hC hh
  have hkl := Ar.kids_len hC.wf hh
  have hdup := dupF_eq C false m A d h
  have hmid : dupMid C false m (A.alone d (C.get h)) d h = (A.alone d (C.get h)).2 := by unfold dupMid; rw [if_neg (fun q => q.2.2 hcont)]
  rw [hmid, if_neg h1] at hdup
  generalize hnd : C.get h = nd at *
  have HN := Lib.hid (NodeKA_own (b := bf) (A := C') o hm (hCi.short (by omega)) hCh hCg)
  have hal : A.alone d nd = ((A.make d (commentNd nd.data)).1.1, (A.make d (commentNd nd.data)).2) := by unfold Ar.alone; simp [hkind]
  have HMK := Lib.hid (fun l' W (q : Own w0 B (.arena b A :: l') W) => q.call (fun ρ hA' => Comment_any A ρ b d nd.data W hA' (by omega)))
  unfold pairV at HMK
  rw [hal] at s1 s2 s3 s4 hkc hdup
  generalize A.make d (commentNd nd.data) = R at *
  obtain ⟨⟨c, er⟩, A2⟩ := R
  dsimp only at *
  rw [if_neg (by decide)] at hdup
  have HF := Lib.hid hdup
  have e1 : (nd.kind == 1) = false := by simp [hkind]
  have e2 : (nd.kind == 2) = false := by simp [hkind]
  have e3 : (nd.kind == 3) = false := by simp [hkind]
  have e5 : (nd.kind == 5) = false := by simp [hkind]
  have e6 : (nd.kind == 6) = true := by simp [hkind]
  have e4 : (nd.kind == 4) = false := by simp [hkind]
  clear hd hk hh hw hsz hsrc o hwp hcg hm hCi hCl hCh hCg hcont s1 s2 s3 s4 hkk hkc hwl hdup hmid hal hkind h1 hnd
  go_enter Tryz.func144, Tryz.ntmps144
  go_wp2_with fail
  refine HN.out.mono ?_
  rintro e w2 ⟨ka, kc, aa, ac, rfl, o2⟩
  clear HN
  have HT := Lib.hid (nodeBox_facts (w := w2) nd ka kc aa ac nd.kids.length nd.attrs.length)
  have o5 := o2.nodeBox nd (.slice ka nd.kids.length kc) (.slice aa nd.attrs.length ac)
  go_wp2_with ((with_reducible refine wpList_store_mid ?_ 46 (.tmp 11) (.tmp 26) ?_ w2.heap.size 0 (nd.cells (.slice ka nd.kids.length kc) (.slice aa nd.attrs.length ac)).toArray ?_ ?_ ?_ ?_ ?_ ?_); exact rfl; exact rfl; exact rfl; exact rfl; exact HT.out.1; exact sizeNode _ _ _; exact all_oneCell_toArray HT.out.2; clear HT; generalize hw5 : World.setCells _ _ _ _ = w5 at o5 ⊢; generalize hg5 : w2.heap.size = g5 at o5 ⊢; clear hw5 hg5; have q0 : w5.cell? ⟨g5, 0, none⟩ = some (.int .i64 nd.kind) := (cell_of_row w5 _ _ _ _ _ (o5.box (g := g5) (o := .cells (nd.cells (.slice ka nd.kids.length kc) (.slice aa nd.attrs.length ac)).toArray 46 (0, 0)) (by simp))).trans rfl; have f0 : w5.cell? ⟨g5, 7, none⟩ = some (.string nd.data) := (cell_of_row w5 _ _ _ _ _ (o5.box (g := g5) (o := .cells (nd.cells (.slice ka nd.kids.length kc) (.slice aa nd.attrs.length ac)).toArray 46 (0, 0)) (by simp))).trans rfl)
  have oM := o5.perm (by simpa using (List.perm_append_comm (l₁ := [Asrt.box g5 (.cells (nd.cells (.slice ka nd.kids.length kc) (.slice aa nd.attrs.length ac)).toArray 46 (0, 0)), .ints (.slice ka nd.kids.length kc) nd.kids, .atts (.slice aa nd.attrs.length ac) nd.attrs]) (l₂ := [Asrt.arena b A])).append_right L)
  have HM := Lib.hid (HMK.out _ _ oM)
  clear o5 oM HMK
  go_wp2_with fail
  refine HM.out.mono ?_
  rintro e w6 ⟨rfl, o6⟩
  clear HM q0 f0
  have HO6 := Lib.hid o6
  clear o6
  go_wp2
  go_ret
  rw [HF.out]
  exact ⟨rfl, HO6.out.swap.drop.swap.drop.swap.drop⟩

set_option maxRecDepth 100000 in
set_option maxHeartbeats 2000000 in
theorem dup_1_true {C : Ar} (hC : C.Inv) (hCs : C.ns.length ≤ 300000) {b bf m : Nat} (ih : DupOK C b bf m) (A : Ar) (d h : Int) (L : List Asrt) (w0 w : World) (B : Nat) (hA : A.Inv) (hd : A.has d) (hk : (A.get d).kind = 1) (hh : C.has h) (hw : (C.walk h).length ≤ m + 1)
    (hsz : (if (C.get h).kind = 1 then A.ns.length + 2 else A.cap d) + (C.walk h).length + 2 ≤ 300000) (hsrc : Src C b bf A L) (o : Own w0 B (.arena b A :: L) w) (hkind : (C.get h).kind = 1) :
    Calls Tryz.prog 144 #[.pointer (some ⟨b, 0, none⟩), .int .i64 d, .pointer (some ⟨bf, 0, none⟩), .int .i64 h, .bool true] w fun e w' => e = .returned (.int .i64 (dupF C true (m + 1) A d h).1) ∧ Own w0 B (.arena b (dupF C true (m + 1) A d h).2 :: L) w' := by
  rw [if_pos hkind] at hsz
  obtain ⟨C', hm, hCi, hCl, hCh, hCg⟩ := hsrc.at' hA hC (by omega) hCs hh
  have hcont : (C.get h).contents = 0 := hC.nocont h hh (.inr (fun q => by have := q.1; omega))
  obtain ⟨s1, s3, s4⟩ := DupI.document hA (C.get h).quirks
  have hkk := kids_copy hC hh hw
  have hwl := walk_kids_len hC hh
  have hkl := Ar.kids_len hC.wf hh
  have hdup := dupF_eq C true m A d h
  have hal : A.alone d (C.get h) = (A.n + 1, A.document (C.get h).quirks) := by unfold Ar.alone; rw [if_pos hkind]
  have hmid : dupMid C true m (A.alone d (C.get h)) d h = (A.alone d (C.get h)).2 := by unfold dupMid; rw [if_neg (fun q => q.2.2 hcont)]
  rw [hmid, if_pos hkind, hal] at hdup
  generalize hnd : C.get h = nd at *
  have HN := Lib.hid (NodeKA_own (b := bf) (A := C') o hm (hCi.short (by omega)) hCh hCg)
  have HMK := Lib.hid (fun l' W (q : Own w0 B (.arena b A :: l') W) => q.call (fun ρ hA' => Document_any A ρ b nd.quirks W hA' (by omega)))
  have hnn : ¬ A.has (A.n + 1) := no_new
  generalize A.document nd.quirks = A2 at *
  generalize A.n + 1 = c at *
  dsimp only at hdup
  rw [if_pos rfl] at hdup
  obtain ⟨st, yv, ya, t0, t1, t2, t3⟩ := copies_calls hC ih s1 (c := c) hnn s3 nd.kids (fun _ => .inl s4) hkk (by omega) hsrc
  have HFINST := Lib.hid t1
  have HCALL := Lib.hid t2
  have HPUT := Lib.hid t3
  have HF := Lib.hid hdup
  have hkl2 : (nd.kids.length : Int) ≤ 300000 := by omega
  have e1 : (nd.kind == 1) = true := by simp [hkind]
  have e2 : (nd.kind == 2) = false := by simp [hkind]
  have e3 : (nd.kind == 3) = false := by simp [hkind]
  have e5 : (nd.kind == 5) = false := by simp [hkind]
  have e6 : (nd.kind == 6) = false := by simp [hkind]
  have e4 : (nd.kind == 4) = false := by simp [hkind]
  clear hd hk hh hw hsz hsrc o hm hCi hCl hCh hCg hcont s1 s3 s4 hkk hwl hdup hmid hal hkind hnd hnn
  go_enter Tryz.func144, Tryz.ntmps144
  go_wp2_with fail
  refine HN.out.mono ?_
  rintro e w2 ⟨ka, kc, aa, ac, rfl, o2⟩
  clear HN
  have HT := Lib.hid (nodeBox_facts (w := w2) nd ka kc aa ac nd.kids.length nd.attrs.length)
  have o5 := o2.nodeBox nd (.slice ka nd.kids.length kc) (.slice aa nd.attrs.length ac)
  go_wp2_with ((with_reducible refine wpList_store_mid ?_ 46 (.tmp 11) (.tmp 26) ?_ w2.heap.size 0 (nd.cells (.slice ka nd.kids.length kc) (.slice aa nd.attrs.length ac)).toArray ?_ ?_ ?_ ?_ ?_ ?_); exact rfl; exact rfl; exact rfl; exact rfl; exact HT.out.1; exact sizeNode _ _ _; exact all_oneCell_toArray HT.out.2; clear HT; generalize hw5 : World.setCells _ _ _ _ = w5 at o5 ⊢; generalize hg5 : w2.heap.size = g5 at o5 ⊢; clear hw5 hg5; have q0 : w5.cell? ⟨g5, 0, none⟩ = some (.int .i64 nd.kind) := (cell_of_row w5 _ _ _ _ _ (o5.box (g := g5) (o := .cells (nd.cells (.slice ka nd.kids.length kc) (.slice aa nd.attrs.length ac)).toArray 46 (0, 0)) (by simp))).trans rfl; have f0 : w5.cell? ⟨g5, 10, none⟩ = some (.bool nd.quirks) := (cell_of_row w5 _ _ _ _ _ (o5.box (g := g5) (o := .cells (nd.cells (.slice ka nd.kids.length kc) (.slice aa nd.attrs.length ac)).toArray 46 (0, 0)) (by simp))).trans rfl)
  have oM := o5.perm (by simpa using (List.perm_append_comm (l₁ := [Asrt.box g5 (.cells (nd.cells (.slice ka nd.kids.length kc) (.slice aa nd.attrs.length ac)).toArray 46 (0, 0)), .ints (.slice ka nd.kids.length kc) nd.kids, .atts (.slice aa nd.attrs.length ac) nd.attrs]) (l₂ := [Asrt.arena b A])).append_right L)
  have HM := Lib.hid (HMK.out _ _ oM)
  clear o5 oM HMK
  go_wp2_with fail
  refine HM.out.mono ?_
  rintro e w6 ⟨rfl, o6⟩
  clear HM q0 f0
  rw [← t0] at o6
  have q2 : w6.cell? ⟨g5, 2, none⟩ = some (.slice ka nd.kids.length kc) := (cell_of_row w6 _ _ _ _ _ (o6.box (g := g5) (o := .cells (nd.cells (.slice ka nd.kids.length kc) (.slice aa nd.attrs.length ac)).toArray 46 (0, 0)) (by simp))).trans rfl
  have HO6 := Lib.hid o6
  clear o6 t0 t1 t2 t3
  go_wp2
  go_loopw [134] (fun i wr => ∃ k : Nat, k ≤ nd.kids.length ∧ i = .int .i64 k ∧ Hid (Own w0 B (.arena b (st k) :: .box g5 (.cells (nd.cells (.slice ka nd.kids.length kc) (.slice aa nd.attrs.length ac)).toArray 46 (0, 0)) :: .ints (.slice ka nd.kids.length kc) nd.kids :: .atts (.slice aa nd.attrs.length ac) nd.attrs :: L) wr)) (fun i _ => nd.kids.length - (intOf i).toNat)
  case atStart => exact ⟨0, Nat.zero_le _, rfl, HO6⟩
  case round =>
    obtain ⟨k, hk, rfl, hT⟩ := hrel
    by_cases hlt : k < nd.kids.length
    · obtain ⟨x, hx⟩ : ∃ x, nd.kids[k]? = some x := ⟨_, List.getElem?_eq_getElem hlt⟩
      have hri : RInts wr (.slice ka nd.kids.length kc) nd.kids := hT.out.ints (by simp)
      obtain ⟨b1, o1, rfl, -, hcs⟩ := hri.cells (by omega)
      have c1 := hcs k x hx
      have HC := Lib.hid (HCALL.out k x hx w0 B _ wr (fun a ha => by simp [ha]) hT.out)
      have HP := Lib.hid (HPUT.out k x hx)
      clear hri hcs hx hT
      go_wp2_with fail
      refine HC.out.mono ?_
      rintro e w7 ⟨rfl, o7⟩
      have HP7 := Lib.hid (HP.out w0 B _ _ o7)
      clear o7 HC HP
      go_wp2_with fail
      refine HP7.out.mono ?_
      rintro e w8 ⟨⟨pv, rfl⟩, o8⟩
      have HO8 := Lib.hid o8
      clear o8 HP7 c1
      go_wp2
      go_roundw
      case rel => exact ⟨k + 1, hlt, by go_num, HO8⟩
      case measure => simp [intOf]; omega
    · have hkl : k = nd.kids.length := by omega
      have o9 := hT.out
      rw [hkl, HFINST.out] at o9
      have HO9 := Lib.hid o9
      clear o9 hT hkl
      go_wp2
      go_ret
      rw [HF.out]
      exact ⟨rfl, HO9.out.swap.drop.swap.drop.swap.drop⟩

set_option maxRecDepth 100000 in
set_option maxHeartbeats 2000000 in
theorem dup_1_false {C : Ar} (hC : C.Inv) (hCs : C.ns.length ≤ 300000) {b bf m : Nat} (ih : DupOK C b bf m) (A : Ar) (d h : Int) (L : List Asrt) (w0 w : World) (B : Nat) (hA : A.Inv) (hd : A.has d) (hk : (A.get d).kind = 1) (hh : C.has h) (hw : (C.walk h).length ≤ m + 1)
    (hsz : (if (C.get h).kind = 1 then A.ns.length + 2 else A.cap d) + (C.walk h).length + 2 ≤ 300000) (hsrc : Src C b bf A L) (o : Own w0 B (.arena b A :: L) w) (hkind : (C.get h).kind = 1) :
    Calls Tryz.prog 144 #[.pointer (some ⟨b, 0, none⟩), .int .i64 d, .pointer (some ⟨bf, 0, none⟩), .int .i64 h, .bool false] w fun e w' => e = .returned (.int .i64 (dupF C false (m + 1) A d h).1) ∧ Own w0 B (.arena b (dupF C false (m + 1) A d h).2 :: L) w' := by
  rw [if_pos hkind] at hsz
  obtain ⟨C', hm, hCi, hCl, hCh, hCg⟩ := hsrc.at' hA hC (by omega) hCs hh
  have hcont : (C.get h).contents = 0 := hC.nocont h hh (.inr (fun q => by have := q.1; omega))
  obtain ⟨s1, s3, s4⟩ := DupI.document hA (C.get h).quirks
  have hkk := kids_copy hC hh hw
  have hwl := walk_kids_len hC hh
  have hkl := Ar.kids_len hC.wf hh
  have hdup := dupF_eq C false m A d h
  have hal : A.alone d (C.get h) = (A.n + 1, A.document (C.get h).quirks) := by unfold Ar.alone; rw [if_pos hkind]
  have hmid : dupMid C false m (A.alone d (C.get h)) d h = (A.alone d (C.get h)).2 := by unfold dupMid; rw [if_neg (fun q => q.2.2 hcont)]
  rw [hmid, if_pos hkind, hal] at hdup
  generalize hnd : C.get h = nd at *
  have HN := Lib.hid (NodeKA_own (b := bf) (A := C') o hm (hCi.short (by omega)) hCh hCg)
  have HMK := Lib.hid (fun l' W (q : Own w0 B (.arena b A :: l') W) => q.call (fun ρ hA' => Document_any A ρ b nd.quirks W hA' (by omega)))
  have hnn : ¬ A.has (A.n + 1) := no_new
  generalize A.document nd.quirks = A2 at *
  generalize A.n + 1 = c at *
  dsimp only at hdup
  rw [if_neg (by decide)] at hdup
  have HF := Lib.hid hdup
  have e1 : (nd.kind == 1) = true := by simp [hkind]
  have e2 : (nd.kind == 2) = false := by simp [hkind]
  have e3 : (nd.kind == 3) = false := by simp [hkind]
  have e5 : (nd.kind == 5) = false := by simp [hkind]
  have e6 : (nd.kind == 6) = false := by simp [hkind]
  have e4 : (nd.kind == 4) = false := by simp [hkind]
  clear hd hk hh hw hsz hsrc o hm hCi hCl hCh hCg hcont s1 s3 s4 hkk hwl hdup hmid hal hkind hnd hnn
  go_enter Tryz.func144, Tryz.ntmps144
  go_wp2_with fail
  refine HN.out.mono ?_
  rintro e w2 ⟨ka, kc, aa, ac, rfl, o2⟩
  clear HN
  have HT := Lib.hid (nodeBox_facts (w := w2) nd ka kc aa ac nd.kids.length nd.attrs.length)
  have o5 := o2.nodeBox nd (.slice ka nd.kids.length kc) (.slice aa nd.attrs.length ac)
  go_wp2_with ((with_reducible refine wpList_store_mid ?_ 46 (.tmp 11) (.tmp 26) ?_ w2.heap.size 0 (nd.cells (.slice ka nd.kids.length kc) (.slice aa nd.attrs.length ac)).toArray ?_ ?_ ?_ ?_ ?_ ?_); exact rfl; exact rfl; exact rfl; exact rfl; exact HT.out.1; exact sizeNode _ _ _; exact all_oneCell_toArray HT.out.2; clear HT; generalize hw5 : World.setCells _ _ _ _ = w5 at o5 ⊢; generalize hg5 : w2.heap.size = g5 at o5 ⊢; clear hw5 hg5; have q0 : w5.cell? ⟨g5, 0, none⟩ = some (.int .i64 nd.kind) := (cell_of_row w5 _ _ _ _ _ (o5.box (g := g5) (o := .cells (nd.cells (.slice ka nd.kids.length kc) (.slice aa nd.attrs.length ac)).toArray 46 (0, 0)) (by simp))).trans rfl; have f0 : w5.cell? ⟨g5, 10, none⟩ = some (.bool nd.quirks) := (cell_of_row w5 _ _ _ _ _ (o5.box (g := g5) (o := .cells (nd.cells (.slice ka nd.kids.length kc) (.slice aa nd.attrs.length ac)).toArray 46 (0, 0)) (by simp))).trans rfl)
  have oM := o5.perm (by simpa using (List.perm_append_comm (l₁ := [Asrt.box g5 (.cells (nd.cells (.slice ka nd.kids.length kc) (.slice aa nd.attrs.length ac)).toArray 46 (0, 0)), .ints (.slice ka nd.kids.length kc) nd.kids, .atts (.slice aa nd.attrs.length ac) nd.attrs]) (l₂ := [Asrt.arena b A])).append_right L)
  have HM := Lib.hid (HMK.out _ _ oM)
  clear o5 oM HMK
  go_wp2_with fail
  refine HM.out.mono ?_
  rintro e w6 ⟨rfl, o6⟩
  clear HM q0 f0
  have HO6 := Lib.hid o6
  clear o6
  go_wp2
  go_ret
  rw [HF.out]
  exact ⟨rfl, HO6.out.swap.drop.swap.drop.swap.drop⟩

set_option maxRecDepth 100000 in
set_option maxHeartbeats 4000000 in
theorem dup_4_false {C : Ar} (hC : C.Inv) (hCs : C.ns.length ≤ 300000) {b bf m : Nat} (ih : DupOK C b bf m) (A : Ar) (d h : Int) (L : List Asrt) (w0 w : World) (B : Nat) (hA : A.Inv) (hd : A.has d) (hk : (A.get d).kind = 1) (hh : C.has h) (hw : (C.walk h).length ≤ m + 1)
    (hsz : (if (C.get h).kind = 1 then A.ns.length + 2 else A.cap d) + (C.walk h).length + 2 ≤ 300000) (hsrc : Src C b bf A L) (o : Own w0 B (.arena b A :: L) w) (hkind : (C.get h).kind = 4) :
    Calls Tryz.prog 144 #[.pointer (some ⟨b, 0, none⟩), .int .i64 d, .pointer (some ⟨bf, 0, none⟩), .int .i64 h, .bool false] w fun e w' => e = .returned (.int .i64 (dupF C false (m + 1) A d h).1) ∧ Own w0 B (.arena b (dupF C false (m + 1) A d h).2 :: L) w' := by
  have h1 : (C.get h).kind ≠ 1 := by omega
  rw [if_neg h1] at hsz
  have hwp := walk_pos hC hh
  have hcg := Ar.cap_ge A d
  obtain ⟨C', hm, hCi, hCl, hCh, hCg⟩ := hsrc.at' hA hC (by omega) hCs hh
  obtain ⟨s1, s2, s3, s4⟩ := DupI.alone hA hC hd hk hh h1
  have hdup := dupF_eq C false m A d h
  have hmid : dupMid C false m (A.alone d (C.get h)) d h = (A.alone d (C.get h)).2 := by unfold dupMid; rw [if_neg (fun q => absurd q.2.1 (by decide))]
  rw [hmid, if_neg (by decide)] at hdup
  generalize hnd : C.get h = nd at *
  have HN := Lib.hid (NodeKA_own (b := bf) (A := C') o hm (hCi.short (by omega)) hCh hCg)
  have hal : A.alone d nd = ((A.element d nd.space nd.name nd.attrs).1.1, (A.element d nd.space nd.name nd.attrs).2) := by unfold Ar.alone; simp [hkind]
  have hat3 : nd.attrs.length ≤ 1000 := by rw [← hnd]; exact (hC.loc h hh).at3
  have HMK := Lib.hid (fun v l' W (hm : Asrt.atts v nd.attrs ∈ l') (q : Own w0 B (.arena b A :: l') W) => q.call (fun ρ hA' => Element_any A ρ b d nd.space nd.name v nd.attrs W hA' (q.atts (by simp [hm])) (by omega) (by omega)))
  unfold pairV at HMK
  rw [hal] at s1 s2 s3 s4 hdup
  generalize A.element d nd.space nd.name nd.attrs = R at *
  obtain ⟨⟨c, er⟩, A2⟩ := R
  dsimp only at *
  have HF := Lib.hid hdup
  have e1 : (nd.kind == 1) = false := by simp [hkind]
  have e2 : (nd.kind == 2) = false := by simp [hkind]
  have e3 : (nd.kind == 3) = false := by simp [hkind]
  have e5 : (nd.kind == 5) = false := by simp [hkind]
  have e6 : (nd.kind == 6) = false := by simp [hkind]
  have e4 : (nd.kind == 4) = true := by simp [hkind]
  clear hd hk hh hw hsz hsrc o hwp hcg hm hCi hCl hCh hCg s1 s2 s3 s4 hal hkind h1 hnd hat3 hdup hmid
  go_enter Tryz.func144, Tryz.ntmps144
  go_wp2_with fail
  refine HN.out.mono ?_
  rintro e w2 ⟨ka, kc, aa, ac, rfl, o2⟩
  clear HN
  have HT := Lib.hid (nodeBox_facts (w := w2) nd ka kc aa ac nd.kids.length nd.attrs.length)
  have o5 := o2.nodeBox nd (.slice ka nd.kids.length kc) (.slice aa nd.attrs.length ac)
  go_wp2_with ((with_reducible refine wpList_store_mid ?_ 46 (.tmp 11) (.tmp 26) ?_ w2.heap.size 0 (nd.cells (.slice ka nd.kids.length kc) (.slice aa nd.attrs.length ac)).toArray ?_ ?_ ?_ ?_ ?_ ?_); exact rfl; exact rfl; exact rfl; exact rfl; exact HT.out.1; exact sizeNode _ _ _; exact all_oneCell_toArray HT.out.2; clear HT; generalize hw5 : World.setCells _ _ _ _ = w5 at o5 ⊢; generalize hg5 : w2.heap.size = g5 at o5 ⊢; clear hw5 hg5; have q0 : w5.cell? ⟨g5, 0, none⟩ = some (.int .i64 nd.kind) := (cell_of_row w5 _ _ _ _ _ (o5.box (g := g5) (o := .cells (nd.cells (.slice ka nd.kids.length kc) (.slice aa nd.attrs.length ac)).toArray 46 (0, 0)) (by simp))).trans rfl; have f0 : w5.cell? ⟨g5, 4, none⟩ = some (.int .i64 nd.space) := (cell_of_row w5 _ _ _ _ _ (o5.box (g := g5) (o := .cells (nd.cells (.slice ka nd.kids.length kc) (.slice aa nd.attrs.length ac)).toArray 46 (0, 0)) (by simp))).trans rfl; have f1 : w5.cell? ⟨g5, 5, none⟩ = some (.string nd.name) := (cell_of_row w5 _ _ _ _ _ (o5.box (g := g5) (o := .cells (nd.cells (.slice ka nd.kids.length kc) (.slice aa nd.attrs.length ac)).toArray 46 (0, 0)) (by simp))).trans rfl; have f2 : w5.cell? ⟨g5, 6, none⟩ = some (.slice aa nd.attrs.length ac) := (cell_of_row w5 _ _ _ _ _ (o5.box (g := g5) (o := .cells (nd.cells (.slice ka nd.kids.length kc) (.slice aa nd.attrs.length ac)).toArray 46 (0, 0)) (by simp))).trans rfl)
  have oM := o5.perm (by simpa using (List.perm_append_comm (l₁ := [Asrt.box g5 (.cells (nd.cells (.slice ka nd.kids.length kc) (.slice aa nd.attrs.length ac)).toArray 46 (0, 0)), .ints (.slice ka nd.kids.length kc) nd.kids, .atts (.slice aa nd.attrs.length ac) nd.attrs]) (l₂ := [Asrt.arena b A])).append_right L)
  have HM := Lib.hid (HMK.out (.slice aa nd.attrs.length ac) _ _ (by simp) oM)
  clear o5 oM HMK
  go_wp2_with fail
  refine HM.out.mono ?_
  rintro e w6 ⟨rfl, o6⟩
  clear HM q0 f0 f1 f2
  have HO6 := Lib.hid o6
  clear o6
  go_wp2
  go_ret
  rw [HF.out]
  exact ⟨rfl, HO6.out.swap.drop.swap.drop.swap.drop⟩

set_option maxRecDepth 100000 in
set_option maxHeartbeats 4000000 in
theorem dup_4_plain {C : Ar} (hC : C.Inv) (hCs : C.ns.length ≤ 300000) {b bf m : Nat} (ih : DupOK C b bf m) (A : Ar) (d h : Int) (L : List Asrt) (w0 w : World) (B : Nat) (hA : A.Inv) (hd : A.has d) (hk : (A.get d).kind = 1) (hh : C.has h) (hw : (C.walk h).length ≤ m + 1)
    (hsz : (if (C.get h).kind = 1 then A.ns.length + 2 else A.cap d) + (C.walk h).length + 2 ≤ 300000) (hsrc : Src C b bf A L) (o : Own w0 B (.arena b A :: L) w) (hkind : (C.get h).kind = 4) (hcont : (C.get h).contents = 0) :
    Calls Tryz.prog 144 #[.pointer (some ⟨b, 0, none⟩), .int .i64 d, .pointer (some ⟨bf, 0, none⟩), .int .i64 h, .bool true] w fun e w' => e = .returned (.int .i64 (dupF C true (m + 1) A d h).1) ∧ Own w0 B (.arena b (dupF C true (m + 1) A d h).2 :: L) w' := by
  have h1 : (C.get h).kind ≠ 1 := by omega
  rw [if_neg h1] at hsz
  have hwp := walk_pos hC hh
  have hcg := Ar.cap_ge A d
  obtain ⟨C', hm, hCi, hCl, hCh, hCg⟩ := hsrc.at' hA hC (by omega) hCs hh
  obtain ⟨s1, s2, s3, s4⟩ := DupI.alone hA hC hd hk hh h1
  rw [if_neg (fun q => q hcont)] at s1
  have hkk := kids_copy hC hh hw
  have hwl := walk_kids_len hC hh
  have hkl := Ar.kids_len hC.wf hh
  have hdup := dupF_eq C true m A d h
  have hmid : dupMid C true m (A.alone d (C.get h)) d h = (A.alone d (C.get h)).2 := by unfold dupMid; rw [if_neg (fun q => q.2.2 hcont)]
  rw [hmid, if_neg h1, if_pos rfl] at hdup
  generalize hnd : C.get h = nd at *
  have HN := Lib.hid (NodeKA_own (b := bf) (A := C') o hm (hCi.short (by omega)) hCh hCg)
  have hal : A.alone d nd = ((A.element d nd.space nd.name nd.attrs).1.1, (A.element d nd.space nd.name nd.attrs).2) := by unfold Ar.alone; simp [hkind]
  have hat3 : nd.attrs.length ≤ 1000 := by rw [← hnd]; exact (hC.loc h hh).at3
  have HMK := Lib.hid (fun v l' W (hm : Asrt.atts v nd.attrs ∈ l') (q : Own w0 B (.arena b A :: l') W) => q.call (fun ρ hA' => Element_any A ρ b d nd.space nd.name v nd.attrs W hA' (q.atts (by simp [hm])) (by omega) (by omega)))
  unfold pairV at HMK
  rw [hal] at s1 s2 s3 s4 hdup
  generalize A.element d nd.space nd.name nd.attrs = R at *
  obtain ⟨⟨c, er⟩, A2⟩ := R
  dsimp only at *
  obtain ⟨st, yv, ya, t0, t1, t2, t3⟩ := copies_calls hC ih s1 (c := c) (by rw [s2]; exact no_new) (by rw [s2]; exact s3) nd.kids (fun _ => .inr (.inr (by rw [s2, s4]; exact hkind))) hkk (by omega) hsrc
  have HFINST := Lib.hid t1
  have HCALL := Lib.hid t2
  have HPUT := Lib.hid t3
  have HF := Lib.hid hdup
  have hkl2 : (nd.kids.length : Int) ≤ 300000 := by omega
  have ec : (nd.contents != 0) = false := by simp [hcont]
  have e1 : (nd.kind == 1) = false := by simp [hkind]
  have e2 : (nd.kind == 2) = false := by simp [hkind]
  have e3 : (nd.kind == 3) = false := by simp [hkind]
  have e5 : (nd.kind == 5) = false := by simp [hkind]
  have e6 : (nd.kind == 6) = false := by simp [hkind]
  have e4 : (nd.kind == 4) = true := by simp [hkind]
  clear hd hk hh hw hsz hsrc o hwp hcg hm hCi hCl hCh hCg s1 s2 s3 s4 hal hkind h1 hnd hat3 hdup hmid hkk hwl hcont
  go_enter Tryz.func144, Tryz.ntmps144
  go_wp2_with fail
  refine HN.out.mono ?_
  rintro e w2 ⟨ka, kc, aa, ac, rfl, o2⟩
  clear HN
  have HT := Lib.hid (nodeBox_facts (w := w2) nd ka kc aa ac nd.kids.length nd.attrs.length)
  have o5 := o2.nodeBox nd (.slice ka nd.kids.length kc) (.slice aa nd.attrs.length ac)
  go_wp2_with ((with_reducible refine wpList_store_mid ?_ 46 (.tmp 11) (.tmp 26) ?_ w2.heap.size 0 (nd.cells (.slice ka nd.kids.length kc) (.slice aa nd.attrs.length ac)).toArray ?_ ?_ ?_ ?_ ?_ ?_); exact rfl; exact rfl; exact rfl; exact rfl; exact HT.out.1; exact sizeNode _ _ _; exact all_oneCell_toArray HT.out.2; clear HT; generalize hw5 : World.setCells _ _ _ _ = w5 at o5 ⊢; generalize hg5 : w2.heap.size = g5 at o5 ⊢; clear hw5 hg5; have q0 : w5.cell? ⟨g5, 0, none⟩ = some (.int .i64 nd.kind) := (cell_of_row w5 _ _ _ _ _ (o5.box (g := g5) (o := .cells (nd.cells (.slice ka nd.kids.length kc) (.slice aa nd.attrs.length ac)).toArray 46 (0, 0)) (by simp))).trans rfl; have f0 : w5.cell? ⟨g5, 4, none⟩ = some (.int .i64 nd.space) := (cell_of_row w5 _ _ _ _ _ (o5.box (g := g5) (o := .cells (nd.cells (.slice ka nd.kids.length kc) (.slice aa nd.attrs.length ac)).toArray 46 (0, 0)) (by simp))).trans rfl; have f1 : w5.cell? ⟨g5, 5, none⟩ = some (.string nd.name) := (cell_of_row w5 _ _ _ _ _ (o5.box (g := g5) (o := .cells (nd.cells (.slice ka nd.kids.length kc) (.slice aa nd.attrs.length ac)).toArray 46 (0, 0)) (by simp))).trans rfl; have f2 : w5.cell? ⟨g5, 6, none⟩ = some (.slice aa nd.attrs.length ac) := (cell_of_row w5 _ _ _ _ _ (o5.box (g := g5) (o := .cells (nd.cells (.slice ka nd.kids.length kc) (.slice aa nd.attrs.length ac)).toArray 46 (0, 0)) (by simp))).trans rfl)
  have oM := o5.perm (by simpa using (List.perm_append_comm (l₁ := [Asrt.box g5 (.cells (nd.cells (.slice ka nd.kids.length kc) (.slice aa nd.attrs.length ac)).toArray 46 (0, 0)), .ints (.slice ka nd.kids.length kc) nd.kids, .atts (.slice aa nd.attrs.length ac) nd.attrs]) (l₂ := [Asrt.arena b A])).append_right L)
  have HM := Lib.hid (HMK.out (.slice aa nd.attrs.length ac) _ _ (by simp) oM)
  clear o5 oM HMK
  go_wp2_with fail
  refine HM.out.mono ?_
  rintro e w6 ⟨rfl, o6⟩
  clear HM q0 f0 f1 f2
  rw [← t0] at o6
  have q2 : w6.cell? ⟨g5, 2, none⟩ = some (.slice ka nd.kids.length kc) := (cell_of_row w6 _ _ _ _ _ (o6.box (g := g5) (o := .cells (nd.cells (.slice ka nd.kids.length kc) (.slice aa nd.attrs.length ac)).toArray 46 (0, 0)) (by simp))).trans rfl
  have q11 : w6.cell? ⟨g5, 11, none⟩ = some (.int .i64 nd.contents) := (cell_of_row w6 _ _ _ _ _ (o6.box (g := g5) (o := .cells (nd.cells (.slice ka nd.kids.length kc) (.slice aa nd.attrs.length ac)).toArray 46 (0, 0)) (by simp))).trans rfl
  have HO6 := Lib.hid o6
  clear o6 t0 t1 t2 t3
  go_wp2
  go_loopw [134] (fun i wr => ∃ k : Nat, k ≤ nd.kids.length ∧ i = .int .i64 k ∧ Hid (Own w0 B (.arena b (st k) :: .box g5 (.cells (nd.cells (.slice ka nd.kids.length kc) (.slice aa nd.attrs.length ac)).toArray 46 (0, 0)) :: .ints (.slice ka nd.kids.length kc) nd.kids :: .atts (.slice aa nd.attrs.length ac) nd.attrs :: L) wr)) (fun i _ => nd.kids.length - (intOf i).toNat)
  case atStart => exact ⟨0, Nat.zero_le _, rfl, HO6⟩
  case round =>
    obtain ⟨k, hk, rfl, hT⟩ := hrel
    by_cases hlt : k < nd.kids.length
    · obtain ⟨x, hx⟩ : ∃ x, nd.kids[k]? = some x := ⟨_, List.getElem?_eq_getElem hlt⟩
      have hri : RInts wr (.slice ka nd.kids.length kc) nd.kids := hT.out.ints (by simp)
      obtain ⟨b1, o1, rfl, -, hcs⟩ := hri.cells (by omega)
      have c1 := hcs k x hx
      have HC := Lib.hid (HCALL.out k x hx w0 B _ wr (fun a ha => by simp [ha]) hT.out)
      have HP := Lib.hid (HPUT.out k x hx)
      clear hri hcs hx hT
      go_wp2_with fail
      refine HC.out.mono ?_
      rintro e w7 ⟨rfl, o7⟩
      have HP7 := Lib.hid (HP.out w0 B _ _ o7)
      clear o7 HC HP
      go_wp2_with fail
      refine HP7.out.mono ?_
      rintro e w8 ⟨⟨pv, rfl⟩, o8⟩
      have HO8 := Lib.hid o8
      clear o8 HP7 c1
      go_wp2
      go_roundw
      case rel => exact ⟨k + 1, hlt, by go_num, HO8⟩
      case measure => simp [intOf]; omega
    · have hkl : k = nd.kids.length := by omega
      have o9 := hT.out
      rw [hkl, HFINST.out] at o9
      have HO9 := Lib.hid o9
      clear o9 hT hkl
      go_wp2
      go_ret
      rw [HF.out]
      exact ⟨rfl, HO9.out.swap.drop.swap.drop.swap.drop⟩

set_option maxRecDepth 100000 in
set_option maxHeartbeats 4000000 in
theorem dup_4_templ {C : Ar} (hC : C.Inv) (hCs : C.ns.length ≤ 300000) {b bf m : Nat} (ih : DupOK C b bf m) (A : Ar) (d h : Int) (L : List Asrt) (w0 w : World) (B : Nat) (hA : A.Inv) (hd : A.has d) (hk : (A.get d).kind = 1) (hh : C.has h) (hw : (C.walk h).length ≤ m + 1)
    (hsz : (if (C.get h).kind = 1 then A.ns.length + 2 else A.cap d) + (C.walk h).length + 2 ≤ 300000) (hsrc : Src C b bf A L) (o : Own w0 B (.arena b A :: L) w) (hkind : (C.get h).kind = 4) (hcont : (C.get h).contents ≠ 0) :
    Calls Tryz.prog 144 #[.pointer (some ⟨b, 0, none⟩), .int .i64 d, .pointer (some ⟨bf, 0, none⟩), .int .i64 h, .bool true] w fun e w' => e = .returned (.int .i64 (dupF C true (m + 1) A d h).1) ∧ Own w0 B (.arena b (dupF C true (m + 1) A d h).2 :: L) w' := by
  have h1 : (C.get h).kind ≠ 1 := by omega
  rw [if_neg h1] at hsz
  have hwp := walk_pos hC hh
  have hcg := Ar.cap_ge A d
  obtain ⟨C', hm, hCi, hCl, hCh, hCg⟩ := hsrc.at' hA hC (by omega) hCs hh
  obtain ⟨s1, s2, s3, s4⟩ := DupI.alone hA hC hd hk hh h1
  rw [if_pos hcont] at s1
  have hkk := kids_copy hC hh hw
  have hkl := Ar.kids_len hC.wf hh
  have hdup := dupF_eq C true m A d h
  rw [if_neg h1, if_pos rfl] at hdup
  have ht : isTemplate (C.get h) := Classical.byContradiction fun q => hcont (hC.nocont h hh (.inr q))
  obtain ⟨k1, k2, k3⟩ := hC.cont h hh (by have := hh.1; omega) ht
  have hkc1 := Ar.kids_len hC.wf k1
  have hwc := contents_walk hC hh hcont
  have hkk1 := kids_copy (m := m) hC k1 (by omega)
  have hwl1 := walk_kids_len hC k1
  have hwlen : 2 + ((C.get (C.get h).contents).kids.flatMap C.walk).length + ((C.get h).kids.flatMap C.walk).length ≤ (C.walk h).length := by
    rw [walk_eq hC hh, if_pos hcont]; simp only [List.length_cons, List.length_append]; omega
  obtain ⟨-, -, n3⟩ := alone_new hA hC hd hk hh h1
  obtain ⟨cc, c1, c2, c3, -, -, -, c4, -⟩ := (n3.resolve_left (fun q => hcont q.1)).2
  obtain ⟨-, -, a3⟩ := alone_facts hA hC hd hk hh h1
  have hia := a3 ht
  generalize hnd : C.get h = nd at *
  have HN := Lib.hid (NodeKA_own (b := bf) (A := C') o hm (hCi.short (by omega)) hCh hCg)
  have hal : A.alone d nd = ((A.element d nd.space nd.name nd.attrs).1.1, (A.element d nd.space nd.name nd.attrs).2) := by unfold Ar.alone; simp [hkind]
  have hat3 : nd.attrs.length ≤ 1000 := by rw [← hnd]; exact (hC.loc h hh).at3
  have HMK := Lib.hid (fun v l' W (hm : Asrt.atts v nd.attrs ∈ l') (q : Own w0 B (.arena b A :: l') W) => q.call (fun ρ hA' => Element_any A ρ b d nd.space nd.name v nd.attrs W hA' (q.atts (by simp [hm])) (by omega) (by omega)))
  unfold pairV at HMK
  rw [hal] at s1 s2 s3 s4 c1 c3 c4 hia hdup
  generalize A.element d nd.space nd.name nd.attrs = R at *
  obtain ⟨⟨c, er⟩, A2⟩ := R
  dsimp only at *
  rw [← s2] at c1 s3 s4
  -- the inert document
  have hof := ofDoc_zero s1.has s1.kind
  have hic := inertCall_at hof hia
  obtain ⟨i1, i2, i3, i4⟩ := s1.inv.inert d hia
  have hdmid : dupMid C true m (c, A2) d h = (C.get nd.contents).kids.foldl (dupStep (fun B k => dupF C true m B (A2.inertAt d) k) (A2.get c).contents) A2 := by
    unfold dupMid; rw [hnd, if_pos ⟨hkind, rfl, hcont⟩, hic]
  rw [hdmid] at hdup
  have sI : DupI A A2 (A2.inertAt d) (A.cap d + 2) := ⟨s1.inv, i2, i3, s1.old, by
    have h5 := s1.cap
    rw [cap_at hia] at h5
    rw [cap_at (by rw [i4]; exact hia)]; exact h5⟩
  obtain ⟨dn, hdn⟩ : ∃ dn, A2.get c = dn := ⟨_, rfl⟩
  rw [hdn] at c1 s4 hdup
  have hccn : ¬ A.has cc := fun q => by have := q.2; omega
  obtain ⟨kn, hkn⟩ : ∃ kn, C.get nd.contents = kn := ⟨_, rfl⟩
  rw [hkn] at hkk1 hwl1 hkc1 hwlen hdup
  obtain ⟨st1, yv1, ya1, u0, u1, u2, u3⟩ := copies_calls hC ih sI (c := cc) hccn c3 kn.kids (fun _ => .inr (.inl c4)) hkk1 (by omega) hsrc
  rw [← c1] at u1 u3
  rw [← u1] at hdup
  have hfold := DupI.fold hC sI hccn c3 kn.kids (fun _ => .inr (.inl c4)) hkk1 kn.kids.length (Nat.le_refl _)
  obtain ⟨g1, g2⟩ := dup_fold (C := C) (rec := fun B k => dupF C true m B (A2.inertAt d) k) (d := A2.inertAt d) (c := cc) kn.kids (A := A2) (fun B' k' hk' hB hd' hkd => dupF_facts hC m true hB hd' hkd (hkk1 k' hk').1 (hkk1 k' hk').2.1 (hkk1 k' hk').2.2.2) sI.inv sI.has sI.kind
  rw [List.take_length, ← c1, ← u1] at hfold
  rw [← c1, ← u1] at g1
  obtain ⟨f1, -, -, f4⟩ := hfold
  have sM : DupI A (st1 kn.kids.length) d (A.cap d + 2 + (kn.kids.flatMap C.walk).length) := ⟨f1.inv, g1.has d s1.has, (g1.kind d s1.has).trans s1.kind, f1.old, by
    have h5 := f1.cap
    rw [cap_at (f4 _ (by rw [i4]; exact hia))] at h5
    rw [cap_at (f4 d hia)]; exact h5⟩
  obtain ⟨st, yv, ya, t0, t1, t2, t3⟩ := copies_calls hC ih sM (c := c) (by rw [s2]; exact no_new) (g1.has c s3) nd.kids (fun _ => .inr (.inr (by rw [g1.kind c s3, hdn, s4]; exact hkind))) hkk (by omega) hsrc
  have HFINST := Lib.hid t1
  have HCALL := Lib.hid t2
  have HPUT := Lib.hid t3
  have HCALL1 := Lib.hid u2
  have HPUT1 := Lib.hid u3
  have HF := Lib.hid hdup
  have hkl2 : (nd.kids.length : Int) ≤ 300000 := by omega
  have hkl3 : (kn.kids.length : Int) ≤ 300000 := by omega
  have ec : (nd.contents != 0) = true := by simp [hcont]
  have hA2s : A2.ns.length ≤ 300000 := by have := Ar.cap_ge A2 d; have := s1.cap; omega
  have HND := Lib.hid (fun l' W (q : Own w0 B (.arena b A2 :: l') W) => Node_own (b := b) (A := A2) q (by simp) (s1.inv.short (by omega)) s3 hdn)
  have HINE := Lib.hid (fun l' W (q : Own w0 B (.arena b A2 :: l') W) => q.call (fun ρ hA' => Inert_any A2 ρ b d W hA' (by omega)))
  rw [hic] at HINE
  unfold pairV at HINE
  have HKD := Lib.hid (fun l' W (hl : ∀ a ∈ L, a ∈ l') (q : Own w0 B (.arena b A2 :: l') W) =>
    (let ⟨C2, hm2, hi2, hl2, hh2, hg2⟩ := (hsrc.grow s1.old hl).at' s1.inv hC hA2s hCs k1
     have e : C2.kidsOf nd.contents = kn.kids := (if_pos hh2).trans (by rw [hg2, hkn])
     by have := Kids_own (b := bf) (A := C2) (h := nd.contents) q hm2 (hi2.short (by omega)); rw [e] at this; exact this :
     Calls Tryz.prog 33 #[.pointer (some ⟨bf, 0, none⟩), .int .i64 nd.contents] W fun e w' => ∃ va vc, e = .returned (.slice va kn.kids.length vc) ∧ Own w0 B (.ints (.slice va kn.kids.length vc) kn.kids :: .arena b A2 :: l') w'))
  have U0 := Lib.hid u0
  have T0 := Lib.hid t0
  generalize A2.inertAt d = ii at *
  have e1 : (nd.kind == 1) = false := by simp [hkind]
  have e2 : (nd.kind == 2) = false := by simp [hkind]
  have e3 : (nd.kind == 3) = false := by simp [hkind]
  have e5 : (nd.kind == 5) = false := by simp [hkind]
  have e6 : (nd.kind == 6) = false := by simp [hkind]
  have e4 : (nd.kind == 4) = true := by simp [hkind]
  clear hd hk hh hw hsz hsrc o hwp hcg hm hCi hCl hCh hCg s1 s2 s3 s4 hal hkind h1 hnd hat3 hdup hkk hcont ht k1 k2 k3 hkc1 hwc hkk1 hwl1 hwlen n3 c1 c2 c3 c4 a3 hia hof hic i1 i2 i3 i4 hdmid sI hdn hccn hkn u0 u1 u2 u3 g1 g2 f1 f4 sM t0 t1 t2 t3 hA2s
  go_enter Tryz.func144, Tryz.ntmps144
  go_wp2_with fail
  refine HN.out.mono ?_
  rintro e w2 ⟨ka, kc, aa, ac, rfl, o2⟩
  clear HN
  have HT := Lib.hid (nodeBox_facts (w := w2) nd ka kc aa ac nd.kids.length nd.attrs.length)
  have o5 := o2.nodeBox nd (.slice ka nd.kids.length kc) (.slice aa nd.attrs.length ac)
  go_wp2_with ((with_reducible refine wpList_store_mid ?_ 46 (.tmp 11) (.tmp 26) ?_ w2.heap.size 0 (nd.cells (.slice ka nd.kids.length kc) (.slice aa nd.attrs.length ac)).toArray ?_ ?_ ?_ ?_ ?_ ?_); exact rfl; exact rfl; exact rfl; exact rfl; exact HT.out.1; exact sizeNode _ _ _; exact all_oneCell_toArray HT.out.2; clear HT; generalize hw5 : World.setCells _ _ _ _ = w5 at o5 ⊢; generalize hg5 : w2.heap.size = g5 at o5 ⊢; clear hw5 hg5; have q0 : w5.cell? ⟨g5, 0, none⟩ = some (.int .i64 nd.kind) := (cell_of_row w5 _ _ _ _ _ (o5.box (g := g5) (o := .cells (nd.cells (.slice ka nd.kids.length kc) (.slice aa nd.attrs.length ac)).toArray 46 (0, 0)) (by simp))).trans rfl; have f0 : w5.cell? ⟨g5, 4, none⟩ = some (.int .i64 nd.space) := (cell_of_row w5 _ _ _ _ _ (o5.box (g := g5) (o := .cells (nd.cells (.slice ka nd.kids.length kc) (.slice aa nd.attrs.length ac)).toArray 46 (0, 0)) (by simp))).trans rfl; have f1 : w5.cell? ⟨g5, 5, none⟩ = some (.string nd.name) := (cell_of_row w5 _ _ _ _ _ (o5.box (g := g5) (o := .cells (nd.cells (.slice ka nd.kids.length kc) (.slice aa nd.attrs.length ac)).toArray 46 (0, 0)) (by simp))).trans rfl; have f2 : w5.cell? ⟨g5, 6, none⟩ = some (.slice aa nd.attrs.length ac) := (cell_of_row w5 _ _ _ _ _ (o5.box (g := g5) (o := .cells (nd.cells (.slice ka nd.kids.length kc) (.slice aa nd.attrs.length ac)).toArray 46 (0, 0)) (by simp))).trans rfl)
  have oM := o5.perm (by simpa using (List.perm_append_comm (l₁ := [Asrt.box g5 (.cells (nd.cells (.slice ka nd.kids.length kc) (.slice aa nd.attrs.length ac)).toArray 46 (0, 0)), .ints (.slice ka nd.kids.length kc) nd.kids, .atts (.slice aa nd.attrs.length ac) nd.attrs]) (l₂ := [Asrt.arena b A])).append_right L)
  have HM := Lib.hid (HMK.out (.slice aa nd.attrs.length ac) _ _ (by simp) oM)
  clear o5 oM HMK
  go_wp2_with fail
  refine HM.out.mono ?_
  rintro e w6 ⟨rfl, o6⟩
  clear HM q0 f0 f1 f2
  have q11 : w6.cell? ⟨g5, 11, none⟩ = some (.int .i64 nd.contents) := (cell_of_row w6 _ _ _ _ _ (o6.box (g := g5) (o := .cells (nd.cells (.slice ka nd.kids.length kc) (.slice aa nd.attrs.length ac)).toArray 46 (0, 0)) (by simp))).trans rfl
  have HN7 := Lib.hid (HND.out _ _ o6)
  clear o6 HND
  go_wp2_with fail
  refine HN7.out.mono ?_
  rintro e w7 ⟨ka7, kl7, kc7, aa7, al7, ac7, rfl, o7, -⟩
  clear HN7 q11
  have HT := Lib.hid (nodeBox_facts (w := w7) dn ka7 kc7 aa7 ac7 kl7 al7)
  have o8 := o7.nodeBox dn (.slice ka7 kl7 kc7) (.slice aa7 al7 ac7)
  go_wp2_with ((with_reducible refine wpList_store_mid ?_ 46 (.tmp 14) (.tmp 103) ?_ w7.heap.size 0 (dn.cells (.slice ka7 kl7 kc7) (.slice aa7 al7 ac7)).toArray ?_ ?_ ?_ ?_ ?_ ?_); exact rfl; exact rfl; exact rfl; exact rfl; exact HT.out.1; exact sizeNode _ _ _; exact all_oneCell_toArray HT.out.2; clear HT; generalize hw5 : World.setCells _ _ _ _ = w8 at o8 ⊢; generalize hg5 : w7.heap.size = g14 at o8 ⊢; clear hw5 hg5; skip)
  have HI9 := Lib.hid (HINE.out _ _ o8.swap)
  clear o8 HINE
  go_wp2_with fail
  refine HI9.out.mono ?_
  rintro e w9 ⟨rfl, o9⟩
  have q11 : w9.cell? ⟨g5, 11, none⟩ = some (.int .i64 nd.contents) := (cell_of_row w9 _ _ _ _ _ (o9.box (g := g5) (o := .cells (nd.cells (.slice ka nd.kids.length kc) (.slice aa nd.attrs.length ac)).toArray 46 (0, 0)) (by simp))).trans rfl
  have HK10 := Lib.hid (HKD.out _ _ (fun a ha => by simp [ha]) o9)
  clear HI9 o9 HKD
  go_wp2_with fail
  refine HK10.out.mono ?_
  rintro e w10 ⟨va, vc, rfl, o10⟩
  have o11 := o10.swap
  rw [← U0.out] at o11
  have HO11 := Lib.hid o11
  clear o10 o11 HK10 q11 U0
  go_wp2
  go_loopw [116] (fun i wr => ∃ k : Nat, k ≤ kn.kids.length ∧ i = .int .i64 k ∧ Hid (Own w0 B (.arena b (st1 k) :: .ints (.slice va kn.kids.length vc) kn.kids :: .box g14 (.cells (dn.cells (.slice ka7 kl7 kc7) (.slice aa7 al7 ac7)).toArray 46 (0, 0)) :: .box g5 (.cells (nd.cells (.slice ka nd.kids.length kc) (.slice aa nd.attrs.length ac)).toArray 46 (0, 0)) :: .ints (.slice ka nd.kids.length kc) nd.kids :: .atts (.slice aa nd.attrs.length ac) nd.attrs :: L) wr)) (fun i _ => kn.kids.length - (intOf i).toNat)
  case atStart => exact ⟨0, Nat.zero_le _, rfl, HO11⟩
  case round =>
    obtain ⟨k, hk, rfl, hT⟩ := hrel
    clear HO11
    by_cases hlt : k < kn.kids.length
    · obtain ⟨x, hx⟩ : ∃ x, kn.kids[k]? = some x := ⟨_, List.getElem?_eq_getElem hlt⟩
      have hri : RInts wr (.slice va kn.kids.length vc) kn.kids := hT.out.ints (by simp)
      obtain ⟨b1, o1, rfl, -, hcs⟩ := hri.cells (by omega)
      have c1 := hcs k x hx
      have h11 : wr.cell? ⟨g14, 11, none⟩ = some (.int .i64 dn.contents) := (cell_of_row wr _ _ _ _ _ (hT.out.box (g := g14) (o := (.cells (dn.cells (.slice ka7 kl7 kc7) (.slice aa7 al7 ac7)).toArray 46 (0, 0))) (by simp))).trans rfl
      have hC1 := HCALL1.out k x hx w0 B _ wr.drew (fun a ha => by simp [ha]) (hT.out.read (Below.drew (Below.refl _ _)))
      have HP := Lib.hid (HPUT1.out k x hx)
      clear hri hcs hx hT
      go_upto_region 23 with fail
      go_region_held3 (fun w' => w'.cell? ⟨g14, 11, none⟩ = some (.int .i64 dn.contents)) (first | exact h11 | exact k11 | exact p11)
        (first
          | ((go_at_call 144; (with_reducible refine hC1.mono ?_); rintro e w12 ⟨rfl, o12⟩; have k11 : w12.cell? ⟨g14, 11, none⟩ = some (.int .i64 dn.contents) := (cell_of_row w12 _ _ _ _ _ (o12.box (g := g14) (o := (.cells (dn.cells (.slice ka7 kl7 kc7) (.slice aa7 al7 ac7)).toArray 46 (0, 0))) (by simp))).trans rfl; have hP1 := HP.out w0 B _ _ o12))
          | ((go_at_call 125; (with_reducible refine hP1.mono ?_); rintro e w13 ⟨⟨pv, rfl⟩, o13⟩; have p11 : w13.cell? ⟨g14, 11, none⟩ = some (.int .i64 dn.contents) := (cell_of_row w13 _ _ _ _ _ (o13.box (g := g14) (o := (.cells (dn.cells (.slice ka7 kl7 kc7) (.slice aa7 al7 ac7)).toArray 46 (0, 0))) (by simp))).trans rfl))
          | fail)
      all_goals
        have HO13 := Lib.hid o13
        clear o12 o13 hC1 hP1 HP k11 p11 h11 c1
        go_wp2
        go_roundw
        case rel => exact ⟨k + 1, hlt, by go_num, HO13⟩
        case measure => simp [intOf]; omega
    · have hkl : k = kn.kids.length := by omega
      have o14 := hT.out
      rw [hkl, ← T0.out] at o14
      have o6 := o14.swap.drop.swap.drop
      have q2 : wr.cell? ⟨g5, 2, none⟩ = some (.slice ka nd.kids.length kc) := (cell_of_row wr _ _ _ _ _ (o6.box (g := g5) (o := .cells (nd.cells (.slice ka nd.kids.length kc) (.slice aa nd.attrs.length ac)).toArray 46 (0, 0)) (by simp))).trans rfl
      have HO6 := Lib.hid o6
      clear o14 o6 hT hkl
      go_wp2
      go_loopw [134] (fun i wr => ∃ k : Nat, k ≤ nd.kids.length ∧ i = .int .i64 k ∧ Hid (Own w0 B (.arena b (st k) :: .box g5 (.cells (nd.cells (.slice ka nd.kids.length kc) (.slice aa nd.attrs.length ac)).toArray 46 (0, 0)) :: .ints (.slice ka nd.kids.length kc) nd.kids :: .atts (.slice aa nd.attrs.length ac) nd.attrs :: L) wr)) (fun i _ => nd.kids.length - (intOf i).toNat)
      case atStart => exact ⟨0, Nat.zero_le _, rfl, HO6⟩
      case round =>
        obtain ⟨k, hk, rfl, hT⟩ := hrel
        by_cases hlt : k < nd.kids.length
        · obtain ⟨x, hx⟩ : ∃ x, nd.kids[k]? = some x := ⟨_, List.getElem?_eq_getElem hlt⟩
          have hri : RInts wr (.slice ka nd.kids.length kc) nd.kids := hT.out.ints (by simp)
          obtain ⟨b1, o1, rfl, -, hcs⟩ := hri.cells (by omega)
          have c1 := hcs k x hx
          have HC := Lib.hid (HCALL.out k x hx w0 B _ wr (fun a ha => by simp [ha]) hT.out)
          have HP := Lib.hid (HPUT.out k x hx)
          clear hri hcs hx hT
          go_wp2_with fail
          refine HC.out.mono ?_
          rintro e w7 ⟨rfl, o7⟩
          have HP7 := Lib.hid (HP.out w0 B _ _ o7)
          clear o7 HC HP
          go_wp2_with fail
          refine HP7.out.mono ?_
          rintro e w8 ⟨⟨pv, rfl⟩, o8⟩
          have HO8 := Lib.hid o8
          clear o8 HP7 c1
          go_wp2
          go_roundw
          case rel => exact ⟨k + 1, hlt, by go_num, HO8⟩
          case measure => simp [intOf]; omega
        · have hkl : k = nd.kids.length := by omega
          have o9 := hT.out
          rw [hkl, HFINST.out] at o9
          have HO9 := Lib.hid o9
          clear o9 hT hkl
          go_wp2
          go_ret
          rw [HF.out]
          exact ⟨rfl, HO9.out.swap.drop.swap.drop.swap.drop⟩

/-- **duplicate.** -/
theorem dup_own {C : Ar} (hC : C.Inv) (hCs : C.ns.length ≤ 300000) {b bf : Nat} : ∀ m, DupOK C b bf m
  | 0 => fun deep A d h L w0 w B hA hd hk hh hw _ _ _ => by have := walk_pos hC hh; omega
  | m + 1 => fun deep A d h L w0 w B hA hd hk hh hw hsz hsrc o => by
    have ih := dup_own hC hCs (b := b) (bf := bf) m
    have k1 := (hC.loc h hh).k1
    have k6 := (hC.loc h hh).k6
    obtain q | q | q | q | q | q : (C.get h).kind = 1 ∨ (C.get h).kind = 2 ∨ (C.get h).kind = 3 ∨ (C.get h).kind = 4 ∨ (C.get h).kind = 5 ∨ (C.get h).kind = 6 := by omega
    · cases deep with
      | true => exact dup_1_true hC hCs ih A d h L w0 w B hA hd hk hh hw hsz hsrc o q
      | false => exact dup_1_false hC hCs ih A d h L w0 w B hA hd hk hh hw hsz hsrc o q
    · cases deep with
      | true => exact dup_2_true hC hCs ih A d h L w0 w B hA hd hk hh hw hsz hsrc o q
      | false => exact dup_2_false hC hCs ih A d h L w0 w B hA hd hk hh hw hsz hsrc o q
    · cases deep with
      | true => exact dup_3_true hC hCs ih A d h L w0 w B hA hd hk hh hw hsz hsrc o q
      | false => exact dup_3_false hC hCs ih A d h L w0 w B hA hd hk hh hw hsz hsrc o q
    · cases deep with
      | true =>
        by_cases hc : (C.get h).contents = 0
        · exact dup_4_plain hC hCs ih A d h L w0 w B hA hd hk hh hw hsz hsrc o q hc
        · exact dup_4_templ hC hCs ih A d h L w0 w B hA hd hk hh hw hsz hsrc o q hc
      | false => exact dup_4_false hC hCs ih A d h L w0 w B hA hd hk hh hw hsz hsrc o q
    · cases deep with
      | true => exact dup_5_true hC hCs ih A d h L w0 w B hA hd hk hh hw hsz hsrc o q
      | false => exact dup_5_false hC hCs ih A d h L w0 w B hA hd hk hh hw hsz hsrc o q
    · cases deep with
      | true => exact dup_6_true hC hCs ih A d h L w0 w B hA hd hk hh hw hsz hsrc o q
      | false => exact dup_6_false hC hCs ih A d h L w0 w B hA hd hk hh hw hsz hsrc o q

end Go.Proofs.YtpicinjcmjaogaaGreat
