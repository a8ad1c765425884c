/-
  Parts: QB, D6.
-/
import Derived.BigQuiet
import Derived.StillTailTactics
import Derived.BigRegion
import Derived.Deep.CutRange
import Derived.Test.YtpicinjcmjaogaaGreatN14

/- A region that draws its order, whose operations only read and whose calls make memory of their own: one walk in the text's order. No program here. -/
namespace Go.Proofs.YtpicinjcmjaogaaGreat
open Go.RowKit
set_option linter.unusedVariables false

/-- The worlds in which all that was there is as it was. -/
def Wld (w : World) : Type := { W : World // Below w.heap.size w W }
theorem Wld.inh (w : World) : Nonempty (Wld w) := ⟨⟨w, Below.refl _ _⟩⟩
instance instWld (w : World) : Nonempty (Wld w) := Wld.inh w

theorem Wld.cell {w : World} {p : Addr} {v : Value} (h : w.cell? p = some v) : ∀ x : Wld w, x.val.cell? p = some v := fun x => Below.old x.2 h

theorem Wld.call {P : Program} {f : FuncId} {args : Array Value} {w : World} {x : Wld w} {v : Value}
    (h : Calls P f args x.val fun e w' => e = .returned v ∧ Below x.val.heap.size x.val w') : Calls P f args x.val fun e w'' => e = .returned v ∧ ∃ y : Wld w, w'' = y.val :=
  h.mono fun _ w' ⟨he, hB⟩ => ⟨he, ⟨⟨w', x.2.trans (hB.mono x.2.size)⟩, rfl⟩⟩
theorem Wld.same {P : Program} {f : FuncId} {args : Array Value} {w : World} {x : Wld w} {v : Value}
    (h : Calls P f args x.val fun e w' => e = .returned v ∧ x.val = w') : Calls P f args x.val fun e w'' => e = .returned v ∧ ∃ y : Wld w, w'' = y.val :=
  h.mono fun _ w' ⟨he, hB⟩ => ⟨he, ⟨x, hB.symm⟩⟩

theorem wp_region_below_lit {P : Program} {id : Nat} {Q : Exit → Act → World → Prop} {a : Act} {w : World} {l : List Oper} (hm : P.follows .mixedOrders = true) (hB : Region.lexB .any l.toArray = true)
    (h : wpQuiet P l.toArray (fun W => ∃ x : Wld w, W = x.val) (fun a' => ∀ W, (∃ x : Wld w, W = x.val) → Q .normal a' W) l a) : (Code.region id l.toArray true).wp P Q a w :=
  wp_region_quiet (C := fun W => ∃ x : Wld w, W = x.val) hm hB ⟨⟨w.drew, Below.drew (Below.refl _ _)⟩, rfl⟩ (by simpa using h)

/-- A description is copied into a new box. -/
theorem nodeBoxF (w : World) (n : Nd) (kv av : Value) : NodeF ((w.alloc (.cells zcells 46)).setCells w.heap.size 0 (n.cells kv av)) w.heap.size 0 n kv av ∧
    Below w.heap.size w ((w.alloc (.cells zcells 46)).setCells w.heap.size 0 (n.cells kv av)) := by
  have o := (Own.start w).nodeBox n kv av
  refine ⟨?_, o.low⟩
  have h := o.box (g := w.heap.size) (o := .cells (n.cells kv av).toArray 46 (0, 0)) (by simp)
  have c : ∀ j v, (n.cells kv av)[j]? = some v → ((w.alloc (.cells zcells 46)).setCells w.heap.size 0 (n.cells kv av)).cell? ⟨w.heap.size, 0 + j, none⟩ = some v := fun j v hj => by
    rw [cell_of_row _ _ _ _ _ _ h, Nat.zero_add]; simpa using hj
  exact ⟨c 0 _ rfl, c 1 _ rfl, c 2 _ rfl, c 3 _ rfl, c 4 _ rfl, c 5 _ rfl, c 6 _ rfl, c 7 _ rfl, c 8 _ rfl, c 9 _ rfl, c 10 _ rfl, c 11 _ rfl, c 12 _ rfl⟩

end Go.Proofs.YtpicinjcmjaogaaGreat

/- Contracts of dom: the conditions of an insertion, one by one. (Printed by gend6.py.) -/
namespace Go.Proofs.YtpicinjcmjaogaaGreat
open Go.RowKit Go.Shelf
set_option linter.unusedVariables false

theorem infoKind : (Tryz.prog.info? 43).map (fun i => (i.zero, i.size, i.bytes)) = some (some (.int .i64 0), 1, 8) := by kernel_rfl

/-- A slice of kinds that owns its row. -/
abbrev Asrt.kinds (v : Value) (l : List Int) : Asrt := .row 43 1 v l.length (l.map intv)
theorem kinds_reads {w : World} {b : Nat} {e : TypeId} {v : Value} {l : List Int} (h : w.ownsRow b e 1 v l.length (l.map intv)) : RInts w v l := by
  have h' : ROwn w (fun k => if v.ownBlock = some k then 1 else 0) 1 e 1 v l.length (l.map intv) := by
    refine ⟨⟨h.1, ?_⟩, fun g hg => by simp [hg]⟩
    rcases h.2 with h2 | ⟨g, cap, cur, h3, _, h4⟩
    · exact .inl h2
    · exact .inr ⟨g, cap, cur, h3, Nat.zero_le _, h4⟩
  exact h'.reads
theorem Own.kinds {w0 w : World} {B : Nat} {v : Value} {x : List Int} {l : List Asrt} (h : Own w0 B l w) (hm : Asrt.kinds v x ∈ l) : RInts w v x := kinds_reads (h.row hm)

/-- A move, as its cells. -/
abbrev mvO (b : Nat) (p n c : Int) (r : Bool) : Obj := .cells #[.pointer (some ⟨b, 0, none⟩), .int .i64 p, .int .i64 n, .int .i64 c, .bool r] 141 (0, 0)
theorem mv_cells {w : World} {g b : Nat} {p n c : Int} {r : Bool} (h : w.heap[g]? = some (mvO b p n c r)) :
    w.cell? ⟨g, 0, none⟩ = some (.pointer (some ⟨b, 0, none⟩)) ∧ w.cell? ⟨g, 1, none⟩ = some (.int .i64 p) ∧ w.cell? ⟨g, 2, none⟩ = some (.int .i64 n) ∧ w.cell? ⟨g, 3, none⟩ = some (.int .i64 c) ∧ w.cell? ⟨g, 4, none⟩ = some (.bool r) :=
  ⟨(cell_of_row w _ _ _ _ _ h).trans rfl, (cell_of_row w _ _ _ _ _ h).trans rfl, (cell_of_row w _ _ _ _ _ h).trans rfl, (cell_of_row w _ _ _ _ _ h).trans rfl, (cell_of_row w _ _ _ _ _ h).trans rfl⟩

theorem KindIndex_any (v : Value) (l : List Int) (x : Int) (w : World) (hv : RInts w v l) :
    Calls Tryz.prog 252 #[v, .int .i64 x] w fun e w' => e = .returned (.int .i64 (findI (fun y => decide (y = x)) l)) ∧ w = w' := by
  obtain ⟨av, cv, rfl, hc1, hc2, hc3⟩ := hv.form
  go_enter Tryz.func252, Tryz.ntmps252
  go_wp2
  go_loop [8] (fun i => ∃ k : Nat, k ≤ l.length ∧ i = .int .i64 k ∧ Hid (∀ j y, j < k → l[j]? = some y → (fun y => decide (y = x)) y = false)) (fun i => l.length - (intOf i).toNat)
  case atStart => exact ⟨0, Nat.zero_le _, rfl, fun j y hj => by omega⟩
  case round =>
    obtain ⟨k, hk, rfl, hT⟩ := hrel
    by_cases hlt : k < l.length
    · obtain ⟨b1, o1, rfl, hcs⟩ := hc3 (by omega)
      have hck := hcs k hlt
      clear hc3 hcs
      have hy : l[k]? = some (l[k]?.getD 0) := by simp [hlt]
      generalize l[k]?.getD 0 = y at hck hy
      have HY := Lib.hid hy
      clear hy
      by_cases hxy : x = y
      · have h1 : (x == y) = true := by simp [hxy]
        have HXY := Lib.hid hxy
        clear hxy
        go_wp2
        go_ret
        exact ⟨ret_int (findI_hit HY.out (by simp [HXY.out]) hT.out).symm, rfl⟩
      · have h1 : (x == y) = false := by simp [hxy]
        have HXY := Lib.hid hxy
        clear hxy
        go_wp2
        go_round
        case rel => exact ⟨k + 1, hlt, by go_num, fun j z hj hz => by
          by_cases hjk : j < k
          · exact hT.out j z hjk hz
          · have hjk : j = k := by omega
            rw [hjk, HY.out] at hz; cases hz; simp; exact fun e => HXY.out e.symm⟩
        case measure => simp [intOf]; omega
    · go_wp2
      go_ret
      exact ⟨ret_int (findI_none (fun j y hj => hT.out j y (by have := (List.getElem?_eq_some_iff.1 hj).1; omega) hj)).symm, rfl⟩
theorem KindContains_any (v : Value) (l : List Int) (x : Int) (w : World) (hv : RInts w v l) :
    Calls Tryz.prog 250 #[v, .int .i64 x] w fun e w' => e = .returned (.bool (decide (x ∈ l))) ∧ w = w' := by
  have hd : decide (0 ≤ findI (fun y => decide (y = x)) l) = decide (x ∈ l) := by
    rw [findI_any, Bool.eq_iff_iff, List.any_eq_true]
    simp only [decide_eq_true_eq]
    exact ⟨fun ⟨y, h1, h2⟩ => h2 ▸ h1, fun h => ⟨x, h, rfl⟩⟩
  have HC := Lib.hid (KindIndex_any v l x w hv)
  have HD := Lib.hid hd
  clear hd hv
  generalize findI (fun y => decide (y = x)) l = i at *
  generalize decide (x ∈ l) = z at *
  by_cases hi : 0 ≤ i
  · have e : z = true := by rw [← HD.out]; simp [hi]
    subst e
    clear HD
    go_enter Tryz.func250, Tryz.ntmps250
    go_wp2_with fail
    refine HC.out.mono ?_
    rintro e w1 ⟨rfl, rfl⟩
    go_wp2
    go_ret
    exact ⟨by simp, rfl⟩
  · have e : z = false := by rw [← HD.out]; simp [hi]
    subst e
    clear HD
    go_enter Tryz.func250, Tryz.ntmps250
    go_wp2_with fail
    refine HC.out.mono ?_
    rintro e w1 ⟨rfl, rfl⟩
    go_wp2
    go_ret
    exact ⟨by simp; omega, rfl⟩

theorem split_take {A : Ar} {c : Int} {K : List Int} {k : Nat} {x : Int} (s : Bool × List Int × List Int) (hx : K[k]? = some x) : (K.take (k + 1)).foldl (splitStep A c) s = splitStep A c ((K.take k).foldl (splitStep A c) s) x := by
  have hk := (List.getElem?_eq_some_iff.1 hx).1
  rw [List.take_succ_eq_append_getElem hk, (List.getElem?_eq_some_iff.1 hx).2, List.foldl_append]; rfl
theorem split_len {A : Ar} {c : Int} : ∀ (K : List Int) (s : Bool × List Int × List Int), (K.foldl (splitStep A c) s).2.1.length + (K.foldl (splitStep A c) s).2.2.length ≤ s.2.1.length + s.2.2.length + K.length
  | [], s => by simp
  | x :: K, s => by
    have := split_len (A := A) (c := c) K (splitStep A c s x)
    have h2 : (splitStep A c s x).2.1.length + (splitStep A c s x).2.2.length ≤ s.2.1.length + s.2.2.length + 1 := by
      unfold splitStep
      split
      · dsimp only; omega
      · split
        · simp; omega
        · simp; omega
    simp only [List.foldl_cons, List.length_cons]; omega

set_option maxRecDepth 100000 in
set_option maxHeartbeats 2000000 in
theorem Split_own {w0 w : World} {B b : Nat} {A : Ar} {l : List Asrt} {p n c : Int} {r : Bool} (o : Own w0 B l w) (hm : Asrt.arena b A ∈ l) (hI : A.Inv) (hs : A.ns.length ≤ 100000) (hp : A.has p) :
    Calls Tryz.prog 249 #[.agg #[.pointer (some ⟨b, 0, none⟩), .int .i64 p, .int .i64 n, .int .i64 c, .bool r]] w fun e w' => ∃ v1 v2, e = .returned (.tuple #[v1, v2]) ∧
      Own w0 B (.kinds v1 (A.splitOf p c).1 :: .kinds v2 (A.splitOf p c).2 :: l) w' := by
  obtain ⟨i0, hi, hz0, hz1, hz2⟩ := info_parts infoKind
  have HI := Lib.hid hi
  clear hi
  have o1 := o.alloc (.cells #[.pointer (some ⟨b, 0, none⟩), .int .i64 p, .int .i64 n, .int .i64 c, .bool r] 141)
  have HS := Lib.hid (hI.short (by omega))
  have HK := Lib.hid (Kids_own (b := b) (A := A) (h := p) o1 (by simp [hm]) HS.out)
  have hko : A.kidsOf p = (A.get p).kids := if_pos hp
  rw [hko] at HK
  have HM := Lib.hid hm
  have hkl := Ar.kids_len hI.wf hp
  have HX := Lib.hid (fun x (hx : x ∈ (A.get p).kids) => (kid_up hI hp hx).1)
  have HSP : Hid (A.splitOf p c = ((A.get p).kids.foldl (splitStep A c) (false, [], [])).2) := Lib.hid rfl
  clear o o1 hm hI hp hko
  generalize (A.get p).kids = K at *
  go_enter Tryz.func249, Tryz.ntmps249
  go_wp2_with fail
  refine HK.out.mono ?_
  rintro e w1 ⟨ka, kc, rfl, o2⟩
  clear HK
  have o3 := (((o2.fresh (Below.refl _ _) ⟨fun _ => False, ⟨World.ownsRow_nil _ 0 43 1, fun k => ⟨fun h => h.elim, fun h => by simp [Value.ownBlock] at h⟩⟩, fun k hk => hk.elim⟩ : Own w0 B (.kinds (.slice none 0 0) [] :: _) w1)).fresh (Below.refl _ _) ⟨fun _ => False, ⟨World.ownsRow_nil _ 0 43 1, fun k => ⟨fun h => h.elim, fun h => by simp [Value.ownBlock] at h⟩⟩, fun k hk => hk.elim⟩ : Own w0 B (.kinds (.slice none 0 0) [] :: .kinds (.slice none 0 0) [] :: _) w1)
  have HO := Lib.hid o3
  clear o2 o3
  generalize hg : w.heap.size = g at *
  clear hg
  obtain ⟨LL, hLL⟩ : ∃ LL, LL = Asrt.ints (.slice ka K.length kc) K :: .box g (mvO b p n c r) :: l := ⟨_, rfl⟩
  have HLL : Hid (Asrt.ints (.slice ka K.length kc) K ∈ LL ∧ Asrt.box g (mvO b p n c r) ∈ LL ∧ Asrt.arena b A ∈ LL) := Lib.hid (by subst hLL; exact ⟨by simp, by simp, by simp [HM.out]⟩)
  rw [← hLL] at HO
  have HLE := Lib.hid hLL
  clear hLL HM
  have HM : Hid (Asrt.arena b A ∈ LL) := Lib.hid HLL.out.2.2
  go_wp2
  go_loopw [2, 3, 4, 13] (fun u2 u3 u4 i wr => ∃ (k : Nat) (s : Bool × List Int × List Int), k ≤ K.length ∧ i = .int .i64 k ∧ Hid ((K.take k).foldl (splitStep A c) (false, [], []) = s) ∧ u4 = .bool s.1 ∧ Hid (Own w0 B (.kinds u2 s.2.1 :: .kinds u3 s.2.2 :: LL) wr)) (fun _ _ _ i _ => K.length - (intOf i).toNat)
  case atStart => exact ⟨0, _, Nat.zero_le _, rfl, Lib.hid rfl, rfl, HO⟩
  case round =>
    obtain ⟨k, s, hk, rfl, HST, rfl, hT⟩ := hrel
    by_cases hlt : k < K.length
    · obtain ⟨x, hx⟩ : ∃ x, K[k]? = some x := ⟨_, List.getElem?_eq_getElem hlt⟩
      have hri : RInts wr (.slice ka K.length kc) K := hT.out.ints (by simp [HLL.out.1])
      obtain ⟨b1, o1, rfl, -, hcs⟩ := hri.cells (by omega)
      have c1 := hcs k x hx
      obtain ⟨m1, m2, m3, m4, m5⟩ := mv_cells (hT.out.box (g := g) (o := mvO b p n c r) (by simp [HLL.out.2.1]))
      have hx2 := HX.out x (List.mem_of_getElem? hx)
      have hst := split_take (A := A) (c := c) (false, [], []) hx
      have hsl := split_len (A := A) (c := c) (K.take k) (false, [], [])
      rw [HST.out] at hst hsl
      have hl1 : s.2.1.length ≤ 100000 ∧ s.2.2.length ≤ 100000 := by simp at hsl; omega
      obtain ⟨nd, hnd⟩ : ∃ nd, A.get x = nd := ⟨_, rfl⟩
      have HN := Lib.hid hnd
      unfold splitStep at hst
      rw [hnd] at hst
      clear hnd hri hcs hx hsl HST
      obtain ⟨sb, l1, l2⟩ := s
      dsimp only at *
      obtain ⟨hl1, hl2⟩ := hl1
      by_cases hxc : x = c
      · rw [if_pos hxc] at hst
        have HST2 := Lib.hid hst
        have e1 : (x == c) = true := by simp [hxc]
        have hT2 := hT
        clear hst hxc hT
        go_wp2
        go_roundw
        case rel => exact ⟨k + 1, _, hlt, by go_num, HST2, rfl, hT2⟩
        case measure => simp [intOf]; omega
      · rw [if_neg hxc] at hst
        have e1 : (x == c) = false := by simp [hxc]
        clear hxc
        have hT3 := hT
        clear hT
        cases sb with
        | true =>
          rw [if_pos rfl] at hst
          have HST2 := Lib.hid hst
          clear hst
          have HC := Lib.hid (Kind_own (b := b) (A := A) (n := nd) hT3.out (by simp [HM.out]) HS.out hx2 HN.out)
          have HT := Lib.hid hT3.out
          go_wp2_with fail
          refine HC.out.mono ?_
          rintro e w3 ⟨rfl, o3, -⟩
          have HR := Lib.hid (owns_base (o3.row (e := 43) (size := 1) (v := u3) (n := l2.length) (xs := l2.map intv) (by simp)) (Nat.zero_le _))
          have HO3 := Lib.hid o3
          clear o3 HC m1 m2 m3 m4 m5 c1
          generalize nd.kind = kd at *
          go_wp2_with (at_builtin; refine wpList_append_own_at _ rfl _ _ 213 rfl 0 43 i0 _ 1 8 Tryz.underlying213 HI.out hz0 hz1 hz2 rfl (by decide) _ _ _ rfl (HR.out.alloc _) ⟨w3.heap.size, 0, none⟩ 1 1 [intv kd] rfl rfl ?c1 ?c2 ?c3 ?c4 ?c5 ?_)
          case c1 => intro j u hj; rw [Addr.add_mid, Nat.zero_add]; exact cell_new' rfl (by simpa [intv] using hj)
          case c2 => intro u hu; simp at hu; subst hu; rfl
          case c3 => unfold maxLen; omega
          case c4 => omega
          case c5 => first | (simp; done) | (simp; omega)
          intro v' w4 hown hgrow _ hat
          have o4 := HO3.out.swap
          have o5 := ((o4.alloc (.cells #[.int .i64 kd] 43)).swap.grow hown hgrow (by simpa using hat)).swap.drop
          have e1 : (l2 ++ [kd]).length = l2.length + 1 := by simp
          have e2 : (l2 ++ [kd]).map intv = l2.map intv ++ [intv kd] := by simp
          have o6 : Own w0 B (.kinds v' (l2 ++ [kd]) :: .kinds u2 l1 :: LL) w4 := by unfold Asrt.kinds; rw [e1, e2]; exact o5
          have HO6 := Lib.hid o6.swap
          clear o4 o5 o6 hown hgrow hat HT hT3
          go_wp2
          go_roundw
          case rel => exact ⟨k + 1, _, hlt, by go_num, HST2, rfl, HO6⟩
          case measure => simp [intOf]; omega
        | false =>
          rw [if_neg (by simp)] at hst
          have HST2 := Lib.hid hst
          clear hst
          have HC := Lib.hid (Kind_own (b := b) (A := A) (n := nd) hT3.out (by simp [HM.out]) HS.out hx2 HN.out)
          have HT := Lib.hid hT3.out
          go_wp2_with fail
          refine HC.out.mono ?_
          rintro e w3 ⟨rfl, o3, -⟩
          have HR := Lib.hid (owns_base (o3.row (e := 43) (size := 1) (v := u2) (n := l1.length) (xs := l1.map intv) (by simp)) (Nat.zero_le _))
          have HO3 := Lib.hid o3
          clear o3 HC m1 m2 m3 m4 m5 c1
          generalize nd.kind = kd at *
          go_wp2_with (at_builtin; refine wpList_append_own_at _ rfl _ _ 213 rfl 0 43 i0 _ 1 8 Tryz.underlying213 HI.out hz0 hz1 hz2 rfl (by decide) _ _ _ rfl (HR.out.alloc _) ⟨w3.heap.size, 0, none⟩ 1 1 [intv kd] rfl rfl ?c1 ?c2 ?c3 ?c4 ?c5 ?_)
          case c1 => intro j u hj; rw [Addr.add_mid, Nat.zero_add]; exact cell_new' rfl (by simpa [intv] using hj)
          case c2 => intro u hu; simp at hu; subst hu; rfl
          case c3 => unfold maxLen; omega
          case c4 => omega
          case c5 => first | (simp; done) | (simp; omega)
          intro v' w4 hown hgrow _ hat
          have o4 := HO3.out
          have o5 := ((o4.alloc (.cells #[.int .i64 kd] 43)).swap.grow hown hgrow (by simpa using hat)).swap.drop
          have e1 : (l1 ++ [kd]).length = l1.length + 1 := by simp
          have e2 : (l1 ++ [kd]).map intv = l1.map intv ++ [intv kd] := by simp
          have o6 : Own w0 B (.kinds v' (l1 ++ [kd]) :: .kinds u3 l2 :: LL) w4 := by unfold Asrt.kinds; rw [e1, e2]; exact o5
          have HO6 := Lib.hid o6
          clear o4 o5 o6 hown hgrow hat HT hT3
          go_wp2
          go_roundw
          case rel => exact ⟨k + 1, _, hlt, by go_num, HST2, rfl, HO6⟩
          case measure => simp [intOf]; omega
    · have hkl2 : K.take k = K := List.take_of_length_le (by omega)
      rw [hkl2] at HST
      have HF : Hid (A.splitOf p c = s.2) := Lib.hid (by rw [HSP.out, HST.out])
      have o4 := hT.out
      rw [HLE.out] at o4
      have HO4 := Lib.hid o4
      clear o4 hT hkl2 HST HSP HO HLE HLL HM
      go_wp2
      go_ret2
      refine ⟨_, _, rfl, ?_⟩
      rw [HF.out]
      exact (((HO4.out.rot3).drop).rot3.drop)

end Go.Proofs.YtpicinjcmjaogaaGreat
