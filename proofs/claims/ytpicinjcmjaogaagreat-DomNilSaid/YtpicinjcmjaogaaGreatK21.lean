/-
  Parts: T2, W3, W4, V1.
-/
import Derived.Laws.StructEq
import Derived.Test.YtpicinjcmjaogaaGreatK08
import Derived.Test.YtpicinjcmjaogaaGreatK11

/- The document's list helpers: At, SameAttrs, Alike, SameNode, SameNodes. -/
namespace Go.Proofs.YtpicinjcmjaogaaGreat
open Go.RowKit
set_option linter.unusedVariables false

theorem At_any (v : Value) (l : List Int) (n : Int) (w : World) (hv : RInts w v l) :
    Calls Tryz.prog 141 #[v, .int .i64 n] w fun e w' => e = .returned (.int .i64 (findI (fun y => decide (y = n)) l)) ∧ w = w' := by
  obtain ⟨a, c, rfl, hc1, hc2, hc3⟩ := hv.form
  have HV := Lib.hid hv
  clear hc3 hv
  go_enter Tryz.func141, Tryz.ntmps141
  go_wp2
  go_loop [5] (fun i => ∃ k : Nat, k ≤ l.length ∧ i = .int .i64 k ∧ Hid (∀ j x, j < k → l[j]? = some x → x ≠ n)) (fun i => l.length - (intOf i).toNat)
  case atStart => exact ⟨0, Nat.zero_le _, rfl, fun j x hj => by omega⟩
  case round =>
    obtain ⟨k, hk, rfl, hT⟩ := hrel
    by_cases hlt : k < l.length
    · obtain ⟨b1, o1, rfl, -, hcs⟩ := HV.out.cells (by omega)
      obtain ⟨x, hx⟩ : ∃ x, l[k]? = some x := ⟨_, List.getElem?_eq_getElem hlt⟩
      have d1 := hcs k x hx
      have HX := Lib.hid hx
      clear hcs hx
      by_cases he : x = n
      · have he1 : (x == n) = true := by simp [he]
        have HE := Lib.hid he
        clear he
        go_wp2
        go_ret
        exact ⟨ret_int (findI_hit HX.out (by simp [HE.out]) (fun j y hj hy => by simpa using hT.out j y hj hy)).symm, rfl⟩
      · have he1 : (x == n) = false := by simp [he]
        have HE := Lib.hid he
        clear he
        go_wp2
        go_round
        case rel => exact ⟨k + 1, hlt, by go_num, fun j y hj hy => by
          by_cases hjk : j < k
          · exact hT.out j y hjk hy
          · have : j = k := by omega
            rw [this, HX.out] at hy
            simp at hy; rw [← hy]; exact HE.out⟩
        case measure => simp [intOf]; omega
    · have hfin : findI (fun y => decide (y = n)) l = -1 := findI_none (fun j y hy => by
        have := hT.out j y (by have := (List.getElem?_eq_some_iff.1 hy).1; omega) hy
        simpa using this)
      have HF := Lib.hid hfin
      clear hfin
      go_wp2
      go_ret
      exact ⟨ret_int HF.out.symm, rfl⟩

theorem RAttrs.cells {w : World} {a : Option Addr} {n c : Nat} {l : List AttrD} (h : RAttrs w (.slice a n c) l) (hp : 0 < l.length) : ∃ b o, a = some ⟨b, o, none⟩ ∧ n = l.length ∧ ∀ j x, l[j]? = some x → w.cell? ⟨b, o + j * 3, none⟩ = some (.int .i64 x.1) ∧ w.cell? ⟨b, o + j * 3 + 1, none⟩ = some (.string x.2.1) ∧ w.cell? ⟨b, o + j * 3 + 2, none⟩ = some (.string x.2.2) := by
  obtain ⟨a', c', e, h2, h3, h4⟩ := h.form
  simp at e
  obtain ⟨rfl, rfl, rfl⟩ := e
  obtain ⟨b, o, h5, h6⟩ := h4 hp
  exact ⟨b, o, h5, rfl, h6⟩

set_option maxHeartbeats 400000 in
theorem SameAttrs_any (v1 v2 : Value) (l1 l2 : List AttrD) (w : World) (h1 : RAttrs w v1 l1) (h2 : RAttrs w v2 l2) :
    Calls Tryz.prog 60 #[v1, v2] w fun e w' => e = .returned (.bool (decide (l1 = l2))) ∧ Below w.heap.size w w' := by
  obtain ⟨a1, c1, rfl, p1, p2, p3⟩ := h1.form
  obtain ⟨a2, c2, rfl, q1, q2, q3⟩ := h2.form
  have H1 := Lib.hid h1
  have H2 := Lib.hid h2
  clear h1 h2 p3 q3
  by_cases hl : l1.length = l2.length
  · have hl1 : ((l1.length : Int) != l2.length) = false := by simp [hl]
    have HL := Lib.hid hl
    go_enter Tryz.func60, Tryz.ntmps60
    go_wp2
    go_loopw [5] (fun i wr => ∃ k : Nat, k ≤ l1.length ∧ i = .int .i64 k ∧ Hid (∀ j : Nat, j < k → l1[j]? = l2[j]?) ∧ Below w.heap.size w wr) (fun i _ => l1.length - (intOf i).toNat)
    case atStart => exact ⟨0, Nat.zero_le _, rfl, fun j hj => by omega, Below.refl _ _⟩
    case round =>
      obtain ⟨k, hk, rfl, hT, hB⟩ := hrel
      by_cases hlt : k < l1.length
      · have hlt2 : k < l2.length := by have := HL.out; omega
        obtain ⟨b1, o1, rfl, -, hcs1⟩ := H1.out.cells (by omega)
        obtain ⟨b2, o2, rfl, -, hcs2⟩ := H2.out.cells (by omega)
        obtain ⟨x, hx⟩ : ∃ x, l1[k]? = some x := ⟨_, List.getElem?_eq_getElem hlt⟩
        obtain ⟨y, hy⟩ : ∃ y, l2[k]? = some y := ⟨_, List.getElem?_eq_getElem hlt2⟩
        obtain ⟨d1, d2, d3⟩ := hcs1 k x hx
        obtain ⟨e1, e2, e3⟩ := hcs2 k y hy
        have d1 := Below.old hB d1
        have d2 := Below.old hB d2
        have d3 := Below.old hB d3
        have e1 := Below.old hB e1
        have e2 := Below.old hB e2
        have e3 := Below.old hB e3
        have HX := Lib.hid (And.intro hx hy)
        clear hcs1 hcs2 hx hy
        obtain ⟨xs, xn, xv⟩ := x
        obtain ⟨ys, yn, yv⟩ := y
        dsimp only at d1 d2 d3 e1 e2 e3
        by_cases t1 : xs = ys
        · have u1 : (xs == ys) = true := by simp [t1]
          by_cases t2 : xn = yn
          · have u2 : (xn.toList == yn.toList) = true := by simp [t2]
            by_cases t3 : xv = yv
            · have u3 : (xv.toList == yv.toList) = true := by simp [t3]
              have HT := Lib.hid (And.intro t1 (And.intro t2 t3))
              clear t1 t2 t3
              go_wp2_with (go_quiet (fail))
              go_wp2
              go_roundw
              case rel => exact ⟨k + 1, hlt, by go_num, fun j hj => by
                by_cases hjk : j < k
                · exact hT.out j hjk
                · have : j = k := by omega
                  rw [this, HX.out.1, HX.out.2, HT.out.1, HT.out.2.1, HT.out.2.2], Below.drewN hB _⟩
              case measure => simp [intOf]; omega
            · have u3 : (xv.toList == yv.toList) = false := by rw [str_beq]; simp [t3]
              have HT := Lib.hid t3
              clear t1 t2 t3
              go_wp2_with (go_quiet (fail))
              go_wp2
              go_ret
              exact ⟨ret_bool (decide_eq_false (fun h => HT.out (by have a := HX.out.1; have b := HX.out.2; rw [h, b] at a; simp at a; exact a.2.2.symm))).symm, Below.drewN hB _⟩
          · have u2 : (xn.toList == yn.toList) = false := by rw [str_beq]; simp [t2]
            have HT := Lib.hid t2
            clear t1 t2
            go_wp2_with (go_quiet (fail))
            go_wp2
            go_ret
            exact ⟨ret_bool (decide_eq_false (fun h => HT.out (by have a := HX.out.1; have b := HX.out.2; rw [h, b] at a; simp at a; exact a.2.1.symm))).symm, Below.drewN hB _⟩
        · have u1 : (xs == ys) = false := by simp [t1]
          have HT := Lib.hid t1
          clear t1
          go_wp2_with (go_quiet (fail))
          go_wp2
          go_ret
          exact ⟨ret_bool (decide_eq_false (fun h => HT.out (by have a := HX.out.1; have b := HX.out.2; rw [h, b] at a; simp at a; exact a.1.symm))).symm, Below.drewN hB _⟩
      · have hfin : l1 = l2 := by
          apply List.ext_getElem?
          intro j
          by_cases hj : j < k
          · exact hT.out j hj
          · have := HL.out
            rw [List.getElem?_eq_none (by omega), List.getElem?_eq_none (by omega)]
        have HF := Lib.hid hfin
        clear hfin
        go_wp2
        go_ret
        exact ⟨ret_bool (decide_eq_true HF.out).symm, hB⟩
  · have hl1 : ((l1.length : Int) != l2.length) = true := by simp; omega
    have HL := Lib.hid hl
    clear hl
    go_enter Tryz.func60, Tryz.ntmps60
    go_wp2
    go_ret
    exact ⟨ret_bool (decide_eq_false (fun h => HL.out (by rw [h]))).symm, Below.refl _ _⟩

end Go.Proofs.YtpicinjcmjaogaaGreat

/- Walk, and the law's walk. -/
namespace Go.Proofs.YtpicinjcmjaogaaGreat
open Go.RowKit Go.Shelf
set_option linter.unusedVariables false

attribute [local go_sem] Oper.semAt_some

theorem Walk_any (b : Nat) (h : Int) (w : World) : Calls Tryz.prog 76 #[.pointer (some ⟨b, 0, none⟩), .int .i64 h] w fun e w' =>
      e = .returned (.func (.func 153) #[] #[.pointer (some ⟨w.heap.size, 0, none⟩), .pointer (some ⟨w.heap.size + 1, 0, none⟩)]) ∧
      w' = (w.alloc (.cells #[.pointer (some ⟨b, 0, none⟩)] 23)).alloc (.cells #[.int .i64 h] 3) := by
  go_enter Tryz.func76, Tryz.ntmps76
  go_wp2
  go_ret
  exact ⟨rfl, rfl⟩

set_option maxRecDepth 100000 in
set_option maxHeartbeats 1000000 in
theorem Walk1_seq (A : Ar) (ρ : Nat → Nat) (b ab hb : Nat) (h : Int) (n : Nat) (hn : 1 ≤ n) (w : World) (hA : AMem w ρ b A) (hI : A.Inv) (hsm : A.ns.length ≤ 100000)
    (h1 : w.heap[ab]? = some (.cells #[.pointer (some ⟨b, 0, none⟩)] 23 (0, 0))) (h2 : w.heap[hb]? = some (.cells #[.int .i64 h] 3 (0, 0))) :
    SeqR Fence.wide n Tryz.prog 153 #[.pointer (some ⟨ab, 0, none⟩), .pointer (some ⟨hb, 0, none⟩)] (fun x : Int => #[Value.int .i64 x]) (fun ys => ys = A.walk h) (fun pre => ∃ rest, A.walk h = pre ++ rest) w := by
  intro l J Jx W hB hj hY
  have k1 := box_cell ((hB.block _ (lt_of_block h1)).trans h1)
  have k2 := box_cell ((hB.block _ (lt_of_block h2)).trans h2)
  have hA1 := hA.below hB
  obtain ⟨a, c, mv, g0, -⟩ := hA1.head
  have HJ := Lib.hid hj
  have HY := Lib.hid hY
  clear hj hY
  refine callsIn_of_wp Tryz.func153 rfl trivial ?_ rfl
  simp only [Tryz.ntmps153, List.size_toArray, List.length_cons, List.length_nil, Nat.reduceAdd, Nat.reduceSub, Array.replicate_succ, Array.replicate_zero, List.push_toArray, List.append_toArray, List.nil_append, List.cons_append]
  by_cases hh : A.has h
  · have hd : decide (A.has h) = true := by simp [hh]
    have HH := Lib.hid hh
    clear hh
    gi_wp2_with fail
    refine ⟨trivial, ?_⟩
    refine (callsIn_wide.2 (has_any A b a c h _ g0)).mono ?_
    rintro e w2 ⟨rfl, rfl⟩
    rw [hd]
    gi_wp2_with fail
    refine ⟨trivial, ?_⟩
    refine (callsIn_wide.2 (preorder_any A ρ b W.heap.size hI (fun k hk => hA1.1 k hk) hsm h HH.out (.slice none 0 0) [] W hA1 (Nat.le_refl _) (World.ownsRow_nil _ _ _ _) (by have := walk_len hI h; simp; omega))).mono ?_
    rintro e W0 ⟨hB0, v', rfl, hO⟩
    simp only [List.nil_append] at hO
    have hJ0 := HJ.out W0 hB0
    obtain ⟨va, vc, rfl⟩ := ownsForm hO
    have hwl := walk_len hI h
    have HO := Lib.hid hO
    have HJ0 := Lib.hid hJ0
    clear hO hJ0
    gi_wp2
    gi_loopw [14] (fun i wr => ∃ (k : Nat), k ≤ (A.walk h).length ∧ i = .int .i64 k ∧ Hid (J W0.heap.size ((A.walk h).take k) wr ∧ ∀ q, W.heap.size ≤ q → q < W0.heap.size → wr.heap[q]? = W0.heap[q]?)) (fun i _ => (A.walk h).length - (intOf i).toNat)
    case atStart => exact ⟨0, Nat.zero_le _, rfl, HJ0.out, fun _ _ _ => rfl⟩
    case round =>
      obtain ⟨k, hk, rfl, hT⟩ := hrel
      by_cases hlt : k < (A.walk h).length
      · obtain ⟨y, hy⟩ : ∃ y, (A.walk h)[k]? = some y := ⟨_, List.getElem?_eq_getElem hlt⟩
        obtain ⟨b1, o1, rfl, -, hcs⟩ := (ints_reads (owns_keep HO.out hT.out.2)).cells (by omega)
        have d1 := hcs k y hy
        have hst : (A.walk h).take (k + 1) = (A.walk h).take k ++ [y] := by
          rw [List.take_succ_eq_append_getElem hlt, (List.getElem?_eq_some_iff.1 hy).2]
        have hrest : ∃ rest, A.walk h = (A.walk h).take (k + 1) ++ rest := ⟨(A.walk h).drop (k + 1), (List.take_append_drop _ _).symm⟩
        have HT := Lib.hid (And.intro hst hrest)
        clear hcs hy hst hrest
        obtain ⟨fn, tmps, assign, body, hy, hR⟩ := HY.out W0.heap.size _ y wr (by rw [← HT.out.1]; exact HT.out.2) hT.out.1
        gi_wp2
        refine hR.mono ?_
        rintro e W3 (⟨rfl, hJ3, hU3⟩ | ⟨rfl, hJx3⟩)
        · have hrel : Hid (J W0.heap.size ((A.walk h).take (k + 1)) W3 ∧ ∀ q, W.heap.size ≤ q → q < W0.heap.size → W3.heap[q]? = W0.heap[q]?) := Lib.hid ⟨by rw [HT.out.1]; exact hJ3, fun q h1 h2 => (hU3 q h1 h2).trans (hT.out.2 q h1 h2)⟩
          clear hJ3 hU3 hT hy hR
          gi_wp2
          go_roundw
          case rel => exact ⟨k + 1, hlt, by go_num, hrel⟩
          case measure => simp [intOf]; omega
        · have hfin := Lib.hid (And.intro HT.out.2 (show Jx W0.heap.size ((A.walk h).take (k + 1)) W3 by rw [HT.out.1]; exact hJx3))
          clear hJx3 hT hy hR
          gi_wp2
          refine bodyPost_ret (results_none rfl _ _ _) rfl ?_
          exact ⟨⟨_, rfl⟩, .inr ⟨_, _, hfin.out.1, hfin.out.2⟩⟩
      · have hkl : (A.walk h).take k = A.walk h := List.take_of_length_le (by omega)
        have hfin := Lib.hid hT.out.1
        rw [hkl] at hfin
        clear hT hkl
        gi_wp2
        go_end0
        exact ⟨⟨_, rfl⟩, .inl ⟨_, _, rfl, hfin.out⟩⟩
  · have hd : decide (A.has h) = false := by simp [hh]
    have HH := Lib.hid hh
    clear hh
    gi_wp2_with fail
    refine ⟨trivial, ?_⟩
    refine (callsIn_wide.2 (has_any A b a c h _ g0)).mono ?_
    rintro e w2 ⟨rfl, rfl⟩
    rw [hd]
    gi_wp2
    refine bodyPost_ret (results_none rfl _ _ _) rfl ?_
    exact ⟨⟨_, rfl⟩, .inl ⟨[], _, (walk_no HH.out).symm, HJ.out W (Below.refl _ _)⟩⟩

end Go.Proofs.YtpicinjcmjaogaaGreat

/- The law's walk: what Walk yields, at most so many handles. -/
namespace Go.Proofs.YtpicinjcmjaogaaGreat
open Go.RowKit Go.Shelf
set_option linter.unusedVariables false

attribute [local go_sem] Oper.semAt_some

def walkTo (A : Ar) (h most : Int) : List Int := (A.walk h).take most.toNat

/-- A function value is compared with nil. -/
theorem run_eql_func_nil {P : Program} (w : World) (t : TypeId) {ps rs : Array TypeId} {vv : Bool} (fn : Fn) (bs cs : Array Value) (h : P.underlying t = some (.func ps rs vv)) :
    (binOp .eql t (.func fn bs cs) .nilFunc).run P w = .ok (.bool false) w := by
  have h1 : ∀ d, (Op.equalIn (d + 1) t (.func fn bs cs) .nilFunc).run P w = .ok false w := fun d => by simp [Op.equalIn, run_underlying h]
  have h2 : (Op.equal t (.func fn bs cs) .nilFunc).run P w = .ok false w := h1 9999
  simp only [binOp]
  simp [h2]

theorem ints_nil {w0 w : World} {B : Nat} {l : List Asrt} (o : Own w0 B l w) : Own w0 B (.ints (.slice none 0 0) [] :: l) w :=
  o.fresh (Below.refl _ _) ⟨fun _ => False, ⟨World.ownsRow_nil _ _ _ _, fun k => by simp [Value.ownBlock]⟩, fun _ h => h.elim⟩

end Go.Proofs.YtpicinjcmjaogaaGreat

/- The law ArenaVisits. -/
namespace Go.Proofs.YtpicinjcmjaogaaGreat
open Go.RowKit
set_option linter.unusedVariables false

theorem findI_nodup {l : List Int} {i : Nat} {x : Int} (hn : l.Nodup) (hi : l[i]? = some x) : findI (fun y => decide (y = x)) l = i := by
  refine findI_hit hi (by simp) (fun j y hj hy => ?_)
  have h1 := (List.getElem?_eq_some_iff.1 hi)
  have h2 := (List.getElem?_eq_some_iff.1 hy)
  simp
  intro e
  subst e
  have := (List.getElem_inj hn (i := j) (j := i) (h₀ := h2.1) (h₁ := h1.1)).1 (h2.2.trans h1.2.symm)
  omega
theorem findI_take {l : List Int} {i : Nat} {m : Int} (hm : m ∈ l.take i) : ∃ j : Nat, findI (fun y => decide (y = m)) l = j ∧ j < i := by
  obtain ⟨j, h1, h2, h3, h4⟩ := findI_mem (List.mem_of_mem_take hm)
  refine ⟨j, h1, ?_⟩
  obtain ⟨j', hj', e⟩ := List.getElem_of_mem hm
  rw [List.length_take] at hj'
  rw [List.getElem_take] at e
  have := h4 j'
  by_cases hlt : j' < j
  · exact absurd (by rw [List.getElem?_eq_getElem (by omega), e]) (this hlt)
  · omega
theorem findI_neg {l : List Int} {m : Int} : decide (0 ≤ findI (fun y => decide (y = m)) l) = decide (m ∈ l) := by
  rw [findI_any, Bool.eq_iff_iff]; simp
/-- What the law asks of the handle at place i. -/
theorem visit_fact {A : Ar} (hI : A.Inv) {h : Int} {i : Nat} {x : Int} (hi : (A.walk h)[i]? = some x) : A.has x ∧ A.contains h x = true ∧ findI (fun y => decide (y = x)) (A.walk h) = i ∧ (0 < i → ∃ j : Nat, findI (fun y => decide (y = A.up x)) (A.walk h) = j ∧ j < i) := by
  have hm := List.mem_of_getElem? hi
  have hh : A.has h := Classical.not_not.1 (fun hn => by rw [walk_no hn] at hm; simp at hm)
  refine ⟨((walk_mem hI h hh x).1 hm).1, by rw [walk_contains hI]; simp [hm], findI_nodup (walk_nodup hI h hh) hi, fun h0 => findI_take ?_⟩
  obtain ⟨rest, e, ha⟩ := walk_after hI h hh
  rw [e] at hi ⊢
  obtain ⟨i, rfl⟩ : ∃ j, i = j + 1 := ⟨i - 1, by omega⟩
  rw [List.getElem?_cons_succ] at hi
  rw [List.take_succ_cons]
  have hlt := (List.getElem?_eq_some_iff.1 hi).1
  have hsp : rest = rest.take i ++ x :: rest.drop (i + 1) := by
    rw [← (List.getElem?_eq_some_iff.1 hi).2, ← List.drop_eq_getElem_cons hlt, List.take_append_drop]
  rcases ha _ _ _ hsp with q | q
  · rw [q]; simp
  · exact List.mem_cons.2 (.inr q)

theorem Contains_own {w0 w : World} {B b : Nat} {A : Ar} {l : List Asrt} {u h : Int} (o : Own w0 B l w) (hm : Asrt.arena b A ∈ l) (hI : A.Inv) :
    Calls Tryz.prog 52 #[.pointer (some ⟨b, 0, none⟩), .int .i64 u, .int .i64 h] w fun e w' => e = .returned (.bool (A.contains u h)) ∧ Own w0 B l w' := by
  obtain ⟨ρ, hA⟩ := o.arena hm
  refine (Contains_all A ρ b u h w hA hI.wf).mono ?_
  rintro e w' ⟨rfl, hB⟩
  exact ⟨rfl, o.read hB⟩
theorem At_own {w0 w : World} {B : Nat} {v : Value} {x : List Int} {n : Int} {l : List Asrt} (o : Own w0 B l w) (hm : Asrt.ints v x ∈ l) {i : Int} (hi : findI (fun y => decide (y = n)) x = i) :
    Calls Tryz.prog 141 #[v, .int .i64 n] w fun e w' => e = .returned (.int .i64 i) ∧ w = w' := by
  subst hi
  exact At_any v x n w (o.ints hm)

theorem RInts.cell {w : World} {b o n c : Nat} {l : List Int} (h : RInts w (.slice (some ⟨b, o, none⟩) n c) l) {j : Nat} {x : Int} (hx : l[j]? = some x) : w.cell? ⟨b, o + j, none⟩ = some (.int .i64 x) := by
  have hp : 0 < l.length := by have := (List.getElem?_eq_some_iff.1 hx).1; omega
  obtain ⟨b', o', e, -, hcs⟩ := h.cells hp
  simp at e
  obtain ⟨rfl, rfl⟩ := e
  exact hcs j x hx

end Go.Proofs.YtpicinjcmjaogaaGreat
