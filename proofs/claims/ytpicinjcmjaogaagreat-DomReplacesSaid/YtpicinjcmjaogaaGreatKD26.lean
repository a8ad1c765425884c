/-
  The law DomReplaces: the walk.
-/
import Derived.Maps.AppendAt
import Derived.Test.YtpicinjcmjaogaaGreatK40
import Derived.Test.YtpicinjcmjaogaaGreatK44
namespace Go.Proofs.YtpicinjcmjaogaaGreat
open Go.RowKit Classical
set_option linter.unusedVariables false

/-- 'append' of a slice that may be nil, and where the new row lies. -/
theorem wpList_append_anyAt {P : Program} (w : World) {ops : Array Oper} {rest : List Oper} {o : Oper} {a : Act} {Q : Exit → Act → World → Prop} (hgd : o.guard = none) (s x : Operand) (t : TypeId)
    (ho : o.op = .call { callee := .builtin .append, args := #[s, x], argTypes := #[t, t] })
    (base : Nat) (e : TypeId) (i : TypeInfo) (z : Value) (size bytes : Nat) (ht : P.underlying t = some (.slice e)) (hi : P.info? e = some i) (hz : i.zero = some z)
    (hsize : i.size = size) (hby : i.bytes = bytes) (hzs : z.cells.size = size) (hsz : 0 < size)
    (v : Value) (n : Nat) (xs : List Value) (hs : a.eval s = v) (hown : w.ownsRow base e size v n xs)
    (ao : Option Addr) (m c : Nat) (news : List Value) (hx : a.eval x = .slice ao m c) (hl : news.length = m * size) (hnews : ∀ ad, ao = some ad → ∀ j u, news[j]? = some u → w.cell? (ad.add j) = some u) (hnone : ao = none → m = 0) (h1 : ∀ u ∈ news, u.oneCell' = true)
    (h63 : n + m ≤ maxLen) (hbytes : (n + m) * bytes ≤ 140737488355328) (hbase : base ≤ w.heap.size)
    (h : ∀ v' w', w'.ownsRow base e size v' (n + m) (xs ++ news) → w.grownBy w' v.ownBlock → (v'.ownBlock = v.ownBlock ∨ v'.ownBlock = some w.heap.size) → wpList P ops Q rest (a.put o.dst v') w') : wpList P ops Q (o :: rest) a w := by
  cases ao with
  | some ad => exact wpList_append_own_at w hgd s x t ho base e i z size bytes ht hi hz hsize hby hzs hsz v n xs hs hown ad m c news hx hl (hnews ad rfl) h1 h63 hbytes hbase (fun v' w' h1 h2 _ h4 => h v' w' h1 h2 h4)
  | none =>
    obtain rfl := hnone rfl
    have hn : news = [] := List.eq_nil_of_length_eq_zero (by rw [hl, Nat.zero_mul])
    subst hn
    have hrun : (Builtin.append_ #[t, t] o.type #[v, .slice none 0 c]).run P w = .ok v w := by
      rcases hown.2 with ⟨rfl, rfl⟩ | ⟨g, cap, cur, rfl, _, _, hnc, _⟩
      · simp [Builtin.append_, run_underlying ht, sizeOf, typeInfo, hi, Builtin.lenOf, Builtin.firstCells]
      · simp [Builtin.append_, run_underlying ht, sizeOf, typeInfo, hi, Builtin.lenOf, Builtin.firstCells, hnc, storeCells]
    refine wpList_plain hgd fun K hK => ?_
    unfold Oper.wp
    simp [execOp, ho, resolve, invoke, builtin, hs, hx, hrun, Result.andThen]
    exact hK _ _ (h v w (by simpa using hown) (World.grownBy.refl w _) (.inl rfl))
/-- The cells of a list of integers that is read. -/
theorem ints_src {w : World} {ao : Option Addr} {m c : Nat} {l : List Int} (h : RInts w (.slice ao m c) l) : m = l.length ∧ (∀ ad, ao = some ad → ∀ j u, (l.map intv)[j]? = some u → w.cell? (ad.add j) = some u) ∧ (ao = none → m = 0) := by
  obtain ⟨a, cc, e, -, -, hc⟩ := h.form
  simp only [Value.slice.injEq] at e
  obtain ⟨rfl, rfl, rfl⟩ := e
  by_cases hp : 0 < l.length
  · obtain ⟨b, o, rfl, hcs⟩ := hc hp
    refine ⟨rfl, fun ad e j u hj => ?_, fun e => by simp at e⟩
    simp only [Option.some.injEq] at e
    subst e
    rw [Addr.add_mid]
    rw [List.getElem?_map] at hj
    cases hx : l[j]? with
    | none => rw [hx] at hj; simp at hj
    | some x =>
      rw [hx] at hj
      simp at hj
      subst hj
      have := (List.getElem?_eq_some_iff.1 hx).1
      rw [hcs j this, hx]; rfl
  · have h0 : l = [] := List.eq_nil_of_length_eq_zero (by omega)
    subst h0
    exact ⟨rfl, fun ad e j u hj => by simp at hj, fun _ => rfl⟩

theorem replace_len {A : Ar} (hI : A.Inv) (p n c : Int) : (A.replaceCall p n c).2.ns.length ≤ A.ns.length + 1 := by
  unfold Ar.replaceCall
  by_cases hh : A.has p ∧ A.has n ∧ A.has c
  · rw [if_pos hh]
    by_cases hr : A.refused p n c true ≠ 0
    · rw [if_pos hr]; exact Nat.le_succ _
    · rw [if_neg hr]
      have := (insertAt_facts (Ar.InvX.cut hI hh.2.2) ((Ar.cut_has _ _ _).2 hh.1) ((Ar.cut_has _ _ _).2 hh.2.1) (c := if A.next c = n then A.next n else A.next c)).2
      rw [Ar.cut_ns] at this
      exact this
  · rw [if_neg hh]; exact Nat.le_succ _
def putsL (P : List Int) (n c : Int) (l : List Int) : List Int := l.flatMap (fun k => if k = c then P else if k = n then [] else [k])
theorem putsL_take {P : List Int} {n c : Int} {l : List Int} {k : Nat} {x : Int} (hx : l[k]? = some x) : putsL P n c (l.take (k + 1)) = putsL P n c (l.take k) ++ (if x = c then P else if x = n then [] else [x]) := by
  unfold putsL
  rw [List.take_add_one, hx, List.flatMap_append]; simp
theorem putsL_len {P : List Int} {n c : Int} (hP : P.length ≤ 100000) : ∀ l : List Int, (putsL P n c l).length ≤ 100001 * l.length
  | [] => by simp [putsL]
  | x :: l => by
    have := putsL_len hP l (n := n) (c := c)
    have e : putsL P n c (x :: l) = (if x = c then P else if x = n then [] else [x]) ++ putsL P n c l := rfl
    rw [e, List.length_append, List.length_cons, Nat.mul_succ]
    split
    · omega
    · split <;> simp <;> omega

set_option maxRecDepth 100000 in
set_option maxHeartbeats 1000000 in
theorem DomReplaces_no (v0 : Value) (l : List OpD) (p n c : Int) (w : World) (hv : ROps w v0 l) (hs : ¬ small5 l 100) :
    Calls Tryz.prog 4 #[v0, .int .i64 p, .int .i64 n, .int .i64 c] w fun e w' => e = .returned (.bool true) ∧ Below w.heap.size w w' := by
  have HS := Lib.hid (Small5_any v0 l 100 w hv)
  have HD := Lib.hid (show decide (small5 l 100) = false from decide_eq_false hs)
  obtain ⟨av, cv, rfl, -⟩ := hv
  go_enter Tryz.func4, Tryz.ntmps4
  go_wp2_with fail
  refine HS.out.mono ?_
  rintro e w1 ⟨rfl, hB1⟩
  rw [HD.out]
  go_wp2_with fail
  refine (known5_any w1).mono ?_
  rintro e w2 ⟨rfl, hB2⟩
  go_wp2
  go_ret
  exact ⟨rfl, hB1.trans (hB2.mono hB1.size)⟩

set_option maxRecDepth 100000 in
set_option maxHeartbeats 4000000 in
theorem DomReplaces_some (v0 : Value) (l : List OpD) (p n c : Int) (w : World) (hv : ROps w v0 l) (hs : small5 l 100) :
    Calls Tryz.prog 4 #[v0, .int .i64 p, .int .i64 n, .int .i64 c] w fun e w' => e = .returned (.bool true) ∧ Below w.heap.size w w' := by
  have HS := Lib.hid (Small5_any v0 l 100 w hv)
  have HD := Lib.hid (show decide (small5 l 100) = true from decide_eq_true hs)
  obtain ⟨i1, -, hlen, -⟩ := run5_take hs (by omega) (Nat.le_refl l.length)
  rw [List.take_length] at i1 hlen
  have HRUN := Lib.hid (fun W (ll : List Asrt) (o : Own w w.heap.size ll W) => Run5_own o v0 l (hv.below o.low) hs (by omega))
  have HSH := Lib.hid (i1.short (show (runL5 l).ns.length ≤ 1000000 by omega))
  obtain ⟨av0, cv0, rfl, -⟩ := hv
  have o0 := Own.start w
  clear hs
  generalize runL5 l = A at *
  -- the node, its nodes
  obtain ⟨nd, hnd⟩ : ∃ nd, (if A.has n then A.get n else zeroNd) = nd := ⟨_, rfl⟩
  have HND := Lib.hid hnd
  have HR := Lib.hid (fun (W : World) (b : Nat) (ll : List Asrt) (o : Own w w.heap.size (.arena b A :: ll) W) => ReplaceD_own (p := p) (n := n) (c := c) o i1 (by omega))
  have hKn : (A.kidsOf n).length ≤ 100000 := by
    unfold Ar.kidsOf
    by_cases q : A.has n
    · rw [if_pos q]; have := Ar.kids_len i1.wf q; omega
    · rw [if_neg q]; exact Nat.zero_le _
  have hKp : (A.kidsOf p).length ≤ 100000 := by
    unfold Ar.kidsOf
    by_cases q : A.has p
    · rw [if_pos q]; have := Ar.kids_len i1.wf q; omega
    · rw [if_neg q]; exact Nat.zero_le _
  have HLAW : Hid ((A.replaceCall p n c).1 = 0 → (A.replaceCall p n c).2.Short ∧ (A.replaceCall p n c).2.kidsOf p = putsL (if nd.kind = 2 then A.kidsOf n else [n]) n c (A.kidsOf p) ∧ (n = c ∨ (A.replaceCall p n c).2.parentOf c = 0)) := Lib.hid (fun h0 => by
    obtain ⟨hp, hn, hc, hI, hBp, hBc, q1, q2⟩ := replace_kids i1 h0
    refine ⟨hI.short (by have := replace_len i1 p n c; omega), ?_, ?_⟩
    · unfold Ar.kidsOf putsL
      rw [if_pos hBp, if_pos hp, if_pos hn, q1, ← hnd, if_pos hn]
      rfl
    · unfold Ar.parentOf
      rw [if_pos hBc]; exact q2)
  clear hnd i1
  generalize hB : (A.replaceCall p n c).2 = B at *
  generalize hr : (A.replaceCall p n c).1 = r at *
  clear hB hr
  obtain ⟨i0, hi, hz0, hz1, hz2⟩ := info_parts infoInt
  have HII := Lib.hid hi
  clear hi
  go_enter Tryz.func4, Tryz.ntmps4
  go_wp2_with fail
  refine HS.out.mono ?_
  rintro e w1 ⟨rfl, hB1⟩
  rw [HD.out]
  have o1 := o0.read hB1
  clear hB1 o0 HS HD
  go_wp2_with fail
  refine (HRUN.out _ _ o1).mono ?_
  rintro e w2 ⟨rfl, o2⟩
  generalize w1.heap.size = b at *
  clear o1 HRUN
  go_wp2_with fail
  refine (Kids_ownE o2 (b := b) (A := A) (by simp) HSH.out (y := A.kidsOf p) rfl).mono ?_
  rintro e w3 ⟨ak, ck, rfl, o3⟩
  generalize A.kidsOf p = L0 at *
  clear o2
  go_wp2_with fail
  refine (NodeE_own o3 (b := b) (A := A) (by simp) HSH.out HND.out (er := if A.has n then (0 : Int) else 3) rfl).mono ?_
  rintro e w4 ⟨ka, kl, kc, aa, al, ac, rfl, o4, -⟩
  generalize (if A.has n then (0 : Int) else 3) = er at *
  clear o3
  have HT := Lib.hid (nodeBox_facts (w := w4) nd ka kc aa ac kl al)
  have o5 := o4.nodeBox nd (.slice ka kl kc) (.slice aa al ac)
  have b5 := o5.box (g := w4.heap.size) (o := .cells (nd.cells (.slice ka kl kc) (.slice aa al ac)).toArray 46 (0, 0)) (by simp)
  have e0 : ((w4.alloc (.cells zcells 46)).setCells w4.heap.size 0 (nd.cells (.slice ka kl kc) (.slice aa al ac))).cell? ⟨w4.heap.size, 0, none⟩ = some (.int .i64 nd.kind) := by rw [cell_of_row _ _ _ _ _ _ b5]; rfl
  have E5 := Lib.hid (And.intro e0 (lt_of_block b5))
  clear b5 e0 o4
  by_cases hk2 : nd.kind = 2
  · have hke : (nd.kind == 2) = true := by simp [hk2]
    rw [if_pos hk2] at HLAW
    have HK2 := Lib.hid hk2
    clear hk2
    go_wp2_with ((with_reducible refine wpList_store_mid ?_ 46 (.tmp 11) (.tmp 29) ?_ w4.heap.size 0 (nd.cells (.slice ka kl kc) (.slice aa al ac)).toArray ?_ ?_ ?_ ?_ ?_ ?_); exact rfl; exact rfl; exact rfl; exact rfl; exact HT.out.1; exact sizeNode _ _ _; exact all_oneCell_toArray HT.out.2; generalize hw5 : World.setCells _ _ _ _ = w5 at o5 E5 ⊢; generalize hg4 : w4.heap.size = g4 at o5 E5 ⊢; clear hw5 hg4; have e0 := E5.out.1; have hlt5 := E5.out.2; clear E5)
    refine (Kids_ownE (ints_new1 o5 n) (b := b) (A := A) (by simp) HSH.out (y := A.kidsOf n) rfl).mono ?_
    rintro e w6 ⟨ap, cp, rfl, o6⟩
    generalize A.kidsOf n = P at *
    have o7 := (o6.swap.drop.swap.drop.rot3)
    have hPl : P.length ≤ 100000 := hKn
    clear o6 o5 e0 hlt5 hKn HT HK2 hke
    go_wp2_with fail
    refine (HR.out _ _ _ o7).mono ?_
    rintro e w7 ⟨rfl, o8⟩
    clear o7 HR
    by_cases hr : r = 0
    · have hre : (r != 0) = false := by simp [hr]
      obtain ⟨hBS, hBk, hBp⟩ := HLAW.out hr
      have HBS := Lib.hid hBS
      have HBK := Lib.hid hBk
      have HBP := Lib.hid hBp
      have HPL := Lib.hid (fun q => putsL_len (n := n) (c := c) hPl q)
      have HO0 := Lib.hid (ints_nil o8)
      clear hr hBS hBk hBp HLAW o8
      go_wp2
      go_loopw [14, 15] (fun v i wr => ∃ k : Nat, k ≤ L0.length ∧ i = .int .i64 k ∧ ∃ va vc, v = .slice va (putsL P n c (L0.take k)).length vc ∧ Hid (Own w w.heap.size [.ints (.slice va (putsL P n c (L0.take k)).length vc) (putsL P n c (L0.take k)), .arena b B, .ints (.slice ap P.length cp) P, .ints (.slice ak L0.length ck) L0] wr)) (fun _ i _ => L0.length - (intOf i).toNat)
      case atStart => exact ⟨0, Nat.zero_le _, rfl, none, 0, rfl, HO0⟩
      case round =>
        obtain ⟨k, hk, rfl, va, vc, rfl, hT⟩ := hrel
        clear HO0
        by_cases hlt : k < L0.length
        · obtain ⟨x, hx⟩ : ∃ x, L0[k]? = some x := ⟨_, List.getElem?_eq_getElem hlt⟩
          have hri : RInts wr (.slice ak L0.length ck) L0 := hT.out.ints (by simp)
          obtain ⟨b1, q1, rfl, -, hcs⟩ := hri.cells (by omega)
          have d1 := hcs k x hx
          have hsrc := ints_src (hT.out.ints (v := .slice ap P.length cp) (x := P) (by simp))
          have hle := HPL.out (L0.take k)
          have hlt2 : (L0.take k).length ≤ k := List.length_take_le _ _
          have hyl : (putsL P n c (L0.take k)).length ≤ 100001 * k := Nat.le_trans hle (Nat.mul_le_mul_left _ hlt2)
          have HTK := Lib.hid (putsL_take (P := P) (n := n) (c := c) hx)
          have hBW : w.heap.size ≤ wr.heap.size := hT.out.big
          clear hcs hri hx hle hlt2
          generalize putsL P n c (L0.take k) = ys at *
          have hown := hT.out.row (e := 3) (size := 1) (v := .slice va ys.length vc) (n := ys.length) (xs := ys.map intv) (by simp)
          by_cases hxc : x = c
          · have e1 : (x == c) = true := by simp [hxc]
            have HTE := Lib.hid (HTK.out.trans (by rw [if_pos hxc]))
            have HSRC := Lib.hid hsrc
            have HOWN := Lib.hid hown
            clear hxc HTK hsrc hown
            go_wp2_with (at_builtin; refine wpList_append_anyAt _ rfl _ _ 41 rfl w.heap.size 3 i0 _ 1 8 Tryz.underlying41 HII.out hz0 hz1 hz2 rfl (by decide) _ _ _ rfl HOWN.out ap P.length cp (P.map intv) rfl (by simp) HSRC.out.2.1 HSRC.out.2.2 (by intro u hu; obtain ⟨y, -, rfl⟩ := List.mem_map.1 hu; rfl) (by unfold maxLen; omega) (by omega) hBW ?_)
            intro v' w1 hg hgrow hat
            have o3 := hT.out.grow hg hgrow hat
            obtain ⟨va', vc', rfl⟩ := ownsForm hg
            have HK : Hid (Own w w.heap.size [.ints (.slice va' (ys ++ P).length vc') (ys ++ P), .arena b B, .ints (.slice ap P.length cp) P, .ints (.slice (some ⟨b1, q1, none⟩) L0.length ck) L0] w1) := Lib.hid (by
              unfold Asrt.ints
              rw [List.length_append, List.map_append]; exact o3)
            rw [show ys.length + P.length = (ys ++ P).length by simp]
            rw [← HTE.out] at HK ⊢
            clear o3 hg hgrow hat HSRC HOWN hT
            go_wp2
            go_roundw
            case rel => exact ⟨k + 1, hlt, by go_num, va', vc', rfl, HK⟩
            case measure => simp [intOf]; omega
          · have e1 : (x == c) = false := by simp [hxc]
            by_cases hxn : x = n
            · have e2 : (x != n) = false := by simp [hxn]
              have HTE := Lib.hid (HTK.out.trans (by rw [if_neg hxc, if_pos hxn, List.append_nil]))
              clear hxc hxn HTK hsrc hown
              go_wp2
              go_roundw
              case rel => exact ⟨k + 1, hlt, by go_num, va, vc, by rw [HTE.out], by rw [HTE.out]; exact hT⟩
              case measure => simp [intOf]; omega
            · have e2 : (x != n) = true := by simp [hxn]
              have HTE := Lib.hid (HTK.out.trans (by rw [if_neg hxc, if_neg hxn]))
              have HOWN := Lib.hid hown
              clear hxc hxn HTK hsrc hown
              go_wp2_with (at_builtin; refine wpList_append_own_at _ rfl _ _ 41 rfl w.heap.size 3 i0 _ 1 8 Tryz.underlying41 HII.out hz0 hz1 hz2 rfl (by decide) _ _ _ rfl (HOWN.out.alloc _) ⟨wr.heap.size, 0, none⟩ 1 1 [intv x] rfl rfl (by intro j u hj; rw [Addr.add_mid, Nat.zero_add]; exact cell_new' rfl (by simpa [intv] using hj)) (by intro u hu; simp at hu; subst hu; rfl) (by unfold maxLen; omega) (by omega) (by simp; omega) ?_)
              intro v' w1 hg hgrow _ hat
              have o3 := (((hT.out.alloc (.cells #[.int .i64 x] 3)).swap).grow hg hgrow (by simpa using hat)).swap.drop
              obtain ⟨va', vc', rfl⟩ := ownsForm hg
              have HK : Hid (Own w w.heap.size [.ints (.slice va' (ys ++ [x]).length vc') (ys ++ [x]), .arena b B, .ints (.slice ap P.length cp) P, .ints (.slice (some ⟨b1, q1, none⟩) L0.length ck) L0] w1) := Lib.hid (by
                unfold Asrt.ints
                rw [List.length_append, List.map_append]; exact o3)
              rw [show ys.length + 1 = (ys ++ [x]).length by simp]
              rw [← HTE.out] at HK ⊢
              clear o3 hg hgrow hat HOWN hT
              go_wp2
              go_roundw
              case rel => exact ⟨k + 1, hlt, by go_num, va', vc', rfl, HK⟩
              case measure => simp [intOf]; omega
        · have o9 := hT.out
          have hkl : k = L0.length := by omega
          rw [hkl, List.take_length] at o9
          rw [show L0.take k = L0 by rw [hkl, List.take_length]]
          clear hT hkl
          go_wp2_with fail
          refine (Kids_ownE o9 (b := b) (A := B) (by simp) HBS.out HBK.out).mono ?_
          rintro e w10 ⟨a10, c10, rfl, o10⟩
          clear o9
          go_wp2_with fail
          refine (SameInts_own o10 (x := putsL P n c L0) (y := putsL P n c L0) (by simp) (by simp)).mono ?_
          rintro e w11 ⟨rfl, o11⟩
          rw [show decide (putsL P n c L0 = putsL P n c L0) = true by simp]
          clear o10
          by_cases hnc : n = c
          · have e3 : (n == c) = true := by simp [hnc]
            clear hnc
            go_wp2_with fail
            refine (known5_any w11).mono ?_
            rintro e w12 ⟨rfl, hB12⟩
            have HX := Lib.hid (o11.back hB12)
            clear hB12 o11
            go_wp2
            go_ret
            exact ⟨rfl, HX.out⟩
          · have e3 : (n == c) = false := by simp [hnc]
            have HPP := Lib.hid (HBP.out.resolve_left hnc)
            clear hnc
            go_wp2_with fail
            refine (Parent_own o11 (b := b) (A := B) (by simp)).mono ?_
            rintro e w12 ⟨rfl, rfl⟩
            rw [HPP.out]
            go_wp2_with fail
            refine (known5_any w11).mono ?_
            rintro e w13 ⟨rfl, hB13⟩
            have HX := Lib.hid (o11.back hB13)
            clear hB13 o11
            go_wp2
            go_ret
            exact ⟨rfl, HX.out⟩
    · have hre : (r != 0) = true := by simp [hr]
      have HO := Lib.hid o8
      clear hr o8 HLAW
      go_wp2_with fail
      refine (known5_any w7).mono ?_
      rintro e w12 ⟨rfl, hB12⟩
      have HX := Lib.hid (HO.out.back hB12)
      clear hB12
      go_wp2
      go_ret
      exact ⟨rfl, HX.out⟩
  · have hke : (nd.kind == 2) = false := by simp [hk2]
    rw [if_neg hk2] at HLAW
    have HK2 := Lib.hid hk2
    clear hk2
    go_wp2_with ((with_reducible refine wpList_store_mid ?_ 46 (.tmp 11) (.tmp 29) ?_ w4.heap.size 0 (nd.cells (.slice ka kl kc) (.slice aa al ac)).toArray ?_ ?_ ?_ ?_ ?_ ?_); exact rfl; exact rfl; exact rfl; exact rfl; exact HT.out.1; exact sizeNode _ _ _; exact all_oneCell_toArray HT.out.2; generalize hw5 : World.setCells _ _ _ _ = w5 at o5 E5 ⊢; generalize hg4 : w4.heap.size = g4 at o5 E5 ⊢; clear hw5 hg4; have e0 := E5.out.1; have hlt5 := E5.out.2; clear E5)
    have o6 := ints_new1 o5 n
    obtain ⟨P, hP⟩ : ∃ P : List Int, P = [n] := ⟨_, rfl⟩
    have hPl : P.length ≤ 100000 := by rw [hP]; simp
    rw [← hP] at o6 HLAW
    obtain ⟨vp, hvp⟩ : ∃ vp : Value, vp = .slice (some ⟨w5.heap.size, 0, none⟩) 1 1 := ⟨_, rfl⟩
    rw [← hvp] at o6 ⊢
    obtain ⟨ap, cp, e, -⟩ := (o6.ints (v := vp) (x := P) (by simp)).form
    clear hvp hP
    subst e
    have o7 := (o6.swap.drop.rot3)
    clear o6 o5 e0 hlt5 hKn HT HK2 hke
    generalize w5.alloc _ = w6 at *
    refine (HR.out _ _ _ o7).mono ?_
    rintro e w7 ⟨rfl, o8⟩
    clear o7 HR
    by_cases hr : r = 0
    · have hre : (r != 0) = false := by simp [hr]
      obtain ⟨hBS, hBk, hBp⟩ := HLAW.out hr
      have HBS := Lib.hid hBS
      have HBK := Lib.hid hBk
      have HBP := Lib.hid hBp
      have HPL := Lib.hid (fun q => putsL_len (n := n) (c := c) hPl q)
      have HO0 := Lib.hid (ints_nil o8)
      clear hr hBS hBk hBp HLAW o8
      go_wp2
      go_loopw [14, 15] (fun v i wr => ∃ k : Nat, k ≤ L0.length ∧ i = .int .i64 k ∧ ∃ va vc, v = .slice va (putsL P n c (L0.take k)).length vc ∧ Hid (Own w w.heap.size [.ints (.slice va (putsL P n c (L0.take k)).length vc) (putsL P n c (L0.take k)), .arena b B, .ints (.slice ap P.length cp) P, .ints (.slice ak L0.length ck) L0] wr)) (fun _ i _ => L0.length - (intOf i).toNat)
      case atStart => exact ⟨0, Nat.zero_le _, rfl, none, 0, rfl, HO0⟩
      case round =>
        obtain ⟨k, hk, rfl, va, vc, rfl, hT⟩ := hrel
        clear HO0
        by_cases hlt : k < L0.length
        · obtain ⟨x, hx⟩ : ∃ x, L0[k]? = some x := ⟨_, List.getElem?_eq_getElem hlt⟩
          have hri : RInts wr (.slice ak L0.length ck) L0 := hT.out.ints (by simp)
          obtain ⟨b1, q1, rfl, -, hcs⟩ := hri.cells (by omega)
          have d1 := hcs k x hx
          have hsrc := ints_src (hT.out.ints (v := .slice ap P.length cp) (x := P) (by simp))
          have hle := HPL.out (L0.take k)
          have hlt2 : (L0.take k).length ≤ k := List.length_take_le _ _
          have hyl : (putsL P n c (L0.take k)).length ≤ 100001 * k := Nat.le_trans hle (Nat.mul_le_mul_left _ hlt2)
          have HTK := Lib.hid (putsL_take (P := P) (n := n) (c := c) hx)
          have hBW : w.heap.size ≤ wr.heap.size := hT.out.big
          clear hcs hri hx hle hlt2
          generalize putsL P n c (L0.take k) = ys at *
          have hown := hT.out.row (e := 3) (size := 1) (v := .slice va ys.length vc) (n := ys.length) (xs := ys.map intv) (by simp)
          by_cases hxc : x = c
          · have e1 : (x == c) = true := by simp [hxc]
            have HTE := Lib.hid (HTK.out.trans (by rw [if_pos hxc]))
            have HSRC := Lib.hid hsrc
            have HOWN := Lib.hid hown
            clear hxc HTK hsrc hown
            go_wp2_with (at_builtin; refine wpList_append_anyAt _ rfl _ _ 41 rfl w.heap.size 3 i0 _ 1 8 Tryz.underlying41 HII.out hz0 hz1 hz2 rfl (by decide) _ _ _ rfl HOWN.out ap P.length cp (P.map intv) rfl (by simp) HSRC.out.2.1 HSRC.out.2.2 (by intro u hu; obtain ⟨y, -, rfl⟩ := List.mem_map.1 hu; rfl) (by unfold maxLen; omega) (by omega) hBW ?_)
            intro v' w1 hg hgrow hat
            have o3 := hT.out.grow hg hgrow hat
            obtain ⟨va', vc', rfl⟩ := ownsForm hg
            have HK : Hid (Own w w.heap.size [.ints (.slice va' (ys ++ P).length vc') (ys ++ P), .arena b B, .ints (.slice ap P.length cp) P, .ints (.slice (some ⟨b1, q1, none⟩) L0.length ck) L0] w1) := Lib.hid (by
              unfold Asrt.ints
              rw [List.length_append, List.map_append]; exact o3)
            rw [show ys.length + P.length = (ys ++ P).length by simp]
            rw [← HTE.out] at HK ⊢
            clear o3 hg hgrow hat HSRC HOWN hT
            go_wp2
            go_roundw
            case rel => exact ⟨k + 1, hlt, by go_num, va', vc', rfl, HK⟩
            case measure => simp [intOf]; omega
          · have e1 : (x == c) = false := by simp [hxc]
            by_cases hxn : x = n
            · have e2 : (x != n) = false := by simp [hxn]
              have HTE := Lib.hid (HTK.out.trans (by rw [if_neg hxc, if_pos hxn, List.append_nil]))
              clear hxc hxn HTK hsrc hown
              go_wp2
              go_roundw
              case rel => exact ⟨k + 1, hlt, by go_num, va, vc, by rw [HTE.out], by rw [HTE.out]; exact hT⟩
              case measure => simp [intOf]; omega
            · have e2 : (x != n) = true := by simp [hxn]
              have HTE := Lib.hid (HTK.out.trans (by rw [if_neg hxc, if_neg hxn]))
              have HOWN := Lib.hid hown
              clear hxc hxn HTK hsrc hown
              go_wp2_with (at_builtin; refine wpList_append_own_at _ rfl _ _ 41 rfl w.heap.size 3 i0 _ 1 8 Tryz.underlying41 HII.out hz0 hz1 hz2 rfl (by decide) _ _ _ rfl (HOWN.out.alloc _) ⟨wr.heap.size, 0, none⟩ 1 1 [intv x] rfl rfl (by intro j u hj; rw [Addr.add_mid, Nat.zero_add]; exact cell_new' rfl (by simpa [intv] using hj)) (by intro u hu; simp at hu; subst hu; rfl) (by unfold maxLen; omega) (by omega) (by simp; omega) ?_)
              intro v' w1 hg hgrow _ hat
              have o3 := (((hT.out.alloc (.cells #[.int .i64 x] 3)).swap).grow hg hgrow (by simpa using hat)).swap.drop
              obtain ⟨va', vc', rfl⟩ := ownsForm hg
              have HK : Hid (Own w w.heap.size [.ints (.slice va' (ys ++ [x]).length vc') (ys ++ [x]), .arena b B, .ints (.slice ap P.length cp) P, .ints (.slice (some ⟨b1, q1, none⟩) L0.length ck) L0] w1) := Lib.hid (by
                unfold Asrt.ints
                rw [List.length_append, List.map_append]; exact o3)
              rw [show ys.length + 1 = (ys ++ [x]).length by simp]
              rw [← HTE.out] at HK ⊢
              clear o3 hg hgrow hat HOWN hT
              go_wp2
              go_roundw
              case rel => exact ⟨k + 1, hlt, by go_num, va', vc', rfl, HK⟩
              case measure => simp [intOf]; omega
        · have o9 := hT.out
          have hkl : k = L0.length := by omega
          rw [hkl, List.take_length] at o9
          rw [show L0.take k = L0 by rw [hkl, List.take_length]]
          clear hT hkl
          go_wp2_with fail
          refine (Kids_ownE o9 (b := b) (A := B) (by simp) HBS.out HBK.out).mono ?_
          rintro e w10 ⟨a10, c10, rfl, o10⟩
          clear o9
          go_wp2_with fail
          refine (SameInts_own o10 (x := putsL P n c L0) (y := putsL P n c L0) (by simp) (by simp)).mono ?_
          rintro e w11 ⟨rfl, o11⟩
          rw [show decide (putsL P n c L0 = putsL P n c L0) = true by simp]
          clear o10
          by_cases hnc : n = c
          · have e3 : (n == c) = true := by simp [hnc]
            clear hnc
            go_wp2_with fail
            refine (known5_any w11).mono ?_
            rintro e w12 ⟨rfl, hB12⟩
            have HX := Lib.hid (o11.back hB12)
            clear hB12 o11
            go_wp2
            go_ret
            exact ⟨rfl, HX.out⟩
          · have e3 : (n == c) = false := by simp [hnc]
            have HPP := Lib.hid (HBP.out.resolve_left hnc)
            clear hnc
            go_wp2_with fail
            refine (Parent_own o11 (b := b) (A := B) (by simp)).mono ?_
            rintro e w12 ⟨rfl, rfl⟩
            rw [HPP.out]
            go_wp2_with fail
            refine (known5_any w11).mono ?_
            rintro e w13 ⟨rfl, hB13⟩
            have HX := Lib.hid (o11.back hB13)
            clear hB13 o11
            go_wp2
            go_ret
            exact ⟨rfl, HX.out⟩
    · have hre : (r != 0) = true := by simp [hr]
      have HO := Lib.hid o8
      clear hr o8 HLAW
      go_wp2_with fail
      refine (known5_any w7).mono ?_
      rintro e w12 ⟨rfl, hB12⟩
      have HX := Lib.hid (HO.out.back hB12)
      clear hB12
      go_wp2
      go_ret
      exact ⟨rfl, HX.out⟩

/-- **DomReplaces: the walk.** -/
theorem DomReplaces_any (v0 : Value) (l : List OpD) (p n c : Int) (w : World) (hv : ROps w v0 l) :
    Calls Tryz.prog 4 #[v0, .int .i64 p, .int .i64 n, .int .i64 c] w fun e w' => e = .returned (.bool true) ∧ Below w.heap.size w w' := by
  by_cases hs : small5 l 100
  · exact DomReplaces_some v0 l p n c w hv hs
  · exact DomReplaces_no v0 l p n c w hv hs

end Go.Proofs.YtpicinjcmjaogaaGreat
