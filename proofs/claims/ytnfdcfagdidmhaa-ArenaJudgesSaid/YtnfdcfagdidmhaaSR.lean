/-
  The document's Sound. (Printed by gensr.py.)
-/
import Derived.Test.YtnfdcfagdidmhaaSO
import Derived.Test.YtnfdcfagdidmhaaR7
namespace Go.Proofs.Ytnfdcfagdidmhaa
open Go.RowKit Classical
set_option linter.unusedVariables false

theorem NodeF.at {w : World} {nb o : Nat} {n : Nd} {kv av : Value} (F : NodeF w nb o n kv av) : ∀ (r : Nat) (u : Value), (n.cells kv av)[r]? = some u → w.cell? ⟨nb, o + r, none⟩ = some u
  | 0, u, h => by simp [Nd.cells] at h; rw [← h]; exact F.c0
  | 1, u, h => by simp [Nd.cells] at h; rw [← h]; exact F.c1
  | 2, u, h => by simp [Nd.cells] at h; rw [← h]; exact F.c2
  | 3, u, h => by simp [Nd.cells] at h; rw [← h]; exact F.c3
  | 4, u, h => by simp [Nd.cells] at h; rw [← h]; exact F.c4
  | 5, u, h => by simp [Nd.cells] at h; rw [← h]; exact F.c5
  | 6, u, h => by simp [Nd.cells] at h; rw [← h]; exact F.c6
  | 7, u, h => by simp [Nd.cells] at h; rw [← h]; exact F.c7
  | 8, u, h => by simp [Nd.cells] at h; rw [← h]; exact F.c8
  | 9, u, h => by simp [Nd.cells] at h; rw [← h]; exact F.c9
  | 10, u, h => by simp [Nd.cells] at h; rw [← h]; exact F.c10
  | 11, u, h => by simp [Nd.cells] at h; rw [← h]; exact F.c11
  | 12, u, h => by simp [Nd.cells] at h; rw [← h]; exact F.c12
  | r + 13, u, h => by simp [Nd.cells] at h

theorem exists_rows {P : Nat → List Value → Prop} : ∀ {n : Nat}, (∀ i, i < n → ∃ r, P i r) → ∃ rows : List (List Value), rows.length = n ∧ ∀ i, i < n → ∃ r, rows[i]? = some r ∧ P i r
  | 0, _ => ⟨[], rfl, fun i hi => by omega⟩
  | n + 1, h => by
    obtain ⟨rows, h1, h2⟩ := exists_rows (n := n) (P := P) (fun i hi => h i (Nat.lt_succ_of_lt hi))
    obtain ⟨r, hr⟩ := h n (by omega)
    refine ⟨rows ++ [r], by simp [h1], fun i hi => ?_⟩
    by_cases hin : i < n
    · obtain ⟨r', e, hp⟩ := h2 i hin
      exact ⟨r', by rw [List.getElem?_append_left (by omega)]; exact e, hp⟩
    · have : i = n := by omega
      subst this
      exact ⟨r, by rw [List.getElem?_append_right (by omega), h1]; simp, hr⟩

/-- The cells of a slice of descriptions. -/
theorem RNodes.rows {w : World} {a : Option Addr} {n c : Nat} {ns : List Nd} (h : RNodes w (.slice a n c) ns) (hp : 0 < ns.length) : ∃ (b o : Nat) (rows : List (List Value)), a = some ⟨b, o, none⟩ ∧ n = ns.length ∧ rows.length = ns.length ∧
    (∀ (i : Nat) (m : Nd), ns[i]? = some m → ∃ ka kc aa ac, rows[i]? = some (m.cells (.slice ka m.kids.length kc) (.slice aa m.attrs.length ac)) ∧ RInts w (.slice ka m.kids.length kc) m.kids ∧ RAttrs w (.slice aa m.attrs.length ac) m.attrs) ∧
    (∀ (j : Nat) (u : Value), rows.flatten[j]? = some u → w.cell? ⟨b, o + j, none⟩ = some u) ∧ ∀ r ∈ rows, r.length = 13 := by
  obtain ⟨b, o, rfl, rfl, h1⟩ := h.at hp
  obtain ⟨rows, hl, hr⟩ := exists_rows (n := ns.length) (P := fun i r => ∀ m : Nd, ns[i]? = some m → ∃ ka kc aa ac, r = m.cells (.slice ka m.kids.length kc) (.slice aa m.attrs.length ac) ∧ NodeF w b (o + i * 13) m (.slice ka m.kids.length kc) (.slice aa m.attrs.length ac) ∧ RInts w (.slice ka m.kids.length kc) m.kids ∧ RAttrs w (.slice aa m.attrs.length ac) m.attrs) (fun i hi => by
    obtain ⟨kv, av, F, hK, hA⟩ := h1 i _ (List.getElem?_eq_getElem hi)
    obtain ⟨ka, kc, rfl, -⟩ := hK.form
    obtain ⟨aa, ac, rfl, -⟩ := hA.form
    refine ⟨(ns[i]'hi).cells (.slice ka (ns[i]'hi).kids.length kc) (.slice aa (ns[i]'hi).attrs.length ac), fun m hm => ?_⟩
    rw [List.getElem?_eq_getElem hi] at hm
    injection hm with hm
    subst hm
    exact ⟨ka, kc, aa, ac, rfl, F, hK, hA⟩)
  have h13 : ∀ r ∈ rows, r.length = 13 := by
    intro r hr'
    obtain ⟨i, hi, rfl⟩ := List.getElem_of_mem hr'
    obtain ⟨r', e, hp'⟩ := hr i (by omega)
    rw [List.getElem?_eq_getElem hi] at e
    injection e with e
    obtain ⟨ka, kc, aa, ac, e2, -⟩ := hp' _ (List.getElem?_eq_getElem (by omega : i < ns.length))
    rw [e, e2]; rfl
  refine ⟨b, o, rows, rfl, rfl, hl, fun i m hm => ?_, fun j u hj => ?_, h13⟩
  · obtain ⟨r, e, hp'⟩ := hr i (List.getElem?_eq_some_iff.1 hm).1
    obtain ⟨ka, kc, aa, ac, e2, -, hK, hA⟩ := hp' m hm
    exact ⟨ka, kc, aa, ac, by rw [e, e2], hK, hA⟩
  · have hj' : j = 13 * (j / 13) + j % 13 := by omega
    rw [hj', flatten_get h13 _ _ (by omega)] at hj
    cases hrow : rows[j / 13]? with
    | none => rw [hrow] at hj; simp at hj
    | some r =>
      rw [hrow, Option.bind_some] at hj
      have hi : j / 13 < ns.length := by rw [← hl]; exact (List.getElem?_eq_some_iff.1 hrow).1
      obtain ⟨r', e, hp'⟩ := hr _ hi
      rw [hrow] at e
      injection e with e
      subst e
      obtain ⟨ka, kc, aa, ac, e2, F, -⟩ := hp' _ (List.getElem?_eq_getElem hi)
      rw [e2] at hj
      have := F.at _ _ hj
      rw [show o + j = o + j / 13 * 13 + j % 13 by omega]
      exact this

/-- The list behind a first, empty description. -/
theorem RN.made {w w' : World} {base g cap bb : Nat} {e : TypeId} {ns : List Nd} {zc : List Value} {rows : List (List Value)} {I : List Int}
    (hrow : w'.ownsRow base e 13 (.slice (some ⟨g, 0, none⟩) (ns.length + 1) cap) (ns.length + 1) (zc ++ rows.flatten)) (hz : zc.length = 13) (hB : Below w.heap.size w w')
    (hl : rows.length = ns.length) (h13 : ∀ r ∈ rows, r.length = 13)
    (hr : ∀ (i : Nat) (m : Nd), ns[i]? = some m → ∃ ka kc aa ac, rows[i]? = some (m.cells (.slice ka m.kids.length kc) (.slice aa m.attrs.length ac)) ∧ RInts w (.slice ka m.kids.length kc) m.kids ∧ RAttrs w (.slice aa m.attrs.length ac) m.attrs)
    (hbb : w'.cell? ⟨bb, 0, none⟩ = some (.slice (some ⟨g, 0, none⟩) (ns.length + 1) cap)) : RN w' bb ⟨ns, I⟩ := by
  obtain ⟨hc1, hc2⟩ : ns.length + 1 ≤ cap ∧ cap ≤ maxLen := by
    rcases hrow.2 with ⟨hh, -⟩ | ⟨g', cap', cur, hh, -, -, hn, hc, -⟩
    · simp at hh
    · injection hh with q1 q2 q3; subst q3; exact ⟨hn, hc⟩
  refine ⟨g, 0, cap, hbb, hc1, by unfold maxLen at hc2; omega, fun x hx => ⟨hx.1, hx.2, ?_⟩⟩
  have hx1 := hx.1
  have hx2 : x ≤ (ns.length : Int) := hx.2
  have hi : x.toNat - 1 < ns.length := by omega
  obtain ⟨ka, kc, aa, ac, e1, hK, hA⟩ := hr (x.toNat - 1) _ (List.getElem?_eq_getElem hi)
  have hg : Ar.get ⟨ns, I⟩ x = ns[x.toNat - 1] := by
    show (ns[x.toNat - 1]?).getD zeroNd = _
    rw [List.getElem?_eq_getElem hi]; rfl
  rw [hg]
  have key : ∀ (r : Nat) (u : Value), r < 13 → (Nd.cells (ns[x.toNat - 1]) (.slice ka _ kc) (.slice aa _ ac))[r]? = some u → w'.cell? ⟨g, 0 + x.toNat * 13 + r, none⟩ = some u := fun r u hr13 hu => by
    rw [Nat.zero_add, hrow.cellAt (x.toNat * 13 + r) (by omega), List.getElem?_append_right (by omega), hz, show x.toNat * 13 + r - 13 = 13 * (x.toNat - 1) + r by omega, flatten_get h13 _ _ hr13, e1, Option.bind_some]
    exact hu
  exact ⟨_, _, ⟨key 0 _ (by omega) rfl, key 1 _ (by omega) rfl, key 2 _ (by omega) rfl, key 3 _ (by omega) rfl, key 4 _ (by omega) rfl, key 5 _ (by omega) rfl, key 6 _ (by omega) rfl, key 7 _ (by omega) rfl, key 8 _ (by omega) rfl, key 9 _ (by omega) rfl, key 10 _ (by omega) rfl, key 11 _ (by omega) rfl, key 12 _ (by omega) rfl⟩, hK.below hB, hA.below hB⟩

/-- 'append' of a slice that may be nil. -/
theorem wpList_append_any {P : Program} (w : World) {ops : Array Oper} {rest : List Oper} {o : Oper} {a : Act} {Q : Exit → Act → World → Prop} (hgd : o.guard = none) (s x : Operand) (t : TypeId)
    (ho : o.op = .call { callee := .builtin .append, args := #[s, x], argTypes := #[t, t] })
    (base : Nat) (e : TypeId) (i : TypeInfo) (z : Value) (size bytes : Nat) (ht : P.underlying t = some (.slice e)) (hi : P.info? e = some i) (hz : i.zero = some z)
    (hsize : i.size = size) (hby : i.bytes = bytes) (hzs : z.cells.size = size) (hsz : 0 < size)
    (v : Value) (n : Nat) (xs : List Value) (hs : a.eval s = v) (hown : w.ownsRow base e size v n xs)
    (ao : Option Addr) (m c : Nat) (news : List Value) (hx : a.eval x = .slice ao m c) (hl : news.length = m * size) (hnews : ∀ ad, ao = some ad → ∀ j u, news[j]? = some u → w.cell? (ad.add j) = some u) (hnone : ao = none → m = 0) (h1 : ∀ u ∈ news, u.oneCell' = true)
    (h63 : n + m ≤ maxLen) (hbytes : (n + m) * bytes ≤ 140737488355328) (hbase : base ≤ w.heap.size)
    (h : ∀ v' w', w'.ownsRow base e size v' (n + m) (xs ++ news) → w.grownBy w' v.ownBlock → wpList P ops Q rest (a.put o.dst v') w') : wpList P ops Q (o :: rest) a w := by
  cases ao with
  | some ad => exact wpList_append_own w hgd s x t ho base e i z size bytes ht hi hz hsize hby hzs hsz v n xs hs hown ad m c news hx hl (hnews ad rfl) h1 h63 hbytes hbase (fun v' w' h1 h2 _ => h v' w' h1 h2)
  | none =>
    obtain rfl := hnone rfl
    have hn : news = [] := List.eq_nil_of_length_eq_zero (by rw [hl, Nat.zero_mul])
    subst hn
    have hrun : (Builtin.append_ #[t, t] o.type #[v, .slice none 0 c]).run P w = .ok v w := by
      rcases hown.2 with ⟨rfl, rfl⟩ | ⟨g, cap, cur, rfl, _, _, hnc, _⟩
      · simp [Builtin.append_, run_underlying ht, sizeOf, typeInfo, hi, Builtin.lenOf, Builtin.firstCells]
      · simp [Builtin.append_, run_underlying ht, sizeOf, typeInfo, hi, Builtin.lenOf, Builtin.firstCells, hnc, storeCells]
    refine wpList_plain hgd fun K hK => ?_
    unfold Oper.wp
    simp [execOp, ho, resolve, invoke, builtin, hs, hx, hrun, Result.andThen]
    exact hK _ _ (h v w (by simpa using hown) (World.grownBy.refl w _))

/-- The cells of a slice of descriptions, which may be nil or empty. -/
theorem RNodes.rowsA {w : World} {a : Option Addr} {n c : Nat} {ns : List Nd} (h : RNodes w (.slice a n c) ns) : ∃ (rows : List (List Value)), rows.length = ns.length ∧
    (∀ (i : Nat) (m : Nd), ns[i]? = some m → ∃ ka kc aa ac, rows[i]? = some (m.cells (.slice ka m.kids.length kc) (.slice aa m.attrs.length ac)) ∧ RInts w (.slice ka m.kids.length kc) m.kids ∧ RAttrs w (.slice aa m.attrs.length ac) m.attrs) ∧
    (∀ ad, a = some ad → ∀ (j : Nat) (u : Value), rows.flatten[j]? = some u → w.cell? (ad.add j) = some u) ∧ (∀ r ∈ rows, r.length = 13) ∧ (a = none → ns.length = 0) := by
  by_cases hp : 0 < ns.length
  · obtain ⟨b, o, rows, rfl, -, h1, h2, h3, h4⟩ := h.rows hp
    exact ⟨rows, h1, h2, fun ad e j u hj => by injection e with e; subst e; rw [Addr.add_mid]; exact h3 j u hj, h4, fun e => by simp at e⟩
  · have h0 : ns = [] := List.eq_nil_of_length_eq_zero (by omega)
    subst h0
    exact ⟨[], rfl, fun i m hm => by simp at hm, fun ad e j u hj => by simp at hj, fun r hr => by simp at hr, fun _ => rfl⟩

def Ar.fieldP (A : Ar) (h : Int) : Prop := unusedP (A.get h) ∧ inSpaces (A.get h).space ∧ attrSpaces (A.get h).attrs ∧ (onceL (A.get h).attrs).length = (A.get h).attrs.length
theorem owns_at {w : World} {base : Nat} {e : TypeId} {size : Nat} {v : Value} {n : Nat} {xs : List Value} (h : w.ownsRow base e size v (n + 1) xs) (hs : 0 < size) : ∃ g c, v = .slice (some ⟨g, 0, none⟩) (n + 1) c := by
  rcases h.2 with ⟨rfl, h0⟩ | ⟨g, cap, cur, rfl, -⟩
  · omega
  · exact ⟨g, cap, rfl⟩

set_option maxRecDepth 100000 in
set_option maxHeartbeats 8000000 in
theorem RSound_any (A : Ar) (v : Value) (w : World) (hv : RNodes w v A.ns) (hs : A.ns.length ≤ 100000) (hat : ∀ n ∈ A.ns, n.attrs.length ≤ 1000000) :
    Calls Try.prog 36 #[v] w fun e w' => e = .returned (.bool (decide (A.SoundP))) ∧ Below w.heap.size w w' := by
  obtain ⟨i0, hi, hz0, hz1, hz2⟩ := info_parts infoANode
  have m46 := fun W : World => run_make (P := Try.prog) W 46 36 i0 _ Try.underlying46 hi hz0 .i64 .i64 1 1 (by omega) (by omega) (by rw [hz2]; omega) (by omega)
  rw [hz1] at m46
  have eN : madeCells (Value.agg #[.int .i64 0, .int .i64 0, .slice none 0 0, .int .i64 0, .int .i64 0, .string ByteArray.empty, .slice none 0 0, .string ByteArray.empty, .string ByteArray.empty, .string ByteArray.empty, .bool false, .int .i64 0, .int .i64 0]).cells ((1 : Int).toNat * 13) = (zeroNd.cells (.slice none 0 0) (.slice none 0 0)).toArray := by kernel_rfl
  rw [eN] at m46
  simp only [show (1 : Int).toNat = 1 from rfl] at m46
  have HIF := Lib.hid hi
  clear eN hi
  have HV := Lib.hid hv
  have HAT := Lib.hid hat
  obtain ⟨a, c, rfl, p1, p2, -⟩ := hv
  clear hat
  have HOWN := Lib.hid (World.ownsRow_lit (base := w.heap.size) (e := 36) (size := 13) w (zeroNd.cells (.slice none 0 0) (.slice none 0 0)).toArray 1 (Nat.le_refl _) (by unfold maxLen; omega) rfl)
  have HB0 := Lib.hid (below_alloc w (.cells (zeroNd.cells (.slice none 0 0) (.slice none 0 0)).toArray 36))
  unfold Nd.cells at m46
  go_enter Try.func36, Try.ntmps36
  go_upto_region 1 with fail
  go_cut [3] from 7 to 11 (fun p wx => ∃ bb, p = .pointer (some ⟨bb, 0, none⟩) ∧ Hid (RN wx bb A ∧ Below w.heap.size w wx))
  case first =>
    obtain ⟨rows, hl, hr, hcl, h13, hnn⟩ := HV.out.rowsA
    have hfl : rows.flatten.length = A.ns.length * 13 := by
      rw [← hl]
      clear hr hcl hl
      induction rows with
      | nil => rfl
      | cons r rs ih => rw [List.flatten_cons, List.length_append, h13 r (by simp), ih (fun r' hr' => h13 r' (by simp [hr'])), List.length_cons]; omega
    have hone : ∀ u ∈ rows.flatten, u.oneCell' = true := by
      intro u hu
      rw [List.mem_flatten] at hu
      obtain ⟨r, hr1, hr2⟩ := hu
      obtain ⟨i, hi, rfl⟩ := List.getElem_of_mem hr1
      obtain ⟨ka, kc, aa, ac, e1, -⟩ := hr i _ (List.getElem?_eq_getElem (by omega : i < A.ns.length))
      rw [List.getElem?_eq_getElem hi] at e1
      injection e1 with e1
      rw [e1] at hr2
      exact cellsOneCell _ _ _ rfl rfl u hr2
    obtain ⟨fl, hfe⟩ : ∃ fl, fl = rows.flatten := ⟨_, rfl⟩
    rw [← hfe] at hcl hfl hone
    have HR := Lib.hid (And.intro hl (And.intro hr (And.intro hcl (And.intro h13 (And.intro hfl (And.intro hone (And.intro hfe hnn)))))))
    clear hl hr hcl h13 hfl hone hfe hnn
    unfold Nd.cells at HOWN HB0
    go_wp2_with (at_builtin; refine wpList_append_any _ rfl _ _ 46 rfl w.heap.size 36 i0 _ 13 168 Try.underlying46 HIF.out hz0 hz1 hz2 rfl (by decide) _ _ _ rfl HOWN.out a A.ns.length c fl rfl ?c1 ?c2 ?c3 ?c4 ?c5 ?c6 ?c7 ?_)
    case c1 => exact HR.out.2.2.2.2.1
    case c2 => intro ad e j u hj; exact Below.old HB0.out (HR.out.2.2.1 ad e j u hj)
    case c3 => exact fun e => List.eq_nil_of_length_eq_zero (HR.out.2.2.2.2.2.2.2 e)
    case c4 => exact HR.out.2.2.2.2.2.1
    case c5 => unfold maxLen; omega
    case c6 => omega
    intro v' w1 hown hgrow
    rw [show 1 + A.ns.length = A.ns.length + 1 from Nat.add_comm _ _] at hown
    obtain ⟨g, cc, rfl⟩ := owns_at hown (by omega)
    have HG := Lib.hid (And.intro hown hgrow)
    clear hown hgrow
    go_wp2_with fail
    go_meet
    have hB1 : Below w.heap.size w (w1.alloc (.cells #[.slice (some ⟨g, 0, none⟩) (A.ns.length + 1) cc, .slice none 0 0] 65)) :=
      (HB0.out.grown HG.out.2 (by simp) (fun k hk => by simp [Value.ownBlock] at hk; omega)).alloc (by have := HG.out.2.size; simp at this; omega) _
    obtain ⟨q1, q2, q3, q4, q5, q6, q7, q8⟩ := HR.out
    have ho := (HG.out.1).alloc (.cells #[.slice (some ⟨g, 0, none⟩) (A.ns.length + 1) cc, .slice none 0 0] 65)
    rw [q7] at ho
    exact ⟨_, rfl, Lib.hid ⟨RN.made (w := w) (ns := A.ns) (I := A.inert) (zc := zeroNd.cells (.slice none 0 0) (.slice none 0 0)) (rows := rows) ho rfl hB1 q1 q4 q2 (cell_new' rfl rfl), hB1⟩⟩
  case rest =>
    obtain ⟨bb, rfl, hR0⟩ := hcut
    obtain ⟨W0, hw0⟩ : ∃ W0, W0 = wc := ⟨_, rfl⟩
    subst hw0
    have HR0 := Lib.hid hR0.out.1
    have HBW := Lib.hid hR0.out.2
    have HAT2 := Lib.hid (show ∀ x, A.has x → (A.get x).attrs.length ≤ 1000000 from fun x hx => by
      obtain ⟨hi, e⟩ := Ar.get_of hx
      rw [e]
      exact HAT.out _ (List.getElem_mem hi))
    clear hR0 m46 HIF hz0 hz1 hz2 HOWN HB0 HAT HV p1 p2
    go_wp2
    go_loopw [4] (fun i wr => ∃ k : Nat, 1 ≤ k ∧ k ≤ A.ns.length + 1 ∧ i = .int .i64 k ∧ Hid (∀ x, A.has x → x < (k : Int) → A.refP x) ∧ Hid (Below w.heap.size w wr) ∧ Hid (RN wr bb A)) (fun i _ => A.ns.length + 1 - (intOf i).toNat)
    case atStart => exact ⟨1, by omega, by omega, rfl, Lib.hid (fun x hx hx1 => by have := hx.1; omega), HBW, HR0⟩
    case round =>
      clear HBW HR0
      obtain ⟨k, hk1, hk, rfl, hT, HBW, HR0⟩ := hrel
      obtain ⟨nb, o, c', r0, r1, r2, r3⟩ := HR0.out
      by_cases hlt : k < A.ns.length + 1
      · have hh : A.has (k : Int) := ⟨by omega, by unfold Ar.n; omega⟩
        have hltd : decide ((k : Int) < (A.ns.length : Int) + 1) = true := by simp; omega
        obtain ⟨-, -, kv, av, F, hK, hAt⟩ := r3 _ hh
        have HK := Lib.hid (And.intro hK hAt)
        have HHH := Lib.hid hh
        have HON := Lib.hid (fun W (hW : Below wr.heap.size wr W) => ROnce_any av (A.get (k : Int)).attrs W (hAt.below hW) (HAT2.out _ hh))
        obtain ⟨ka, kc, rfl, kl1, kl2, -⟩ := hK.form
        obtain ⟨aa, ac, rfl, al1, al2, -⟩ := hAt.form
        simp only [Int.toNat_natCast] at F
        have c0 := F.c0; have c1 := F.c1; have c2 := F.c2; have c3 := F.c3; have c4 := F.c4; have c5 := F.c5; have c6 := F.c6; have c7 := F.c7; have c8 := F.c8; have c9 := F.c9; have c10 := F.c10; have c11 := F.c11; have c12 := F.c12
        have HBX := Lib.hid (nodeBoxF wr (A.get (k : Int)) (.slice ka (A.get (k : Int)).kids.length kc) (.slice aa (A.get (k : Int)).attrs.length ac))
        have HT := Lib.hid (nodeBox_facts (w := wr) (A.get (k : Int)) ka kc aa ac (A.get (k : Int)).kids.length (A.get (k : Int)).attrs.length)
        clear F hK hAt r3 hh
        go_wp2_with ((with_reducible refine wpList_store_mid ?_ 36 (.tmp 5) (.tmp 27) ?_ wr.heap.size 0 ((A.get (k : Int)).cells (.slice ka (A.get (k : Int)).kids.length kc) (.slice aa (A.get (k : Int)).attrs.length ac)).toArray ?_ ?_ ?_ ?_ ?_ ?_); exact rfl; exact rfl; exact rfl; exact rfl; exact HT.out.1; exact sizeNode _ _ _; exact all_oneCell_toArray HT.out.2; generalize hWW : World.setCells _ _ _ _ = W at HBX ⊢; clear hWW c0 c1 c2 c3 c4 c5 c6 c7 c8 c9 c10 c11 c12 HT r0)
        have HBB := Lib.hid HBX.out.2
        have HN0 := Lib.hid HBX.out.1
        clear HBX
        simp only [Act.put]
        go_cut [52] from 28 to 52 (fun v wx => v = .bool (decide (¬ A.fieldP k)) ∧ Hid (Below W.heap.size W wx))
        case first =>
          by_cases hu : unusedP (A.get (k : Int))
          case neg =>
            have HU1 := Lib.hid (fun x : Wld W => (Unused_any (A.get (k : Int)) (.slice ka (A.get (k : Int)).kids.length kc) (.slice aa (A.get (k : Int)).attrs.length ac) x.val (HK.out.1.below (HBB.out.trans (x.2.mono HBB.out.size))) (HK.out.2.below (HBB.out.trans (x.2.mono HBB.out.size)))).mono (fun e w' hh => show e = .returned (.bool false) ∧ _ from ⟨by rw [hh.1, decide_eq_false hu], hh.2⟩))
            have HN := Lib.hid (show decide (¬ A.fieldP k) = true from decide_eq_true (fun q => hu q.1))
            clear hu
            have x0 := Wld.cell (w := W) HN0.out.c0; have x1 := Wld.cell (w := W) HN0.out.c1; have x2 := Wld.cell (w := W) HN0.out.c2; have x3 := Wld.cell (w := W) HN0.out.c3; have x4 := Wld.cell (w := W) HN0.out.c4; have x5 := Wld.cell (w := W) HN0.out.c5; have x6 := Wld.cell (w := W) HN0.out.c6; have x7 := Wld.cell (w := W) HN0.out.c7; have x8 := Wld.cell (w := W) HN0.out.c8; have x9 := Wld.cell (w := W) HN0.out.c9; have x10 := Wld.cell (w := W) HN0.out.c10; have x11 := Wld.cell (w := W) HN0.out.c11; have x12 := Wld.cell (w := W) HN0.out.c12
            simp only [Nat.zero_add] at x0 x1 x2 x3 x4 x5 x6 x7 x8 x9 x10 x11 x12
            unfold Nd.cells at HU1
            refine wp_region_below_lit (by kernel_rfl) (by kernel_rfl) ?_
            repeat (go_big_quiet_step (first | (go_at_call 93; exact Wld.call (HU1.out _)) | (go_at_call 94; exact Wld.same (HS1.out _)) | (go_at_call 85; exact Wld.same (HA1.out _))))
            refine wpQuiet_nil ?_
            rintro _ ⟨⟨W9, hW9⟩, rfl⟩
            go_wp2_with fail
            go_meet
            exact ⟨by rw [HN.out], hW9⟩
          case pos =>
          have HU1 := Lib.hid (fun x : Wld W => (Unused_any (A.get (k : Int)) (.slice ka (A.get (k : Int)).kids.length kc) (.slice aa (A.get (k : Int)).attrs.length ac) x.val (HK.out.1.below (HBB.out.trans (x.2.mono HBB.out.size))) (HK.out.2.below (HBB.out.trans (x.2.mono HBB.out.size)))).mono (fun e w' hh => show e = .returned (.bool true) ∧ _ from ⟨by rw [hh.1, decide_eq_true hu], hh.2⟩))
          by_cases hsp : inSpaces (A.get (k : Int)).space
          case neg =>
            have HS1 := Lib.hid (fun x : Wld W => (InSpaces_any (A.get (k : Int)).space x.val).mono (fun e w' hh => show e = .returned (.bool false) ∧ _ from ⟨by rw [hh.1, decide_eq_false hsp], hh.2⟩))
            have HN := Lib.hid (show decide (¬ A.fieldP k) = true from decide_eq_true (fun q => hsp q.2.1))
            clear hu hsp
            have x0 := Wld.cell (w := W) HN0.out.c0; have x1 := Wld.cell (w := W) HN0.out.c1; have x2 := Wld.cell (w := W) HN0.out.c2; have x3 := Wld.cell (w := W) HN0.out.c3; have x4 := Wld.cell (w := W) HN0.out.c4; have x5 := Wld.cell (w := W) HN0.out.c5; have x6 := Wld.cell (w := W) HN0.out.c6; have x7 := Wld.cell (w := W) HN0.out.c7; have x8 := Wld.cell (w := W) HN0.out.c8; have x9 := Wld.cell (w := W) HN0.out.c9; have x10 := Wld.cell (w := W) HN0.out.c10; have x11 := Wld.cell (w := W) HN0.out.c11; have x12 := Wld.cell (w := W) HN0.out.c12
            simp only [Nat.zero_add] at x0 x1 x2 x3 x4 x5 x6 x7 x8 x9 x10 x11 x12
            unfold Nd.cells at HU1
            refine wp_region_below_lit (by kernel_rfl) (by kernel_rfl) ?_
            repeat (go_big_quiet_step (first | (go_at_call 93; exact Wld.call (HU1.out _)) | (go_at_call 94; exact Wld.same (HS1.out _)) | (go_at_call 85; exact Wld.same (HA1.out _))))
            refine wpQuiet_nil ?_
            rintro _ ⟨⟨W9, hW9⟩, rfl⟩
            go_wp2_with fail
            go_meet
            exact ⟨by rw [HN.out], hW9⟩
          case pos =>
          have HS1 := Lib.hid (fun x : Wld W => (InSpaces_any (A.get (k : Int)).space x.val).mono (fun e w' hh => show e = .returned (.bool true) ∧ _ from ⟨by rw [hh.1, decide_eq_true hsp], hh.2⟩))
          by_cases hasp : attrSpaces (A.get (k : Int)).attrs
          case neg =>
            have HA1 := Lib.hid (fun x : Wld W => (AttrSpaces_any (.slice aa (A.get (k : Int)).attrs.length ac) (A.get (k : Int)).attrs x.val (HK.out.2.below (HBB.out.trans (x.2.mono HBB.out.size)))).mono (fun e w' hh => show e = .returned (.bool false) ∧ _ from ⟨by rw [hh.1, decide_eq_false hasp], hh.2⟩))
            have HN := Lib.hid (show decide (¬ A.fieldP k) = true from decide_eq_true (fun q => hasp q.2.2.1))
            clear hu hsp hasp
            have x0 := Wld.cell (w := W) HN0.out.c0; have x1 := Wld.cell (w := W) HN0.out.c1; have x2 := Wld.cell (w := W) HN0.out.c2; have x3 := Wld.cell (w := W) HN0.out.c3; have x4 := Wld.cell (w := W) HN0.out.c4; have x5 := Wld.cell (w := W) HN0.out.c5; have x6 := Wld.cell (w := W) HN0.out.c6; have x7 := Wld.cell (w := W) HN0.out.c7; have x8 := Wld.cell (w := W) HN0.out.c8; have x9 := Wld.cell (w := W) HN0.out.c9; have x10 := Wld.cell (w := W) HN0.out.c10; have x11 := Wld.cell (w := W) HN0.out.c11; have x12 := Wld.cell (w := W) HN0.out.c12
            simp only [Nat.zero_add] at x0 x1 x2 x3 x4 x5 x6 x7 x8 x9 x10 x11 x12
            unfold Nd.cells at HU1
            refine wp_region_below_lit (by kernel_rfl) (by kernel_rfl) ?_
            repeat (go_big_quiet_step (first | (go_at_call 93; exact Wld.call (HU1.out _)) | (go_at_call 94; exact Wld.same (HS1.out _)) | (go_at_call 85; exact Wld.same (HA1.out _))))
            refine wpQuiet_nil ?_
            rintro _ ⟨⟨W9, hW9⟩, rfl⟩
            go_wp2_with fail
            go_meet
            exact ⟨by rw [HN.out], hW9⟩
          case pos =>
            have HA1 := Lib.hid (fun x : Wld W => (AttrSpaces_any (.slice aa (A.get (k : Int)).attrs.length ac) (A.get (k : Int)).attrs x.val (HK.out.2.below (HBB.out.trans (x.2.mono HBB.out.size)))).mono (fun e w' hh => show e = .returned (.bool true) ∧ _ from ⟨by rw [hh.1, decide_eq_true hasp], hh.2⟩))
            have HNO := Lib.hid (show ((onceL (A.get (k : Int)).attrs).length ≠ (A.get (k : Int)).attrs.length) = (¬ A.fieldP k) from propext ⟨fun q r => q r.2.2.2, fun q r => q ⟨hu, hsp, hasp, r⟩⟩)
            have hol := onceL_len (A.get (k : Int)).attrs
            have hal := HAT2.out _ HHH.out
            clear hu hsp hasp
            have d0 := HN0.out.c0; have d1 := HN0.out.c1; have d2 := HN0.out.c2; have d3 := HN0.out.c3; have d4 := HN0.out.c4; have d5 := HN0.out.c5; have d6 := HN0.out.c6; have d7 := HN0.out.c7; have d8 := HN0.out.c8; have d9 := HN0.out.c9; have d10 := HN0.out.c10; have d11 := HN0.out.c11; have d12 := HN0.out.c12
            simp only [Nat.zero_add] at d0 d1 d2 d3 d4 d5 d6 d7 d8 d9 d10 d11 d12
            have HU2 := Lib.hid (fun X (hX : Below W.heap.size W X) => HU1.out ⟨X, hX⟩)
            have HS2 := Lib.hid (fun X (hX : Below W.heap.size W X) => HS1.out ⟨X, hX⟩)
            have HA2 := Lib.hid (fun X (hX : Below W.heap.size W X) => HA1.out ⟨X, hX⟩)
            clear HU1 HS1 HA1
            unfold Nd.cells at HU2
            dsimp only at HU2 HS2 HA2
            go_region_held3 (fun w' => w'.cell? ⟨wr.heap.size, 0, none⟩ = some (.int .i64 (A.get (k : Int)).kind) ∧ w'.cell? ⟨wr.heap.size, 1, none⟩ = some (.int .i64 (A.get (k : Int)).parent) ∧ w'.cell? ⟨wr.heap.size, 2, none⟩ = some (.slice ka (A.get (k : Int)).kids.length kc) ∧ w'.cell? ⟨wr.heap.size, 3, none⟩ = some (.int .i64 (A.get (k : Int)).doc) ∧ w'.cell? ⟨wr.heap.size, 4, none⟩ = some (.int .i64 (A.get (k : Int)).space) ∧ w'.cell? ⟨wr.heap.size, 5, none⟩ = some (.string (A.get (k : Int)).name) ∧ w'.cell? ⟨wr.heap.size, 6, none⟩ = some (.slice aa (A.get (k : Int)).attrs.length ac) ∧ w'.cell? ⟨wr.heap.size, 7, none⟩ = some (.string (A.get (k : Int)).data) ∧ w'.cell? ⟨wr.heap.size, 8, none⟩ = some (.string (A.get (k : Int)).pub) ∧ w'.cell? ⟨wr.heap.size, 9, none⟩ = some (.string (A.get (k : Int)).sys) ∧ w'.cell? ⟨wr.heap.size, 10, none⟩ = some (.bool (A.get (k : Int)).quirks) ∧ w'.cell? ⟨wr.heap.size, 11, none⟩ = some (.int .i64 (A.get (k : Int)).contents) ∧ w'.cell? ⟨wr.heap.size, 12, none⟩ = some (.int .i64 (A.get (k : Int)).host))
              (first | exact ⟨d0, d1, d2, d3, d4, d5, d6, d7, d8, d9, d10, d11, d12⟩ | exact ⟨y0, y1, y2, y3, y4, y5, y6, y7, y8, y9, y10, y11, y12⟩ | exact ⟨z0, z1, z2, z3, z4, z5, z6, z7, z8, z9, z10, z11, z12⟩)
              (first
              | (go_at_call 93
                 (with_reducible refine (HU2.out _ (Below.drew (Below.refl _ _))).mono ?_)
                 rintro e w2 ⟨rfl, hB2⟩
                 have HB2 : Hid (Below W.heap.size W w2) := Lib.hid ((Below.drew (Below.refl W.heap.size W)).trans (hB2.mono (by simp)))
                 have y0 := Below.old HB2.out d0; have y1 := Below.old HB2.out d1; have y2 := Below.old HB2.out d2; have y3 := Below.old HB2.out d3; have y4 := Below.old HB2.out d4; have y5 := Below.old HB2.out d5; have y6 := Below.old HB2.out d6; have y7 := Below.old HB2.out d7; have y8 := Below.old HB2.out d8; have y9 := Below.old HB2.out d9; have y10 := Below.old HB2.out d10; have y11 := Below.old HB2.out d11; have y12 := Below.old HB2.out d12
                 clear hB2)
              | (go_at_call 94
                 (with_reducible refine (HS2.out _ HB2.out).mono ?_)
                 rintro e w3 ⟨rfl, rfl⟩)
              | (go_at_call 85
                 (with_reducible refine (HA2.out _ HB2.out).mono ?_)
                 rintro e w3 ⟨rfl, rfl⟩)
              | (go_at_call 86
                 (with_reducible refine (HON.out _ (HBB.out.trans (HB2.out.mono HBB.out.size))).mono ?_)
                 rintro e w3 ⟨hB3, v3, rfl, hO3⟩
                 have HB3 : Hid (Below W.heap.size W w3) := Lib.hid (HB2.out.trans (hB3.mono HB2.out.size))
                 obtain ⟨oa, oc, rfl⟩ := ownsForm hO3
                 have z0 := Below.old HB3.out d0; have z1 := Below.old HB3.out d1; have z2 := Below.old HB3.out d2; have z3 := Below.old HB3.out d3; have z4 := Below.old HB3.out d4; have z5 := Below.old HB3.out d5; have z6 := Below.old HB3.out d6; have z7 := Below.old HB3.out d7; have z8 := Below.old HB3.out d8; have z9 := Below.old HB3.out d9; have z10 := Below.old HB3.out d10; have z11 := Below.old HB3.out d11; have z12 := Below.old HB3.out d12
                 clear hB3 hO3))
            all_goals
              go_wp2_with fail
              go_meet
              refine ⟨congrArg Value.bool ?_, HB3.out⟩
              rw [Bool.eq_iff_iff, decide_eq_true_iff, ← HNO.out]
              simp only [bne_iff_ne, ne_eq]
              omega
        case rest =>
          obtain ⟨rfl, hB1⟩ := hcut
          have HBB2 := Lib.hid (HBB.out.trans (hB1.out.mono HBB.out.size))
          obtain ⟨W1, hw1⟩ : ∃ W1, W1 = wc := ⟨_, rfl⟩
          subst hw1
          have HBW1 := Lib.hid (HBW.out.trans (HBB2.out.mono HBW.out.size))
          have HR1 := Lib.hid (HR0.out.below HBB2.out)
          have HL := Lib.hid (Linked_any A bb k W1 HR1.out HHH.out)
          have HO := Lib.hid (fun X (hX : Below W1.heap.size W1 X) => Owned_any A bb k X (HR1.out.below hX) HHH.out)
          have HNS := Lib.hid (fun (q : A.SoundP) => ((refSound_iff A).2 q).1 k HHH.out)
          clear HBB HBB2 hB1 HN0 HK HON HAT2
          by_cases hf : A.fieldP k
          case neg =>
            rw [show decide (¬ A.fieldP k) = true from decide_eq_true hf]
            have HF := Lib.hid hf
            clear hf
            go_wp2
            go_ret
            exact ⟨ret_bool (decide_eq_false (fun q => HF.out ⟨(HNS.out q).1, (HNS.out q).2.1, (HNS.out q).2.2.1, (HNS.out q).2.2.2.1⟩)).symm, HBW1.out⟩
          case pos =>
          rw [show decide (¬ A.fieldP k) = false from decide_eq_false (fun q => q hf)]
          have HF := Lib.hid hf
          clear hf
          go_wp2_with fail
          refine HL.out.mono ?_
          rintro e w5 ⟨rfl, hB5⟩
          have HB5 := Lib.hid hB5
          clear hB5 HL
          by_cases hl : A.parP k ∧ A.kidP k
          case neg =>
            rw [show decide (A.parP k ∧ A.kidP k) = false from decide_eq_false hl]
            have HL := Lib.hid hl
            clear hl
            go_wp2
            go_ret
            exact ⟨ret_bool (decide_eq_false (fun q => HL.out ⟨(HNS.out q).2.2.2.2.1, (HNS.out q).2.2.2.2.2.1⟩)).symm, HBW1.out.trans (HB5.out.mono HBW1.out.size)⟩
          case pos =>
          rw [show decide (A.parP k ∧ A.kidP k) = true from decide_eq_true hl]
          have HL := Lib.hid hl
          clear hl
          go_wp2_with fail
          refine (HO.out _ HB5.out).mono ?_
          rintro e w6 ⟨rfl, hB6⟩
          have HB6 := Lib.hid (HB5.out.trans (hB6.mono HB5.out.size))
          clear hB6 HO HB5
          by_cases ho : A.ownDoc k ∧ A.ownCon k ∧ A.ownHost k
          case neg =>
            rw [show decide (A.ownDoc k ∧ A.ownCon k ∧ A.ownHost k) = false from decide_eq_false ho]
            have HO := Lib.hid ho
            clear ho
            go_wp2
            go_ret
            exact ⟨ret_bool (decide_eq_false (fun q => HO.out (HNS.out q).2.2.2.2.2.2)).symm, HBW1.out.trans (HB6.out.mono HBW1.out.size)⟩
          case pos =>
          rw [show decide (A.ownDoc k ∧ A.ownCon k ∧ A.ownHost k) = true from decide_eq_true ho]
          have HO := Lib.hid ho
          clear ho
          go_wp2
          go_roundw
          case rel => exact ⟨k + 1, by omega, by omega, by go_num, Lib.hid (fun x hx hxk => by
            by_cases hxe : x < (k : Int)
            · exact hT.out x hx hxe
            · have : x = (k : Int) := by omega
              rw [this]
              exact ⟨HF.out.1, HF.out.2.1, HF.out.2.2.1, HF.out.2.2.2, HL.out.1, HL.out.2, HO.out⟩), Lib.hid (HBW1.out.trans (HB6.out.mono HBW1.out.size)), Lib.hid (HR1.out.below HB6.out)⟩
          case measure => simp [intOf]; omega
      · have HT := Lib.hid (show ∀ x, A.has x → A.refP x from fun x hx => hT.out x hx (by have := hx.2; unfold Ar.n at this; omega))
        clear hT r1 r2 r3
        obtain ⟨wo, rfl⟩ : ∃ wo : World, wo = wr := ⟨_, rfl⟩
        go_wp2
        clear r0
        go_loopw [6] (fun i wr => ∃ k : Nat, 1 ≤ k ∧ k ≤ A.ns.length + 1 ∧ i = .int .i64 k ∧ Hid (∀ x, A.has x → x < (k : Int) → ¬ ∃ j : Nat, 1 ≤ j ∧ j ≤ A.ns.length + 1 ∧ upI A j x = x) ∧ Hid (Below w.heap.size w wr) ∧ Hid (RN wr bb A)) (fun i _ => A.ns.length + 1 - (intOf i).toNat)
        case atStart => exact ⟨1, by omega, by omega, rfl, Lib.hid (fun x hx hx1 => by have := hx.1; omega), HBW, HR0⟩
        case round =>
          clear HBW HR0 hk1 hk hlt
          obtain ⟨k', hk1, hk, rfl, hT, HBW, HR0⟩ := hrel
          obtain ⟨nb, o, c', r0, -, -, -⟩ := HR0.out
          by_cases hlt : k' < A.ns.length + 1
          · have hh : A.has (k' : Int) := ⟨by omega, by unfold Ar.n; omega⟩
            have HC := Lib.hid (Circular_any A bb k' wr HR0.out hh (Ar.LinksOK.up (fun x hx => (refP_links (HT.out x hx)).1)))
            have HHH := Lib.hid hh
            clear hh
            go_wp2_with fail
            refine HC.out.mono ?_
            rintro e w5 ⟨rfl, rfl⟩
            by_cases hj : ∃ j : Nat, 1 ≤ j ∧ j ≤ A.ns.length + 1 ∧ upI A j k' = k'
            · rw [decide_eq_true hj]
              have HJ := Lib.hid hj
              clear hj
              go_wp2
              go_ret
              exact ⟨ret_bool (decide_eq_false (fun q => ((refSound_iff A).2 q).2 k' HHH.out HJ.out)).symm, HBW.out⟩
            · rw [decide_eq_false hj]
              have HJ := Lib.hid hj
              clear hj
              go_wp2
              go_roundw
              case rel => exact ⟨k' + 1, by omega, by omega, by go_num, Lib.hid (fun x hx hxk => by
                by_cases hxe : x < (k' : Int)
                · exact hT.out x hx hxe
                · have : x = (k' : Int) := by omega
                  rw [this]
                  exact HJ.out), HBW, HR0⟩
              case measure => simp [intOf]; omega
          · have HT2 := Lib.hid (show A.SoundP from (refSound_iff A).1 ⟨HT.out, fun x hx => hT.out x hx (by have := hx.2; unfold Ar.n at this; omega)⟩)
            clear hT
            go_wp2
            go_ret
            exact ⟨ret_bool (decide_eq_true HT2.out).symm, HBW.out⟩

end Go.Proofs.Ytnfdcfagdidmhaa
