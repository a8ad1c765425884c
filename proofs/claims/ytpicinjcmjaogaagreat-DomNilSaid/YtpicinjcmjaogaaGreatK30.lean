/-
  Parts: D14.
-/
import Derived.Deep.RegionLaw
import Derived.Lib.SliceRun
import Derived.Test.YtpicinjcmjaogaaGreatK29

/- Contracts of dom: slices.Delete of one attribute, RemoveAttribute. -/
namespace Go.Proofs.YtpicinjcmjaogaaGreat
open Go.RowKit Go.Shelf
set_option linter.unusedVariables false

attribute [local go_sem] Oper.semAt_some

/-- 'clear' of a slice of one element, of any number of cells. -/
theorem run_clear_one {P : Program} (w : World) (t e ty : TypeId) (z : Value) (zs : List Value) (ht : P.underlying t = some (.slice e)) (hv : ∀ w, (zeroValue e).run P w = .ok z w) (hz : z.cells = zs.toArray) (h1 : ∀ v ∈ zs, v.oneCell' = true) (b o c : Nat)
    (hc : ∀ j, j < zs.length → (w.cell? ⟨b, o + j, none⟩).isSome = true) (hf : ∀ j, j < zs.length → w.frozen? ⟨b, o + j, none⟩ = false) :
    (Builtin.clear_ #[t] ty #[.slice (some ⟨b, o, none⟩) 1 c]).run P w = .ok (.tuple #[]) (w.setCells b o zs) := by
  have hzc : (Builtin.zeroCells z.cells 1).toList = zs := by
    rw [hz]
    simp [Builtin.zeroCells]
    apply List.ext_getElem
    · simp
    · intro i h1 h2
      simp [Nat.mod_eq_of_lt h2, h2]
  have hst := run_storeCells_cells (P := P) b o zs 0 w (by simpa using hc) (by simpa using hf) h1
  simp only [Nat.add_zero] at hst
  simp [Builtin.clear_, run_underlying ht, hv, hzc, hst]

abbrev zeroAttr : List Value := [.int .i64 0, .string ByteArray.empty, .string ByteArray.empty]

theorem list_erase_cells (l : List AttrD) (i : Nat) : (l.eraseIdx i).flatMap attrCells = (l.flatMap attrCells).take (i * 3) ++ (l.flatMap attrCells).drop ((i + 1) * 3) := by
  have ht : ∀ (k : Nat) (l : List AttrD), (l.flatMap attrCells).take (k * 3) = (l.take k).flatMap attrCells := by
    intro k
    induction k with
    | zero => intro l; simp
    | succ k ih =>
      intro l
      cases l with
      | nil => simp
      | cons a l =>
        have e : (k + 1) * 3 = k * 3 + 3 := by omega
        rw [e, List.take_succ_cons, List.flatMap_cons, List.flatMap_cons, ← ih]
        simp [attrCells]
  have hd : ∀ (k : Nat) (l : List AttrD), (l.flatMap attrCells).drop (k * 3) = (l.drop k).flatMap attrCells := by
    intro k
    induction k with
    | zero => intro l; simp
    | succ k ih =>
      intro l
      cases l with
      | nil => simp
      | cons a l =>
        have e : (k + 1) * 3 = k * 3 + 3 := by omega
        rw [e, List.drop_succ_cons, List.flatMap_cons, ← ih]
        simp [attrCells]
  rw [ht, hd, ← List.flatMap_append, List.eraseIdx_eq_take_drop_succ]

set_option maxHeartbeats 4000000 in
set_option maxRecDepth 1000000 in
theorem DeleteAttr_any (g cap i : Nat) (l : List AttrD) (w : World) (hown : w.ownsRow 0 132 3 (.slice (some ⟨g, 0, none⟩) l.length cap) l.length (l.flatMap attrCells)) (hi : i < l.length) (hl : l.length ≤ 1000) :
    Calls Tryz.prog 140 #[.slice (some ⟨g, 0, none⟩) l.length cap, .int .i64 i, .int .i64 ((i : Int) + 1)] w fun e w' => e = .returned (.slice (some ⟨g, 0, none⟩) (l.length - 1) cap) ∧
      w'.ownsRow 0 132 3 (.slice (some ⟨g, 0, none⟩) (l.eraseIdx i).length cap) (l.eraseIdx i).length ((l.eraseIdx i).flatMap attrCells) ∧ Upd (fun k => k = g) w w' := by
  obtain ⟨i0, hi0, hz0, hz1, hz2⟩ := info_parts infoAttr
  have HIF := Lib.hid hi0
  obtain ⟨cur, hcur, hcs⟩ := owns_heap hown
  have hcap : l.length ≤ cap ∧ cap ≤ maxLen ∧ cur.size = cap * 3 ∧ cur.toList.take (l.length * 3) = l.flatMap attrCells := by
    rcases hown.2 with ⟨h1, -⟩ | ⟨g', cap', cur', h1, -, h2, h3, h4, h5, h6⟩
    · exact absurd h1 (by simp)
    · have : g = g' ∧ cap = cap' := by injection h1 with a b c; injection a with a; injection a with a; exact ⟨a, c⟩
      obtain ⟨rfl, rfl⟩ := this
      rw [hcur] at h2
      injection h2 with h2; injection h2 with h2
      subst h2
      exact ⟨h3, h4, h5, h6⟩
  obtain ⟨p1, p2, p3, p4⟩ := hcap
  have hcl : ∀ k, k < l.length * 3 → cur[k]? = (l.flatMap attrCells)[k]? := fun k hk => by
    rw [← p4, List.getElem?_take, if_pos hk, Array.getElem?_toList]
  obtain ⟨news, hnews⟩ : ∃ news, news = (l.flatMap attrCells).drop ((i + 1) * 3) := ⟨_, rfl⟩
  have hfl : (l.flatMap attrCells).length = l.length * 3 := attr_len l
  have hlen : news.length = (l.length - (i + 1)) * 3 := by rw [hnews, List.length_drop, hfl]; omega
  obtain ⟨A, hA, hsrc⟩ : ∃ A : Addr, (if cap = i + 1 then some (⟨g, 0, none⟩ : Addr) else some ⟨g, (i + 1) * 3, none⟩) = some A ∧ Hid (∀ t u, news[t]? = some u → w.drew.cell? (A.add t) = some u) := by
    by_cases h : cap = i + 1
    · refine ⟨⟨g, 0, none⟩, by simp [h], Lib.hid (fun t u hu => ?_)⟩
      have h0 : news.length = 0 := by rw [hlen]; omega
      rw [List.length_eq_zero_iff.1 h0] at hu
      simp at hu
    · refine ⟨⟨g, (i + 1) * 3, none⟩, by simp [h], Lib.hid (fun t u hu => ?_)⟩
      have ht : t < news.length := (List.getElem?_eq_some_iff.1 hu).1
      rw [Addr.add_lit]
      show w.cell? _ = _
      rw [cell_of_row w g _ cur _ _ hcur, hcl _ (by omega), ← hu, hnews, List.getElem?_drop]
  have s1 : Hid (news.length = (l.length - (i + 1)) * 3) := Lib.hid hlen
  have hone : ∀ u ∈ l.flatMap attrCells, u.oneCell' = true := fun u hu => by
    obtain ⟨x, -, hx⟩ := List.mem_flatMap.1 hu
    simp [attrCells] at hx
    rcases hx with rfl | rfl | rfl <;> rfl
  have s2 : Hid (∀ u ∈ news, u.oneCell' = true) := Lib.hid (fun u hu => hone u (by rw [hnews] at hu; exact List.mem_of_mem_drop hu))
  have s3 : Hid (∀ t, t < news.length → (w.drew.cell? ⟨g, 0 + i * 3 + t, none⟩).isSome = true ∧ w.drew.frozen? ⟨g, 0 + i * 3 + t, none⟩ = false) := Lib.hid (fun t ht => by
    refine ⟨?_, frozen_of_row w g _ cur _ hcur⟩
    show (w.cell? _).isSome = true
    rw [cell_of_row w g _ cur _ _ hcur]
    have : i * 3 + t < cur.size := by omega
    simp [this])
  obtain ⟨W1, hW1⟩ : ∃ W1, W1 = w.drew.setCells g (0 + i * 3) news := ⟨_, rfl⟩
  obtain ⟨c1, k1, k2, k3⟩ := setCells_block g 132 news (0 + i * 3) w.drew cur hcur
  rw [← hW1] at k1
  have hcl1 : ∀ ty, (Builtin.clear_ #[44] ty #[.slice (some ⟨g, (i + (l.length - (i + 1))) * 3, none⟩) (l.length - (i + (l.length - (i + 1)))) (cap - (i + (l.length - (i + 1))))]).run Tryz.prog W1 = .ok (.tuple #[]) (W1.setCells g ((i + (l.length - (i + 1))) * 3) zeroAttr) := fun ty => by
    have e1 : l.length - (i + (l.length - (i + 1))) = 1 := by omega
    rw [e1]
    refine run_clear_one W1 _ 132 ty (.agg #[.int .i64 0, .string ByteArray.empty, .string ByteArray.empty]) zeroAttr Tryz.underlying44 (fun w => by kernel_rfl) rfl (fun v hv => by simp at hv; rcases hv with rfl | rfl | rfl <;> rfl) g _ _ (fun j hj => ?_) (fun j hj => frozen_of_row W1 g _ c1 _ k1)
    rw [cell_of_row W1 g _ c1 _ _ k1]
    have hj3 : j < 3 := hj
    have : (i + (l.length - (i + 1))) * 3 + j < c1.size := by rw [k2]; omega
    simp [this]
  have hW : Hid (W1 = w.drew.setCells g (0 + i * 3) news) := Lib.hid hW1
  have HK : Hid (W1.heap[g]? = some (.cells c1 132 (0, 0)) ∧ c1.size = cur.size ∧ ∀ k, c1[k]? = if 0 + i * 3 ≤ k ∧ k < 0 + i * 3 + news.length ∧ k < cur.size then news[k - (0 + i * 3)]? else cur[k]?) := Lib.hid ⟨k1, k2, k3⟩
  have HUP : Hid (Upd (fun k => k = g) w W1) := Lib.hid (by rw [hW1]; exact ((Upd.refl (fun k => k = g) w).drew).setCells (b := g) (.inr rfl) _ _)
  have HN := Lib.hid hnews
  have HCL := Lib.hid hcl
  have hic : i ≤ cap := by omega
  have hjc : i + 1 ≤ cap := by omega
  have hil : (i : Int) + 1 ≤ l.length := by omega
  have hl2 : (l.length : Int) ≤ cap := by omega
  have hi1 : (0 : Int) ≤ (i : Int) + 1 := by omega
  have hne : ((i : Int) == (i : Int) + 1) = false := by simp; omega
  clear hW1 k1 k2 k3 hnews hlen hcl hone hown hcur
  go_enter Tryz.func140, Tryz.ntmps140
  go_wp2_with fail
  go_region_law (refine step_append_room (by rfl) (.tmp 22) (.tmp 25) 44 (by rfl) 132 i0 3 Tryz.underlying44 HIF.out hz1 g 0 i cap (by simp [Act.eval, Act.put]) A (l.length - (i + 1)) (cap - (i + 1)) news (by simp [Act.eval, Act.put]) s1.out hsrc.out s2.out (by omega) s3.out ?_; rw [← hW.out])
  go_wp2
  go_ret
  obtain ⟨k1, k2, k3⟩ := HK.out
  obtain ⟨c2, m1, m2, m3⟩ := setCells_block g 132 zeroAttr ((i + (l.length - (i + 1))) * 3) W1 c1 k1
  have hle : (l.eraseIdx i).length = l.length - 1 := by simp [List.length_eraseIdx, hi]
  have hnl : news.length = (l.length - (i + 1)) * 3 := s1.out
  refine ⟨by rw [show l.length - 1 = i + (l.length - (i + 1)) by omega]; try rfl, ⟨by rw [attr_len], .inr ⟨g, cap, c2, by rw [hle]; try rfl, Nat.zero_le _, m1, by omega, p2, by rw [m2, k2]; exact p3, ?_⟩⟩, HUP.out.trans ((Upd.refl (fun k => k = g) _).setCells (b := g) (.inr rfl) _ _)⟩
  rw [list_erase_cells, hle]
  apply List.ext_getElem?
  intro k
  rw [List.getElem?_take, Array.getElem?_toList, m3 k, List.getElem?_append, List.length_take, hfl, Nat.min_eq_left (by omega)]
  by_cases hk : k < (l.length - 1) * 3
  · rw [if_pos hk, if_neg (by omega), k3 k]
    by_cases hk2 : k < i * 3
    · rw [if_pos hk2, if_neg (by omega), List.getElem?_take, if_pos hk2, HCL.out k (by omega)]
    · rw [if_neg hk2, if_pos ⟨by omega, by rw [hnl]; omega, by omega⟩, HN.out, Nat.zero_add]
  · rw [if_neg hk, if_neg (by omega), List.getElem?_drop, List.getElem?_eq_none (by rw [hfl]; omega)]

theorem removeAttr_res (A : Ar) (el s : Int) (name : ByteArray) : A.removeAttr el s name = if (A.attrRes el s name).2.2.2 ≠ 0 then ((false, (A.attrRes el s name).2.2.2), A) else if (A.attrRes el s name).2.1 < 0 then ((false, 0), A)
    else ((true, (A.setAttrs el ((A.attrRes el s name).1.eraseIdx (A.attrRes el s name).2.1.toNat)).1), (A.setAttrs el ((A.attrRes el s name).1.eraseIdx (A.attrRes el s name).2.1.toNat)).2) := by
  unfold Ar.removeAttr Ar.attrRes
  by_cases h : A.attrErr el s = 0
  · simp [h]
  · simp [h]

set_option maxRecDepth 100000 in
set_option maxHeartbeats 2000000 in
theorem RemoveAttributeD_own {w0 w : World} {B b : Nat} {A : Ar} {L : List Asrt} {el s : Int} {name : ByteArray} (o : Own w0 B (.arena b A :: L) w) (hI : A.Inv) (hsz : A.ns.length ≤ 1000000) (hs : name.size ≤ 1000000) :
    Calls Tryz.prog 59 #[.pointer (some ⟨b, 0, none⟩), .int .i64 el, .int .i64 s, .string name] w fun e w' => e = .returned (.tuple #[.bool (A.removeAttr el s name).1.1, .int .i64 (A.removeAttr el s name).1.2]) ∧ Own w0 B (.arena b (A.removeAttr el s name).2 :: L) w' := by
  have hS := hI.short hsz
  have HC := Lib.hid (attribute_own (b := b) (A := A) (el := el) (s := s) o (by simp) hS hs)
  have hgr := removeAttr_res A el s name
  have hat := attrRes_at A el s name
  have hlen := attrRes_len' hI el s name
  have HSA := Lib.hid (fun v l' W (hl : l'.length ≤ 1000000) (q : Own w0 B (.arena b A :: .atts v l' :: L) W) => q.call (fun ρ hA => SetAttrs_any A ρ b el v l' W hA (q.atts (v := v) (x := l') (by simp)) hl))
  clear o hI hS
  generalize A.attrRes el s name = R at *
  generalize A.removeAttr el s name = G at *
  obtain ⟨l, i, nm, er⟩ := R
  dsimp only at *
  have HG := Lib.hid hgr
  clear hgr
  by_cases he : er = 0
  · subst he
    rcases hat with hi | ⟨k, x, hi, hx⟩
    · subst hi
      have HF : Hid (G = ((false, 0), A)) := Lib.hid HG.out
      clear HG HSA
      go_enter Tryz.func59, Tryz.ntmps59
      go_wp2_with fail
      refine HC.out.mono ?_
      rintro e w1 ⟨aa, ac, rfl, o1⟩
      have HO := Lib.hid o1
      clear HC o1
      go_wp2
      go_ret2
      rw [HF.out]
      exact ⟨rfl, HO.out.drop⟩
    · subst hi
      have hk := (List.getElem?_eq_some_iff.1 hx).1
      have HF : Hid (G = ((true, (A.setAttrs el (l.eraseIdx k)).1), (A.setAttrs el (l.eraseIdx k)).2)) := Lib.hid (by
        rw [HG.out, if_neg (fun q => q rfl), if_neg (by omega), Int.toNat_natCast])
      have hel : (l.eraseIdx k).length = l.length - 1 := by simp [List.length_eraseIdx, hk]
      have HSA2 := Lib.hid (fun v W => HSA.out v (l.eraseIdx k) W (by omega))
      have hk1 : (k : Int) < (l.length : Int) := by omega
      have hk2 : (l.length : Int) ≤ 1000 := by omega
      have HEL := Lib.hid hel
      clear HG HSA hx hel
      go_enter Tryz.func59, Tryz.ntmps59
      go_wp2_with fail
      refine HC.out.mono ?_
      rintro e w1 ⟨aa, ac, rfl, o1⟩
      have hrow := o1.row (e := 132) (size := 3) (v := .slice aa l.length ac) (n := l.length) (xs := l.flatMap attrCells) (by simp)
      obtain ⟨g, cap, hsl, hgl, -⟩ := World.ownsRow.form hrow (by omega)
      have hea : aa = some ⟨g, 0, none⟩ ∧ ac = cap := by injection hsl with h1 h2 h3; exact ⟨h1, h3⟩
      obtain ⟨rfl, rfl⟩ := hea
      have HD := Lib.hid (DeleteAttr_any g ac k l w1 (owns_base hrow (Nat.zero_le _)) hk hlen)
      have HO1 := Lib.hid o1
      clear HC o1 hrow hsl hgl
      go_wp2_with fail
      refine HD.out.mono ?_
      rintro e w2 ⟨rfl, hown, hu⟩
      have o3 := HO1.out.setRow hown (hu.mono (fun k _ h => by subst h; rfl)) rfl
      rw [HEL.out] at o3
      have o4 : Own w0 B (.atts (.slice (some ⟨g, 0, none⟩) (l.length - 1) ac) (l.eraseIdx k) :: .arena b A :: L) w2 := by unfold Asrt.atts; rw [HEL.out]; exact o3
      have HS6 := Lib.hid (HSA2.out _ _ o4.swap)
      clear o3 o4 hown hu HD HO1 HSA2
      go_wp2_with fail
      refine HS6.out.mono ?_
      rintro e w5 ⟨rfl, o7⟩
      have HO7 := Lib.hid o7
      clear HS6 o7
      go_wp2
      go_ret2
      rw [HF.out]
      exact ⟨rfl, HO7.out.swap.drop⟩
  · have HF : Hid (G = ((false, er), A)) := Lib.hid (HG.out.trans (if_pos he))
    have e1 : (er != 0) = true := by simp [he]
    clear he HG hat HSA
    go_enter Tryz.func59, Tryz.ntmps59
    go_wp2_with fail
    refine HC.out.mono ?_
    rintro e w1 ⟨aa, ac, rfl, o1⟩
    have HO := Lib.hid o1
    clear HC o1
    go_wp2
    go_ret2
    rw [HF.out]
    exact ⟨rfl, HO.out.drop⟩

end Go.Proofs.YtpicinjcmjaogaaGreat
