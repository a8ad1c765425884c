/-
  Parts: L1, L2, T1, M1.
-/
import Derived.BigQuiet
import Derived.Deep.MidRow
import Derived.Test.YtpicinjcmjaogaaGreatK05

/- The law ArenaInert: what the calls answer (plain), and the walk. -/
namespace Go.Proofs.YtpicinjcmjaogaaGreat
open Go.RowKit
set_option linter.unusedVariables false

def templB : ByteArray := ⟨#[116, 101, 109, 112, 108, 97, 116, 101]⟩

/-- What the law's calls answer. -/
theorem inert_law {A : Ar} (hI : A.Inv) {d : Int} (hd : A.ofDoc d = 0) : ∃ i A1 A2, A.inertCall d = ((i, 0), A1) ∧ A1.Inv ∧ A1.has i ∧ (A1.get i).kind = 1 ∧ (A1.get i).doc = i ∧ (A.n < i → (A1.get i).quirks = false) ∧
    A1.inertCall d = ((i, 0), A1) ∧ A1.inertCall i = ((i, 0), A1) ∧ A1.element d 1 templB [] = ((A1.n + 1, 0), A2) ∧ A2.Inv ∧ A2.has (A1.n + 1) ∧ (A2.get (A1.n + 1)).doc = d ∧ (A2.get (A1.n + 1)).contents = A1.n + 2 ∧
    A2.has (A1.n + 2) ∧ (A2.get (A1.n + 2)).doc = i ∧ (A2.get (A1.n + 2)).kind = 2 ∧ (A2.get (A1.n + 2)).host = A1.n + 1 ∧ A1.ns.length ≤ A.ns.length + 1 ∧ A2.ns.length ≤ A1.ns.length + 3 := by
  have hdh := ofDoc_has hd
  have hdk := ofDoc_kind hd
  have hI1 : (A.inertOf d).2.Inv := Ar.InvX.inertOf hI hdh
  obtain ⟨hi1, hi2⟩ := Ar.InvX.inertVal hI hdh
  have hcall : A.inertCall d = (((A.inertOf d).1, 0), (A.inertOf d).2) := by simp [Ar.inertCall, hd]
  obtain ⟨hg1, hg2⟩ := Ar.inertOf_get (d := d) hdh
  have hlen := (Ar.inertOf_len A d).2
  have hq : A.n < (A.inertOf d).1 → ((A.inertOf d).2.get (A.inertOf d).1).quirks = false := by
    unfold Ar.inertOf
    split
    · rename_i h
      intro hlt
      have := (hI.inert d h).2.1.2
      dsimp only at hlt; omega
    · intro _
      show ((A.document false).get (A.n + 1)).quirks = false
      rw [Ar.document, Ar.add_new]
  have hat : (A.inertOf d).2.inertAt d = (A.inertOf d).1 := by
    by_cases h : A.inertAt d ≠ 0
    · unfold Ar.inertOf; rw [if_pos h]
    · unfold Ar.inertOf; rw [if_neg h]
      have hl : (A.document false).inert.length = A.ns.length + 2 := by simp [Ar.document, Ar.add, hI.wf.inert]
      have h1 := hdh.1; have h2 := hdh.2; unfold Ar.n at h2
      show (((A.document false).inert.set d.toNat (A.n + 1)).set (A.n + 1).toNat (A.n + 1))[d.toNat]?.getD 0 = A.n + 1
      rw [set2_get (by omega) (by unfold Ar.n; omega)]
      split
      · rfl
      · rw [if_pos rfl]
  generalize hA1 : (A.inertOf d).2 = A1 at *
  generalize hi : (A.inertOf d).1 = i at *
  have hin : ∀ x, A1.has x → (A1.get x).kind = 1 → A1.inertAt x = i → A1.inertCall x = ((i, 0), A1) := fun x hx hk hxi => by
    have he : A1.ofDoc x = 0 := by unfold Ar.ofDoc; rw [if_neg (fun h => h hx), if_neg (fun h => h hk)]
    have hne : A1.inertAt x ≠ 0 := by rw [hxi]; intro e; rw [e] at hi1; exact has_zero A1 hi1
    have : A1.inertOf x = (i, A1) := by unfold Ar.inertOf; rw [if_pos hne, hxi]
    simp [Ar.inertCall, he, this]
  have hne : A1.inertAt d ≠ 0 := by rw [hat]; intro e; rw [e] at hi1; exact has_zero A1 hi1
  obtain ⟨-, -, -, hii⟩ := hI1.inert d hne
  rw [hat] at hii
  have hdk1 : (A1.get d).kind = 1 := by rw [hg1]; exact hdk
  have he1 : A1.ofDoc d = 0 := by unfold Ar.ofDoc; rw [if_neg (fun h => h hg2), if_neg (fun h => h hdk1)]
  have hT : isTemplate (elemNd d 1 templB []) := ⟨rfl, rfl, show templB.toList = templateL from by decide +kernel⟩
  have hel := elem_templ he1 (show inSpaces 1 ∧ attrSpaces [] from ⟨by decide, by decide⟩) hT
  have hio : (A1.add (elemNd d 1 templB [])).inertOf d = (i, A1.add (elemNd d 1 templB [])) := by
    unfold Ar.inertOf
    rw [Ar.add_inertAt hI1.wf.inert, if_pos hne, hat]
  rw [hio] at hel
  have hI2 := hI1.element d 1 templB [] (by simp)
  have hl2 : (A1.element d 1 templB []).2.ns.length ≤ A1.ns.length + 3 := by
    rw [hel]; simp only [mod_len, add_len]; omega
  have hn1 : (A1.add (elemNd d 1 templB [])).n = A1.n + 1 := Ar.add_n _ _
  dsimp only at hel
  rw [hn1] at hel
  refine ⟨i, A1, (A1.element d 1 templB []).2, hcall, hI1, hi1, hi2, hI1.docS i hi1 hi2, hq, hin d hg2 hdk1 hat, hin i hi1 hi2 hii, by rw [hel], hI2, ?_, ?_, ?_, ?_, ?_, ?_, ?_, hlen, hl2⟩
  all_goals rw [hel]; dsimp only
  all_goals
    have hx1 : (A1.add (elemNd d 1 templB [])).has (A1.n + 1) := (Ar.add_has _ _ _).2 (.inr rfl)
    have hx2 : ((A1.add (elemNd d 1 templB [])).add { zeroNd with kind := 2, host := A1.n + 1, doc := i }).has (A1.n + 1) := (Ar.add_has _ _ _).2 (.inl hx1)
    have hx3 : ((A1.add (elemNd d 1 templB [])).add { zeroNd with kind := 2, host := A1.n + 1, doc := i }).has (A1.n + 2) := (Ar.add_has _ _ _).2 (.inr (by rw [hn1]; omega))
    have hnn : A1.n + 2 = (A1.add (elemNd d 1 templB [])).n + 1 := by rw [hn1]; omega
  · exact (Ar.mod_has _ _ _ _).2 hx2
  · rw [show contNd (A1.n + 1) i = { zeroNd with kind := 2, host := A1.n + 1, doc := i } from rfl, Ar.mod_get _ hx2 hx2, if_pos rfl, Ar.add_old _ hx1, Ar.add_new]; rfl
  · rw [show contNd (A1.n + 1) i = { zeroNd with kind := 2, host := A1.n + 1, doc := i } from rfl, Ar.mod_get _ hx2 hx2, if_pos rfl]; dsimp only; omega
  · exact (Ar.mod_has _ _ _ _).2 hx3
  · rw [show contNd (A1.n + 1) i = { zeroNd with kind := 2, host := A1.n + 1, doc := i } from rfl, Ar.mod_get _ hx2 hx3, if_neg (by omega), hnn, Ar.add_new]
  · rw [show contNd (A1.n + 1) i = { zeroNd with kind := 2, host := A1.n + 1, doc := i } from rfl, Ar.mod_get _ hx2 hx3, if_neg (by omega), hnn, Ar.add_new]
  · rw [show contNd (A1.n + 1) i = { zeroNd with kind := 2, host := A1.n + 1, doc := i } from rfl, Ar.mod_get _ hx2 hx3, if_neg (by omega), hnn, Ar.add_new]

end Go.Proofs.YtpicinjcmjaogaaGreat

/- The law ArenaInert: the walk. -/
namespace Go.Proofs.YtpicinjcmjaogaaGreat
open Go.RowKit
set_option linter.unusedVariables false

theorem beq_false_of {a b : Int} (h : a ≠ b) : (a == b) = false := by simp [h]

/-- The law's first test fails: it answers by 'known'. -/
theorem Own.back {w0 w w' : World} {B : Nat} {l : List Asrt} (h : Own w0 B l w) (hb : Below w.heap.size w w') : Below B w0 w' := h.low.trans (hb.mono h.big)

theorem smallOps_get {l : List OpD} {m : Int} (h : smallOps l m) (hm : m ≤ 1000) : l.length ≤ 1000 ∧ ∀ x ∈ l, x.attrs.length ≤ 20 := ⟨by have := h.1; omega, fun x hx => (h.2 x hx).2.2.2.1⟩
theorem run_len {l : List OpD} (h : ∀ x ∈ l, x.attrs.length ≤ 20) : (runL l).Inv ∧ (runL l).ns.length ≤ 3 * l.length := by
  have := run_inv (k := l.length) h (Nat.le_refl _)
  rwa [List.take_length] at this

end Go.Proofs.YtpicinjcmjaogaaGreat

/- The document's SameInts, Without. -/
namespace Go.Proofs.YtpicinjcmjaogaaGreat
open Go.RowKit
set_option linter.unusedVariables false

theorem SameInts_any (v1 v2 : Value) (l1 l2 : List Int) (w : World) (h1 : RInts w v1 l1) (h2 : RInts w v2 l2) :
    Calls Tryz.prog 36 #[v1, v2] w fun e w' => e = .returned (.bool (decide (l1 = l2))) ∧ Below w.heap.size w w' := by
  obtain ⟨a1, c1, rfl, p1, p2, p3⟩ := h1.form
  obtain ⟨a2, c2, rfl, q1, q2, q3⟩ := h2.form
  clear h1 h2
  by_cases hl : l1.length = l2.length
  · have hl1 : ((l1.length : Int) != l2.length) = false := by simp [hl]
    have HL := Lib.hid hl
    go_enter Tryz.func36, Tryz.ntmps36
    go_wp2
    go_loopw [5] (fun i wr => ∃ k : Nat, k ≤ l1.length ∧ i = .int .i64 k ∧ Hid (∀ j : Nat, j < k → l1[j]? = l2[j]?) ∧ Below w.heap.size w wr) (fun i _ => l1.length - (intOf i).toNat)
    case atStart => exact ⟨0, Nat.zero_le _, rfl, fun j hj => by omega, Below.refl _ _⟩
    case round =>
      obtain ⟨k, hk, rfl, hT, hB⟩ := hrel
      by_cases hlt : k < l1.length
      · have hlt2 : k < l2.length := by have := HL.out; omega
        obtain ⟨b1, o1, rfl, hcs1⟩ := p3 (by omega)
        obtain ⟨b2, o2, rfl, hcs2⟩ := q3 (by omega)
        have d1 := Below.old hB (hcs1 k hlt)
        have d2 := Below.old hB (hcs2 k hlt2)
        clear hcs1 hcs2 p3 q3
        obtain ⟨x, hx⟩ : ∃ x, l1[k]? = some x := ⟨_, List.getElem?_eq_getElem hlt⟩
        obtain ⟨y, hy⟩ : ∃ y, l2[k]? = some y := ⟨_, List.getElem?_eq_getElem hlt2⟩
        rw [hx] at d1
        rw [hy] at d2
        simp only [Option.getD_some] at d1 d2
        have HX := Lib.hid (And.intro hx hy)
        clear hx hy
        by_cases he : x = y
        · have he1 : (x != y) = false := by simp [he]
          have HE := Lib.hid he
          clear he
          go_wp2_with (go_quiet (fail))
          go_wp2
          go_roundw
          case rel => exact ⟨k + 1, hlt, by go_num, fun j hj => by
              by_cases hjk : j < k
              · exact hT.out j hjk
              · have : j = k := by omega
                rw [this, HX.out.1, HX.out.2, HE.out], Below.drewN hB _⟩
          case measure => simp [intOf]; omega
        · have he1 : (x != y) = true := by simp [he]
          have HE := Lib.hid he
          clear he
          go_wp2_with (go_quiet (fail))
          go_wp2
          go_ret
          exact ⟨ret_bool (decide_eq_false (fun h => HE.out (by have a := HX.out.1; have b := HX.out.2; rw [h, b] at a; simpa using a.symm))).symm, Below.drewN hB _⟩
      · have hfin : l1 = l2 := by
          apply List.ext_getElem?
          intro j
          by_cases hj : j < k
          · exact hT.out j hj
          · have := HL.out
            rw [List.getElem?_eq_none (by omega), List.getElem?_eq_none (by omega)]
        have HF := Lib.hid hfin
        clear hfin
        go_wp2
        go_ret
        exact ⟨ret_bool (decide_eq_true HF.out).symm, hB⟩
  · have hl1 : ((l1.length : Int) != l2.length) = true := by simp; omega
    have HL := Lib.hid hl
    clear hl
    go_enter Tryz.func36, Tryz.ntmps36
    go_wp2
    go_ret
    exact ⟨ret_bool (decide_eq_false (fun h => HL.out (by rw [h]))).symm, Below.refl _ _⟩

theorem without_snoc (l : List Int) (x k : Int) : without (l ++ [x]) k = if x = k then without l k else without l k ++ [x] := by
  unfold without
  rw [List.filter_append]
  by_cases h : x = k
  · rw [if_pos h]; simp [h]
  · rw [if_neg h]; simp [h]
theorem without_take {l : List Int} {k : Nat} {x n : Int} (hx : l[k]? = some x) : without (l.take (k + 1)) n = if x = n then without (l.take k) n else without (l.take k) n ++ [x] := by
  have hk := (List.getElem?_eq_some_iff.1 hx).1
  rw [List.take_succ_eq_append_getElem hk]
  have := (List.getElem?_eq_some_iff.1 hx).2
  rw [this, without_snoc]

set_option maxHeartbeats 400000 in
theorem Without_any (v : Value) (l : List Int) (n : Int) (w : World) (hv : RInts w v l) (hsmall : l.length ≤ 1000000) :
    Calls Tryz.prog 231 #[v, .int .i64 n] w fun e w' => Below w.heap.size w w' ∧ ∃ v', e = .returned v' ∧ w'.ownsRow w.heap.size 3 1 v' (without l n).length ((without l n).map intv) := by
  obtain ⟨i0, hi, hz0, hz1, hz2⟩ := info_parts infoInt
  obtain ⟨av, cv, rfl, hc1, hc2, hc3⟩ := hv.form
  go_enter Tryz.func231, Tryz.ntmps231
  go_wp2
  go_loopw [5, 6] (fun out i wr => ∃ k : Nat, k ≤ l.length ∧ i = .int .i64 k ∧ Hid (wr.ownsRow w.heap.size 3 1 out (without (l.take k) n).length ((without (l.take k) n).map intv)) ∧ Below w.heap.size w wr) (fun _ i _ => l.length - (intOf i).toNat)
  case atStart => exact ⟨0, Nat.zero_le _, rfl, World.ownsRow_nil _ _ _ _, Below.refl _ _⟩
  case round =>
    obtain ⟨k, hk, rfl, hO, hB⟩ := hrel
    by_cases hlt : k < l.length
    · obtain ⟨b1, o1, rfl, hcs⟩ := hc3 (by omega)
      have d1 := Below.old hB (hcs k hlt)
      obtain ⟨x, hx⟩ : ∃ x, l[k]? = some x := ⟨_, List.getElem?_eq_getElem hlt⟩
      rw [hx] at d1
      simp only [Option.getD_some] at d1
      have hst := without_take (n := n) hx
      have HI := Lib.hid hi
      clear hc3 hcs hx hi
      by_cases he : x = n
      · have he1 : (x != n) = false := by simp [he]
        rw [if_pos he] at hst
        have HO := Lib.hid (show wr.ownsRow w.heap.size 3 1 u5 (without (l.take (k + 1)) n).length ((without (l.take (k + 1)) n).map intv) by rw [hst]; exact hO.out)
        clear hst he
        go_wp2
        go_roundw
        case rel => exact ⟨k + 1, hlt, by go_num, HO, hB⟩
        case measure => simp [intOf]; omega
      · have he1 : (x != n) = true := by simp [he]
        rw [if_neg he] at hst
        have HST := Lib.hid hst
        have hlen : (without (l.take k) n).length ≤ 1000000 := Nat.le_trans (without_length _ _) (by simp; omega)
        have hO2 := hO.out
        generalize without (l.take k) n = L at *
        clear hst he hO
        have hwi : w.heap.size ≤ wr.heap.size := hB.size
        go_wp2_with (at_builtin; refine wpList_append_own _ rfl _ _ 41 rfl w.heap.size 3 i0 _ 1 8 Tryz.underlying41 HI.out hz0 hz1 hz2 rfl (by decide) _ _ _ rfl (hO2.alloc _) ⟨wr.heap.size, 0, none⟩ 1 1 [intv x] rfl rfl ?c1 ?c2 ?c3 ?c4 ?c5 ?_)
        case c1 => intro j u hj; rw [Addr.add_mid, Nat.zero_add]; exact cell_new' rfl (by simpa [intv] using hj)
        case c2 => intro u hu; simp at hu; subst hu; rfl
        case c3 => unfold maxLen; omega
        case c4 => omega
        case c5 => simp; omega
        intro v' w3 hown hgrow _
        have hB3 : Below w.heap.size w w3 := (hB.alloc hwi _).grown hgrow (by simp; omega) (fun k hk => (owns_block hO2 k hk).1)
        have hown' : w3.ownsRow w.heap.size 3 1 v' (L ++ [x]).length ((L ++ [x]).map intv) := by
          rw [List.map_append, List.length_append]; exact hown
        have HO3 := Lib.hid hown'
        clear hown hown' hgrow hO2
        go_wp2
        go_roundw
        case rel => exact ⟨k + 1, hlt, by go_num, by rw [HST.out]; exact HO3.out, hB3⟩
        case measure => simp [intOf]; omega
    · have hkl : l.take k = l := List.take_of_length_le (by omega)
      have HO := Lib.hid (by have := hO.out; rwa [hkl] at this)
      go_wp2
      go_ret
      exact ⟨hB, _, rfl, HO.out⟩

end Go.Proofs.YtpicinjcmjaogaaGreat

/- The law ArenaMoves: what the calls answer. No walk here. -/
namespace Go.Proofs.YtpicinjcmjaogaaGreat
open Go.RowKit
set_option linter.unusedVariables false

def Ar.kidsOf (A : Ar) (h : Int) : List Int := if A.has h then (A.get h).kids else []
def Ar.parentOf (A : Ar) (h : Int) : Int := if A.has h then (A.get h).parent else 0

theorem without_no {l : List Int} {n : Int} (h : n ∉ l) : without l n = l := by
  unfold without
  exact List.filter_eq_self.2 (fun x hx => by simp; exact fun e => h (by rw [← e]; exact hx))
theorem without_put {kb : List Int} {n : Int} (i : Nat) (h : n ∉ kb) : without (kb.take i ++ n :: kb.drop i) n = kb := by
  unfold without
  rw [List.filter_append, List.filter_cons_of_neg (by simp), ← List.filter_append, List.take_append_drop]
  exact without_no h

theorem moves_law {A : Ar} (hI : A.Inv) {parent node before : Int} (h : (A.put parent node before).1 = 0) : ∃ (i : Nat) (kb : List Int) (A' : Ar), A.put parent node before = (0, A') ∧ A'.Inv ∧ A'.ns.length = A.ns.length ∧ A.has parent ∧ A.has node ∧ A'.has parent ∧ A'.has node ∧
    (A'.get node).parent = parent ∧ (A'.get parent).kids = kb.take i ++ node :: kb.drop i ∧ i ≤ kb.length ∧ node ∉ kb ∧ (before = 0 → i = kb.length) ∧ (before ≠ 0 → kb[i]? = some before) ∧
    without (A.get parent).kids node = kb ∧ (A.parentOf node ≠ parent → without (A.kidsOf (A.parentOf node)) node = A'.kidsOf (A.parentOf node)) := by
  have hput : A.put parent node before = (0, A.place parent node before) ∧ A.allowed parent node before (A.contains node parent) = 0 := by
    unfold Ar.put at h ⊢
    split at h
    · rename_i hn; exact absurd h hn
    · rename_i hn; rw [if_neg hn]; exact ⟨rfl, Classical.not_not.1 hn⟩
  obtain ⟨hput, hal⟩ := hput
  obtain ⟨hp, hn, hb, hk, hkn, hc⟩ := allowed_got hal
  have hne : parent ≠ node := fun e => by
    subst e
    have : A.contains parent parent = true := by simp [Ar.contains, hp, way_head (hI.wf.wayOf hp) hp]
    rw [this] at hc; exact absurd hc (by simp)
  have hI' : (A.place parent node before).Inv := by have := hI.put parent node before; rw [hput] at this; exact this
  have hhas : ∀ x, (A.place parent node before).has x ↔ A.has x := fun x => by unfold Ar.has; rw [Ar.place_n]
  have hB := Ar.InvX.cut hI hn
  have hnot : node ∉ ((A.cut node).get parent).kids := fun hm => by
    have h1 := (hB.wf.kids parent ((Ar.cut_has _ _ _).2 hp) node hm).2
    rw [Ar.cut_get hI hn hn] at h1
    simp at h1
    rw [← h1] at hp; exact has_zero A hp
  have hkids : ((A.place parent node before).get parent).kids = putIn ((A.cut node).get parent).kids node before := by
    rw [Ar.place_get hp hn hp hne]; simp
  have hnd := hB.wf.nodup parent ((Ar.cut_has _ _ _).2 hp)
  obtain ⟨f1, f2, f3, f4⟩ := Ar.put_facts hI.wf hp hn hb
  have hcut : ((A.cut node).get parent).kids = if parent = (A.get node).parent then without (A.get parent).kids node else (A.get parent).kids := by rw [Ar.cut_get hI hn hp]
  have hw : without (A.get parent).kids node = ((A.cut node).get parent).kids := by
    rw [hcut]
    split
    · rfl
    · rename_i e
      exact without_no (fun hm => e (hI.wf.kids parent hp node hm).2.symm)
  have hold : A.parentOf node ≠ parent → without (A.kidsOf (A.parentOf node)) node = (A.place parent node before).kidsOf (A.parentOf node) := by
    intro hne2
    have hpo : A.parentOf node = (A.get node).parent := if_pos hn
    rw [hpo] at hne2 ⊢
    by_cases hz : (A.get node).parent = 0
    · rw [hz]; unfold Ar.kidsOf; rw [if_neg (has_zero A), if_neg (has_zero _)]; rfl
    · have hpp := (hI.wf.link node hn hz).1
      unfold Ar.kidsOf
      rw [if_pos hpp, if_pos ((hhas _).2 hpp), Ar.place_get hp hn hpp hne]
      dsimp only [Nd.re]
      rw [if_neg hne2, Ar.cut_get hI hn hpp]
      dsimp only [Nd.re]
      rw [if_pos rfl]
  by_cases h0 : before = 0
  · refine ⟨((A.cut node).get parent).kids.length, ((A.cut node).get parent).kids, A.place parent node before, hput, hI', by have := Ar.place_n A parent node before; unfold Ar.n at this; omega, hp, hn, (hhas _).2 hp, (hhas _).2 hn, ?_, ?_, Nat.le_refl _, hnot, fun _ => rfl, fun e => absurd h0 e, hw, hold⟩
    · rw [Ar.place_get hp hn hn hne]; simp
    · rw [hkids, f4 h0]; simp
  · obtain ⟨i, hi, e⟩ := List.getElem_of_mem (f2 h0)
    have hi' : ((A.cut node).get parent).kids[i]? = some before := by rw [List.getElem?_eq_getElem hi, e]
    refine ⟨i, ((A.cut node).get parent).kids, A.place parent node before, hput, hI', by have := Ar.place_n A parent node before; unfold Ar.n at this; omega, hp, hn, (hhas _).2 hp, (hhas _).2 hn, ?_, ?_, by omega, hnot, fun e => absurd e h0, fun _ => hi', hw, hold⟩
    · rw [Ar.place_get hp hn hn hne]; simp
    · rw [hkids, f3 i h0 hi']

theorem index_put {A : Ar} {parent node : Int} {kb : List Int} {i : Nat} (hn : A.has node) (hp : A.has parent) (h1 : (A.get node).parent = parent) (h2 : (A.get parent).kids = kb.take i ++ node :: kb.drop i) (h3 : i ≤ kb.length) (h4 : node ∉ kb) : A.index node = i := by
  have hz : parent ≠ 0 := fun e => by rw [e] at hp; exact has_zero A hp
  unfold Ar.index
  rw [if_pos ⟨hn, by rw [h1]; exact hz⟩, h1, h2]
  have hl : (kb.take i).length = i := by simp; omega
  refine findI_hit (x := node) ?_ (by simp) (fun j y hj hy => ?_)
  · rw [List.getElem?_append_right (by omega), hl]; simp
  · rw [List.getElem?_append_left (by omega)] at hy
    have hm := List.mem_of_mem_take (List.mem_of_getElem? hy)
    simp; exact fun e => h4 (by rw [← e]; exact hm)

theorem ints_reads {w : World} {b : Nat} {v : Value} {l : List Int} (h : w.ownsRow b 3 1 v l.length (l.map intv)) : RInts w v l := by
  have h' : ROwn w (fun k => if v.ownBlock = some k then 1 else 0) 1 3 1 v l.length (l.map intv) := by
    refine ⟨⟨h.1, ?_⟩, fun g hg => by simp [hg]⟩
    rcases h.2 with h2 | ⟨g, cap, cur, h3, _, h4⟩
    · exact .inl h2
    · exact .inr ⟨g, cap, cur, h3, Nat.zero_le _, h4⟩
  exact h'.reads

/-- A list of integers in the call's own memory. -/
abbrev Asrt.ints (v : Value) (l : List Int) : Asrt := .row 3 1 v l.length (l.map intv)

theorem Own.ints {w0 w : World} {B : Nat} {v : Value} {x : List Int} {l : List Asrt} (h : Own w0 B l w) (hm : Asrt.ints v x ∈ l) : RInts w v x := ints_reads (h.row hm)

theorem Kids_own {w0 w : World} {B b : Nat} {A : Ar} {l : List Asrt} {h : Int} (o : Own w0 B l w) (hm : Asrt.arena b A ∈ l) (hS : A.Short) :
    Calls Tryz.prog 33 #[.pointer (some ⟨b, 0, none⟩), .int .i64 h] w fun e w' => ∃ a c, e = .returned (.slice a (A.kidsOf h).length c) ∧ Own w0 B (.ints (.slice a (A.kidsOf h).length c) (A.kidsOf h) :: l) w' := by
  obtain ⟨ρ, hA⟩ := o.arena hm
  refine (Kids_any A ρ b h w hA (fun hh => (hS.get hh).1)).mono ?_
  rintro e w' ⟨hB, v, rfl, ho⟩
  obtain ⟨a, c, rfl⟩ := ownsForm ho
  exact ⟨a, c, rfl, o.newRow hB ho⟩
theorem Parent_own {w0 w : World} {B b : Nat} {A : Ar} {l : List Asrt} {h : Int} (o : Own w0 B l w) (hm : Asrt.arena b A ∈ l) :
    Calls Tryz.prog 37 #[.pointer (some ⟨b, 0, none⟩), .int .i64 h] w fun e w' => e = .returned (.int .i64 (A.parentOf h)) ∧ w = w' := by
  obtain ⟨ρ, hA⟩ := o.arena hm
  exact Parent_any A ρ b h w hA
theorem Without_own {w0 w : World} {B : Nat} {v : Value} {x : List Int} {n : Int} {l : List Asrt} (o : Own w0 B l w) (hm : Asrt.ints v x ∈ l) (hs : x.length ≤ 1000000) {y : List Int} (hy : without x n = y) :
    Calls Tryz.prog 231 #[v, .int .i64 n] w fun e w' => ∃ a c, e = .returned (.slice a y.length c) ∧ Own w0 B (.ints (.slice a y.length c) y :: l) w' := by
  subst hy
  refine (Without_any v x n w (o.ints hm) hs).mono ?_
  rintro e w' ⟨hB, v', rfl, ho⟩
  obtain ⟨a, c, rfl⟩ := ownsForm ho
  exact ⟨a, c, rfl, o.newRow hB ho⟩
theorem SameInts_own {w0 w : World} {B : Nat} {v1 v2 : Value} {x y : List Int} {l : List Asrt} (o : Own w0 B l w) (h1 : Asrt.ints v1 x ∈ l) (h2 : Asrt.ints v2 y ∈ l) :
    Calls Tryz.prog 36 #[v1, v2] w fun e w' => e = .returned (.bool (decide (x = y))) ∧ Own w0 B l w' := by
  refine (SameInts_any v1 v2 x y w (o.ints h1) (o.ints h2)).mono ?_
  rintro e w' ⟨rfl, hB⟩
  exact ⟨rfl, o.read hB⟩

end Go.Proofs.YtpicinjcmjaogaaGreat
