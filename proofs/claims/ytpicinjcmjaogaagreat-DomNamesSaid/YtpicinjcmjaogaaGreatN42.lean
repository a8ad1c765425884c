/-
  Parts: RFA.
-/
import Derived.BigQuiet
import Derived.Test.YtpicinjcmjaogaaGreatN37
import Derived.Test.YtpicinjcmjaogaaGreatN41

/- Contracts of the document's layer 5: element, find, Attribute, SetAttribute, CreateElement. (Printed by genrfa.py.) -/
namespace Go.Proofs.YtpicinjcmjaogaaGreat
open Go.RowKit Go.Shelf
set_option linter.unusedVariables false

theorem Own.rturn {w0 w w' : World} {B b : Nat} {A A' : Ar} {l : List Asrt} (h : Own w0 B (.refar b A :: l) w) (hc : ∀ ρ, RMem w ρ b A → ∃ ρ', RMem w' ρ' b A' ∧ Turn ρ ρ' w w') : Own w0 B (.refar b A' :: l) w' := by
  obtain ⟨S, ⟨ρ, hA, hS⟩, hf⟩ := h.front
  obtain ⟨ρ', hA', hT⟩ := hc ρ hA
  exact hf w' _ ⟨fun k => ρ' k ≠ 0, ⟨ρ', hA', fun _ => Iff.rfl⟩, hT.upd.mono (fun k _ hk => (hS k).2 hk), fun k hk hp => (hS k).2 (by rw [← hT.role k hk]; exact hp)⟩
/-- What a look into the document's arena finds. -/
theorem Own.rlook {w0 w : World} {B b : Nat} {A : Ar} {l : List Asrt} (o : Own w0 B l w) (hm : Asrt.refar b A ∈ l) : ∃ nb c, w.cell? ⟨b, 0, none⟩ = some (.slice (some ⟨nb, 0, none⟩) (A.ns.length + 1) c) ∧ (A.ns.length : Int) + 1 ≤ 9223372036854775807 ∧ A.ns.length + 1 ≤ c ∧ nb ≠ b ∧ nb < w.heap.size ∧ (∀ j, w.frozen? ⟨nb, j, none⟩ = false) ∧
    (∀ h W, W.cell? ⟨b, 0, none⟩ = some (.slice (some ⟨nb, 0, none⟩) (A.ns.length + 1) c) → Calls Tryz.prog 64 #[.pointer (some ⟨b, 0, none⟩), .int .i64 h] W fun e w' => e = .returned (.bool (decide (A.has h))) ∧ W = w') ∧
      ∀ x, A.has x → 1 ≤ x ∧ x ≤ A.ns.length ∧ ∃ ka kc aa ac, NodeF w nb (x.toNat * 13) (A.get x) (.slice ka (A.get x).kids.length kc) (.slice aa (A.get x).attrs.length ac) ∧ RInts w (.slice ka (A.get x).kids.length kc) (A.get x).kids ∧ RAttrs w (.slice aa (A.get x).attrs.length ac) (A.get x).attrs ∧
        w.ownsRow 0 132 3 (.slice aa (A.get x).attrs.length ac) (A.get x).attrs.length ((A.get x).attrs.flatMap attrCells) := by
  obtain ⟨ρ, hA⟩ := o.refar hm
  obtain ⟨nb, c, h0, h1, h2, h3, h4, h5, h6⟩ := hA.look
  refine ⟨nb, c, h0, h1, h2, fun e => by have := hA.2.1; rw [← e] at this; omega, hA.1 nb (by omega), h3, h5, fun x hx => ?_⟩
  obtain ⟨p1, p2, kv, av, F, hK, hAt⟩ := h6 x hx
  obtain ⟨ka, kc, rfl, -⟩ := (show RInts w kv (A.get x).kids from hK.reads).form
  obtain ⟨aa, ac, rfl, -⟩ := (show RAttrs w av (A.get x).attrs from hAt.reads).form
  exact ⟨p1, p2, ka, kc, aa, ac, F, hK.reads, hAt.reads, hAt.1⟩

set_option maxRecDepth 100000 in
set_option maxHeartbeats 1000000 in
theorem RElem_own {w0 w : World} {B b : Nat} {A : Ar} {l : List Asrt} {el s : Int} (o : Own w0 B l w) (hm : Asrt.refar b A ∈ l) :
    Calls Tryz.prog 111 #[.pointer (some ⟨b, 0, none⟩), .int .i64 el, .int .i64 s] w fun e w' => e = .returned (.int .i64 (A.attrErr el s)) ∧ w = w' := by
  obtain ⟨nb, c, h0, h1, h2, h3, h4, h5, h6, h7⟩ := o.rlook hm
  have HH := Lib.hid h6
  have HI := Lib.hid (fun W => InSpaces_any s W)
  clear o hm h6 h5 h3 h4
  by_cases hh : A.has el
  · have hd : decide (A.has el) = true := decide_eq_true hh
    obtain ⟨p1, p2, ka, kc, aa, ac, F, -, -, -⟩ := h7 el hh
    have c0 := F.c0
    by_cases hk : (A.get el).kind = 4
    · have HE : Hid (A.attrErr el s = if inSpaces s then 0 else 2) := Lib.hid (by
        unfold Ar.attrErr
        rw [if_neg (fun q => q hh), if_neg (fun q => q hk)]
        by_cases q : inSpaces s
        · rw [if_pos q, if_neg (fun z => z q)]
        · rw [if_neg q, if_pos q])
      rw [hk] at c0
      clear F h7 hh hk
      by_cases hs : inSpaces s
      · have hd2 : decide (inSpaces s) = true := decide_eq_true hs
        have HE := Lib.hid (HE.out.trans (if_pos hs))
        clear hs
        go_enter Tryz.func111, Tryz.ntmps111
        go_wp2_with fail
        refine (HH.out _ _ h0).mono ?_
        rintro e w' ⟨rfl, rfl⟩
        rw [hd]
        go_wp2_with fail
        refine (HI.out _).mono ?_
        rintro e w' ⟨rfl, rfl⟩
        rw [hd2]
        go_wp2
        go_ret
        exact ⟨by rw [HE.out]; try rfl, rfl⟩
      · have hd2 : decide (inSpaces s) = false := decide_eq_false hs
        have HE := Lib.hid (HE.out.trans (if_neg hs))
        clear hs
        go_enter Tryz.func111, Tryz.ntmps111
        go_wp2_with fail
        refine (HH.out _ _ h0).mono ?_
        rintro e w' ⟨rfl, rfl⟩
        rw [hd]
        go_wp2_with fail
        refine (HI.out _).mono ?_
        rintro e w' ⟨rfl, rfl⟩
        rw [hd2]
        go_wp2
        go_ret
        exact ⟨by rw [HE.out]; try rfl, rfl⟩
    · have HE : Hid (A.attrErr el s = 9) := Lib.hid (by unfold Ar.attrErr; rw [if_neg (fun q => q hh), if_pos hk])
      have e1 : ((A.get el).kind != 4) = true := by simp [hk]
      clear F h7 hh hk
      generalize A.get el = n at *
      go_enter Tryz.func111, Tryz.ntmps111
      go_wp2_with fail
      refine (HH.out _ _ h0).mono ?_
      rintro e w' ⟨rfl, rfl⟩
      rw [hd]
      go_wp2
      go_ret
      exact ⟨by rw [HE.out]; try rfl, rfl⟩
  · have hd : decide (A.has el) = false := decide_eq_false hh
    have HE : Hid (A.attrErr el s = 3) := Lib.hid (by unfold Ar.attrErr; rw [if_pos hh])
    clear h7 hh
    go_enter Tryz.func111, Tryz.ntmps111
    go_wp2_with fail
    refine (HH.out _ _ h0).mono ?_
    rintro e w' ⟨rfl, rfl⟩
    rw [hd]
    go_wp2
    go_ret
    exact ⟨by rw [HE.out]; try rfl, rfl⟩

/-- What find does behind the choice of the name. -/
theorem find_fact {s : Int} {nm : ByteArray} {L : List AttrD} {k : Nat} {x : AttrD} (hx : L[k]? = some x) (hT : ∀ (j : Nat) y, j < k → L[j]? = some y → attrIs s nm y = false) :
    (attrIs s nm x = true → findI (attrIs s nm) L = k) ∧ (attrIs s nm x = false → ∀ (j : Nat) y, j < k + 1 → L[j]? = some y → attrIs s nm y = false) := by
  refine ⟨fun q => findI_hit hx q hT, fun q j y h1 h2 => ?_⟩
  by_cases hj : j < k
  · exact hT j y hj h2
  · rw [show j = k by omega, hx] at h2
    simp at h2
    rw [← h2]; exact q
theorem attrIs_eq (s : Int) (nm : ByteArray) (x : AttrD) : attrIs s nm x = ((x.1 == s) && (x.2.1.toList == nm.toList)) := by
  unfold attrIs
  rw [str_beq, Bool.eq_iff_iff]
  simp

set_option maxRecDepth 100000 in
set_option maxHeartbeats 4000000 in
theorem RFind_own {w0 w : World} {B b : Nat} {A : Ar} {l : List Asrt} {el s : Int} {name : ByteArray} (o : Own w0 B l w) (hm : Asrt.refar b A ∈ l) (hS : A.Short) (hh : A.has el) (hs : name.size ≤ 1000000) :
    Calls Tryz.prog 113 #[.pointer (some ⟨b, 0, none⟩), .int .i64 el, .int .i64 s, .string name] w fun e w' => e = .returned (.tuple #[.int .i64 (A.attrAt el s name), .string (A.attrName el s name)]) ∧ Below w.heap.size w w' := by
  obtain ⟨nb, c, h0, h1, h2, h3, h4, h5, h6, h7⟩ := o.rlook hm
  obtain ⟨p1, p2, ka, kc, aa, ac, F, hK, hAt, -⟩ := h7 el hh
  have hlen := (hS.get hh).2
  have HW := Lib.hid hAt
  have HBX := Lib.hid (nodeBoxF w (A.get el) (.slice ka (A.get el).kids.length kc) (.slice aa (A.get el).attrs.length ac))
  have HT := Lib.hid (nodeBox_facts (w := w) (A.get el) ka kc aa ac (A.get el).kids.length (A.get el).attrs.length)
  have c0 := F.c0; have c1 := F.c1; have c2 := F.c2; have c3 := F.c3; have c4 := F.c4; have c5 := F.c5; have c6 := F.c6; have c7 := F.c7; have c8 := F.c8; have c9 := F.c9; have c10 := F.c10; have c11 := F.c11; have c12 := F.c12
  have HLO := Lib.hid (fun W => TLower_any name W hs)
  have HAT : Hid (A.attrAt el s name = findI (attrIs s (A.attrName el s name)) (A.get el).attrs) := Lib.hid rfl
  have HNM : Hid (A.attrName el s name = if (A.get el).space = 1 ∧ s = 0 then lowerS name else name) := Lib.hid rfl
  clear o hm hS h1 h3 h4 h5 h6 h7 hh hK hAt F
  generalize A.attrAt el s name = at' at *
  generalize A.attrName el s name = nm at *
  generalize A.get el = n at *
  obtain ⟨ab, ao, haa⟩ : ∃ ab ao, 0 < n.attrs.length → aa = some ⟨ab, ao, none⟩ := by
    by_cases hp : 0 < n.attrs.length
    · obtain ⟨a, c, e, -, -, hc⟩ := HW.out.form
      simp only [Value.slice.injEq] at e
      obtain ⟨rfl, -, -⟩ := e
      obtain ⟨b', o', e', -⟩ := hc hp
      exact ⟨b', o', fun _ => e'⟩
    · exact ⟨0, 0, fun q => absurd q hp⟩
  have HAA := Lib.hid haa
  clear haa
  by_cases hsp : n.space = 1 ∧ s = 0
  · obtain ⟨q1, q2⟩ := hsp
    have HN2 := Lib.hid (HNM.out.trans (if_pos ⟨q1, q2⟩))
    have f1 : (n.space == 1) = true := by simp [q1]
    have f2 : (s == 0) = true := by simp [q2]
    clear HNM q1 q2
    go_enter Tryz.func113, Tryz.ntmps113
    go_wp2_with ((with_reducible refine wpList_store_mid ?_ 46 (.tmp 10) (.tmp 18) ?_ w.heap.size 0 (n.cells (.slice ka n.kids.length kc) (.slice aa n.attrs.length ac)).toArray ?_ ?_ ?_ ?_ ?_ ?_); exact rfl; exact rfl; exact rfl; exact rfl; exact HT.out.1; exact sizeNode _ _ _; exact all_oneCell_toArray HT.out.2; generalize hWW : World.setCells _ _ _ _ = W at HBX ⊢; clear hWW c0 c1 c2 c3 c4 c5 c6 c7 c8 c9 c10 c11 c12 HT; have d4 := (show NodeF W w.heap.size 0 n _ _ from HBX.out.1).c4; simp only [Nat.zero_add] at d4)
    have d4 := (show NodeF W w.heap.size 0 n _ _ from HBX.out.1).c4
    simp only [Nat.zero_add] at d4
    refine (HLO.out _).mono ?_
    rintro e w2 ⟨rfl, hB2⟩
    rw [← HN2.out]
    have HB2 := Lib.hid (HBX.out.2.trans (hB2.mono HBX.out.2.size))
    have HBW := Lib.hid hB2
    have d6 := Below.old hB2 ((show NodeF W w.heap.size 0 n _ _ from HBX.out.1).c6)
    simp only [Nat.zero_add] at d6
    clear hB2 d4
    go_wp2
    go_loop [11] (fun i => ∃ k : Nat, k ≤ n.attrs.length ∧ i = .int .i64 k ∧ Hid (∀ (j : Nat) y, j < k → n.attrs[j]? = some y → attrIs s nm y = false)) (fun i => n.attrs.length - (intOf i).toNat)
    case atStart => exact ⟨0, Nat.zero_le _, rfl, Lib.hid (fun j y h => by omega)⟩
    case round =>
      obtain ⟨k, hk, rfl, hT⟩ := hrel
      by_cases hlt : k < n.attrs.length
      · obtain ⟨x, hx⟩ : ∃ x, n.attrs[k]? = some x := ⟨_, List.getElem?_eq_getElem hlt⟩
        have haa := HAA.out (by omega)
        subst haa
        obtain ⟨b', o', e', -, hcs⟩ := (HW.out.cells (by omega))
        simp only [Option.some.injEq, Addr.mk.injEq, and_true] at e'
        obtain ⟨rfl, rfl⟩ := e'
        obtain ⟨x1, x2, -⟩ := hcs k x hx
        have x1 := Below.old HB2.out x1
        have x2 := Below.old HB2.out x2
        have HFF := Lib.hid (find_fact hx hT.out)
        have HEQ := Lib.hid (attrIs_eq s nm x)
        clear hcs hx
        cases z1 : (x.1 == s) with
        | true =>
          cases z2 : (x.2.1.toList == nm.toList) with
          | true =>
            have HR := Lib.hid (HAT.out.trans (HFF.out.1 (by rw [HEQ.out, z1, z2]; rfl)))
            go_wp2
            go_ret2
            exact ⟨by rw [HR.out]; try rfl, HB2.out⟩
          | false =>
            have HR := Lib.hid (HFF.out.2 (by rw [HEQ.out, z1, z2]; rfl))
            go_wp2
            go_round
            case rel => exact ⟨k + 1, hlt, by go_num, HR⟩
            case measure => simp [intOf]; omega
        | false =>
          have HR := Lib.hid (HFF.out.2 (by rw [HEQ.out, z1]; rfl))
          go_wp2
          go_round
          case rel => exact ⟨k + 1, hlt, by go_num, HR⟩
          case measure => simp [intOf]; omega
      · have HR := Lib.hid (HAT.out.trans (findI_none (fun j y hj => hT.out j y (by have := (List.getElem?_eq_some_iff.1 hj).1; omega) hj)))
        clear hT
        go_wp2
        go_ret2
        exact ⟨by rw [HR.out]; try rfl, HB2.out⟩
  · have HN2 := Lib.hid (HNM.out.trans (if_neg hsp))
    by_cases q1 : n.space = 1
    · have f1 : (n.space == 1) = true := by simp [q1]
      have f2 : (s == 0) = false := by simp; exact fun q => hsp ⟨q1, q⟩
      clear HNM q1 hsp
      go_enter Tryz.func113, Tryz.ntmps113
      go_wp2_with ((with_reducible refine wpList_store_mid ?_ 46 (.tmp 10) (.tmp 18) ?_ w.heap.size 0 (n.cells (.slice ka n.kids.length kc) (.slice aa n.attrs.length ac)).toArray ?_ ?_ ?_ ?_ ?_ ?_); exact rfl; exact rfl; exact rfl; exact rfl; exact HT.out.1; exact sizeNode _ _ _; exact all_oneCell_toArray HT.out.2; generalize hWW : World.setCells _ _ _ _ = W at HBX ⊢; clear hWW c0 c1 c2 c3 c4 c5 c6 c7 c8 c9 c10 c11 c12 HT; have d4 := (show NodeF W w.heap.size 0 n _ _ from HBX.out.1).c4; simp only [Nat.zero_add] at d4)
      have d4 := (show NodeF W w.heap.size 0 n _ _ from HBX.out.1).c4
      have d6 := (show NodeF W w.heap.size 0 n _ _ from HBX.out.1).c6
      simp only [Nat.zero_add] at d4 d6
      have HB2 := Lib.hid HBX.out.2
      rw [← HN2.out]
      have HBW := Lib.hid (Below.refl W.heap.size W)
      go_wp2
      go_loop [11] (fun i => ∃ k : Nat, k ≤ n.attrs.length ∧ i = .int .i64 k ∧ Hid (∀ (j : Nat) y, j < k → n.attrs[j]? = some y → attrIs s nm y = false)) (fun i => n.attrs.length - (intOf i).toNat)
      case atStart => exact ⟨0, Nat.zero_le _, rfl, Lib.hid (fun j y h => by omega)⟩
      case round =>
        obtain ⟨k, hk, rfl, hT⟩ := hrel
        by_cases hlt : k < n.attrs.length
        · obtain ⟨x, hx⟩ : ∃ x, n.attrs[k]? = some x := ⟨_, List.getElem?_eq_getElem hlt⟩
          have haa := HAA.out (by omega)
          subst haa
          obtain ⟨b', o', e', -, hcs⟩ := (HW.out.cells (by omega))
          simp only [Option.some.injEq, Addr.mk.injEq, and_true] at e'
          obtain ⟨rfl, rfl⟩ := e'
          obtain ⟨x1, x2, -⟩ := hcs k x hx
          have x1 := Below.old HB2.out x1
          have x2 := Below.old HB2.out x2
          have HFF := Lib.hid (find_fact hx hT.out)
          have HEQ := Lib.hid (attrIs_eq s nm x)
          clear hcs hx
          cases z1 : (x.1 == s) with
          | true =>
            cases z2 : (x.2.1.toList == nm.toList) with
            | true =>
              have HR := Lib.hid (HAT.out.trans (HFF.out.1 (by rw [HEQ.out, z1, z2]; rfl)))
              go_wp2
              go_ret2
              exact ⟨by rw [HR.out]; try rfl, HB2.out⟩
            | false =>
              have HR := Lib.hid (HFF.out.2 (by rw [HEQ.out, z1, z2]; rfl))
              go_wp2
              go_round
              case rel => exact ⟨k + 1, hlt, by go_num, HR⟩
              case measure => simp [intOf]; omega
          | false =>
            have HR := Lib.hid (HFF.out.2 (by rw [HEQ.out, z1]; rfl))
            go_wp2
            go_round
            case rel => exact ⟨k + 1, hlt, by go_num, HR⟩
            case measure => simp [intOf]; omega
        · have HR := Lib.hid (HAT.out.trans (findI_none (fun j y hj => hT.out j y (by have := (List.getElem?_eq_some_iff.1 hj).1; omega) hj)))
          clear hT
          go_wp2
          go_ret2
          exact ⟨by rw [HR.out]; try rfl, HB2.out⟩
    · have f1 : (n.space == 1) = false := by simp [q1]
      clear HNM q1 hsp
      go_enter Tryz.func113, Tryz.ntmps113
      go_wp2_with ((with_reducible refine wpList_store_mid ?_ 46 (.tmp 10) (.tmp 18) ?_ w.heap.size 0 (n.cells (.slice ka n.kids.length kc) (.slice aa n.attrs.length ac)).toArray ?_ ?_ ?_ ?_ ?_ ?_); exact rfl; exact rfl; exact rfl; exact rfl; exact HT.out.1; exact sizeNode _ _ _; exact all_oneCell_toArray HT.out.2; generalize hWW : World.setCells _ _ _ _ = W at HBX ⊢; clear hWW c0 c1 c2 c3 c4 c5 c6 c7 c8 c9 c10 c11 c12 HT; have d4 := (show NodeF W w.heap.size 0 n _ _ from HBX.out.1).c4; simp only [Nat.zero_add] at d4)
      have d4 := (show NodeF W w.heap.size 0 n _ _ from HBX.out.1).c4
      have d6 := (show NodeF W w.heap.size 0 n _ _ from HBX.out.1).c6
      simp only [Nat.zero_add] at d4 d6
      have HB2 := Lib.hid HBX.out.2
      rw [← HN2.out]
      have HBW := Lib.hid (Below.refl W.heap.size W)
      go_wp2
      go_loop [11] (fun i => ∃ k : Nat, k ≤ n.attrs.length ∧ i = .int .i64 k ∧ Hid (∀ (j : Nat) y, j < k → n.attrs[j]? = some y → attrIs s nm y = false)) (fun i => n.attrs.length - (intOf i).toNat)
      case atStart => exact ⟨0, Nat.zero_le _, rfl, Lib.hid (fun j y h => by omega)⟩
      case round =>
        obtain ⟨k, hk, rfl, hT⟩ := hrel
        by_cases hlt : k < n.attrs.length
        · obtain ⟨x, hx⟩ : ∃ x, n.attrs[k]? = some x := ⟨_, List.getElem?_eq_getElem hlt⟩
          have haa := HAA.out (by omega)
          subst haa
          obtain ⟨b', o', e', -, hcs⟩ := (HW.out.cells (by omega))
          simp only [Option.some.injEq, Addr.mk.injEq, and_true] at e'
          obtain ⟨rfl, rfl⟩ := e'
          obtain ⟨x1, x2, -⟩ := hcs k x hx
          have x1 := Below.old HB2.out x1
          have x2 := Below.old HB2.out x2
          have HFF := Lib.hid (find_fact hx hT.out)
          have HEQ := Lib.hid (attrIs_eq s nm x)
          clear hcs hx
          cases z1 : (x.1 == s) with
          | true =>
            cases z2 : (x.2.1.toList == nm.toList) with
            | true =>
              have HR := Lib.hid (HAT.out.trans (HFF.out.1 (by rw [HEQ.out, z1, z2]; rfl)))
              go_wp2
              go_ret2
              exact ⟨by rw [HR.out]; try rfl, HB2.out⟩
            | false =>
              have HR := Lib.hid (HFF.out.2 (by rw [HEQ.out, z1, z2]; rfl))
              go_wp2
              go_round
              case rel => exact ⟨k + 1, hlt, by go_num, HR⟩
              case measure => simp [intOf]; omega
          | false =>
            have HR := Lib.hid (HFF.out.2 (by rw [HEQ.out, z1]; rfl))
            go_wp2
            go_round
            case rel => exact ⟨k + 1, hlt, by go_num, HR⟩
            case measure => simp [intOf]; omega
        · have HR := Lib.hid (HAT.out.trans (findI_none (fun j y hj => hT.out j y (by have := (List.getElem?_eq_some_iff.1 hj).1; omega) hj)))
          clear hT
          go_wp2
          go_ret2
          exact ⟨by rw [HR.out]; try rfl, HB2.out⟩


end Go.Proofs.YtpicinjcmjaogaaGreat
