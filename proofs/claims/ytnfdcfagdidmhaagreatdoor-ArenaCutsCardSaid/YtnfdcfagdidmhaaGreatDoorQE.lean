/-
  arena.Arena.dump: a tree as text, into a Builder.
-/
import Derived.Test.YtnfdcfagdidmhaaGreatDoorQP
import Derived.Test.YtnfdcfagdidmhaaGreatDoorQD
namespace Go.Proofs.YtnfdcfagdidmhaaGreatDoor
open Go.RowKit
set_option linter.unusedVariables false

abbrev IsB (B b : Nat) (l : List UInt8) (w : World) : Prop := Lib.IsBuilder 76 5 B b (Lib.byteCells l) w
theorem IsB.below {B b : Nat} {l : List UInt8} {w w' : World} (h : IsB B b l w) (hB : Below w.heap.size w w') : IsB B b l w' := by
  have key : ∀ p, Lib.BuilderAt 76 5 B b p (Lib.byteCells l) w → Lib.BuilderAt 76 5 B b p (Lib.byteCells l) w' := by
    rintro p ⟨h1, v, h2, h3, h4⟩
    exact ⟨h1, v, by rw [hB.block b (lt_of_block h2)]; exact h2, owns_below h3 hB, h4⟩
  exact h.imp (key _) (key _)
theorem RInts.cellsQ {w : World} {a : Option Addr} {n c : Nat} {l : List Int} (h : RInts w (.slice a n c) l) (hp : 0 < l.length) : ∃ b o, a = some ⟨b, o, none⟩ ∧ n = l.length ∧ ∀ j x, l[j]? = some x → w.cell? ⟨b, o + j, none⟩ = some (.int .i64 x) := by
  obtain ⟨a', c', e, h2, h3, h4⟩ := h.form
  simp at e
  obtain ⟨rfl, rfl, rfl⟩ := e
  obtain ⟨b, o, h5, h6⟩ := h4 hp
  exact ⟨b, o, h5, rfl, fun j x hx => by
    have hj := (List.getElem?_eq_some_iff.1 hx).1
    rw [h6 j hj, hx]; rfl⟩
theorem repeat_pad : ∀ d : Nat, Lib.repeatL [32, 32] d = List.replicate (2 * d) 32
  | 0 => rfl
  | d + 1 => by
    rw [show 2 * (d + 1) = 2 * d + 1 + 1 by omega, List.replicate_succ, List.replicate_succ, ← repeat_pad d]; rfl

/-- What the text of a node is written by: into a Builder in hand. -/
def DumpC (W0 : World) (b B bb : Nat) (A : Ar) (h : Int) : Prop := ∀ (d : Nat) (l : List UInt8) (W : World), Below B W0 W → IsB B bb l W → l.length + (A.dump h d).length ≤ 140737488355328 →
  Calls Tryz.prog 38 #[.pointer (some ⟨b, 0, none⟩), .pointer (some ⟨bb, 0, none⟩), .int .i64 h, .int .i64 d] W fun e W' => e = .returned (.tuple #[]) ∧ IsB B bb (l ++ A.dump h d) W' ∧ Below B W0 W'

set_option maxRecDepth 100000 in
set_option maxHeartbeats 8000000 in
theorem dump_step (W0 : World) (ρ : Nat → Nat) (b B bb : Nat) (A : Ar) (hI : A.Inv) (hA : AMem W0 ρ b A) (hB0 : B = W0.heap.size) (h : Int) (hh : A.has h)
    (hs : ((A.get h).name.size ≤ 400 ∧ (A.get h).data.size ≤ 400 ∧ (A.get h).pub.size ≤ 400 ∧ (A.get h).sys.size ≤ 400) ∧ ((A.get h).attrs.length ≤ 20 ∧ ∀ a ∈ (A.get h).attrs, attrSmall a)) (hsp : 0 ≤ (A.get h).space ∧ (A.get h).space < 100) (hasp : ∀ a ∈ (A.get h).attrs, 0 ≤ a.1 ∧ a.1 < 100)
    (hc : (A.get h).contents ≠ 0 → DumpC W0 b B bb A (A.get h).contents) (hk : ∀ k ∈ (A.get h).kids, DumpC W0 b B bb A k) : DumpC W0 b B bb A h := by
  intro d l W hW hb hlen
  obtain ⟨a, c, mv, h0, h1, hf, hlt, hm, hN⟩ := hA.head
  have hp := hh.1; have hq := hh.2; unfold Ar.n at hq
  obtain ⟨nb, rfl, hr, hnb, hfn, hNx⟩ := hN (by omega)
  obtain ⟨kv, av, F, hK, hAt⟩ := hNx h hh
  have hde := dump_eq hI hh d
  have hll : (lineD (A.get h) d).length = 2 * d + ((lineL (A.get h)).length + 1) := by unfold lineD; simp
  have hd2 : 2 * d + (lineL (A.get h)).length + 1 ≤ (A.dump h d).length := by rw [hde, List.length_append]; omega
  have HLINE := Lib.hid (fun (w : World) (q : Below W0.heap.size W0 w) => q_line nb ((h.toNat - 1) * 13) (A.get h) kv av w (F.below q) (hAt.reads.below q) hs hsp hasp)
  have HOLD := Lib.hid (fun (w : World) (q : Below W0.heap.size W0 w) (p : Addr) (v : Value) (e : W0.cell? p = some v) => Below.old q e)
  have HREP := Lib.hid (fun w => q_repeat ⟨#[32, 32]⟩ d w (by omega) (by show 2 * d ≤ _; omega))
  have c11 := F.c11
  have c2 := F.c2
  subst hB0
  have e0 := Below.old hW h0
  have HW := Lib.hid hW
  have HBL := Lib.hid hb
  have HLEN := Lib.hid (And.intro hlen hd2)
  have HDE := Lib.hid hde
  have HC := Lib.hid hc; have HK := Lib.hid hk
  clear hW hb hlen hde hll hc hk hs hsp hasp hN hNx
  go_enter Tryz.func38, Tryz.ntmps38
  go_wp2_with (go_at_call 42; refine (at_any b nb _ c h _ e0 hp hq hm).mono ?_; rintro e w' ⟨rfl, rfl⟩)
  refine (HREP.out _).mono ?_
  rintro e w1 ⟨rfl, hB1⟩
  have HB1 := Lib.hid (HW.out.trans (hB1.mono HW.out.size))
  have HI1 := Lib.hid (HBL.out.below hB1)
  clear hB1 HREP HW HBL
  have hL1 := HLEN.out
  go_wp2_with fail
  refine (q_writeString _ bb _ _ w1 HI1.out (by rw [Lib.byteCells_length]; show l.length + (Lib.repeatL [32, 32] d).length ≤ _; rw [repeat_pad, List.length_replicate]; omega) HB1.out.size).mono ?_
  rintro e w2 ⟨rfl, hI2, hB2⟩
  have HB2 := Lib.hid (HB1.out.trans hB2)
  have HI2 : Hid (IsB W0.heap.size bb (l ++ List.replicate (2 * d) 32) w2) := Lib.hid (by
    refine Or.inr ?_
    rw [Lib.byteCells_append, ← repeat_pad]; exact hI2)
  clear hI2 hB2 HI1 HB1
  have e2 := HOLD.out w2 HB2.out _ _ h0
  go_wp2_with fail
  refine (HLINE.out w2 HB2.out).mono ?_
  rintro e w3 ⟨rfl, hB3⟩
  have HB3 := Lib.hid (HB2.out.trans (hB3.mono HB2.out.size))
  have HI3 := Lib.hid (HI2.out.below hB3)
  clear hB3 HI2 HB2 HLINE e2
  go_wp2_with fail
  refine (q_writeString _ bb _ _ w3 HI3.out (by rw [Lib.byteCells_length, List.length_append, List.length_replicate]; show _ + (lineL (A.get h)).length ≤ _; omega) HB3.out.size).mono ?_
  rintro e w4 ⟨rfl, hI4, hB4⟩
  have HB4 := Lib.hid (HB3.out.trans hB4)
  have HI4 : Hid (IsB W0.heap.size bb (l ++ List.replicate (2 * d) 32 ++ lineL (A.get h)) w4) := Lib.hid (by
    refine Or.inr ?_
    rw [Lib.byteCells_append (l ++ List.replicate (2 * d) 32)]; exact hI4)
  clear hI4 hB4 HI3 HB3
  go_wp2_with fail
  refine (q_writeByte _ bb _ 10 w4 HI4.out (by rw [Lib.byteCells_length]; simp only [List.length_append, List.length_replicate]; omega) HB4.out.size).mono ?_
  rintro e w5 ⟨rfl, hI5, hB5⟩
  have HB5 := Lib.hid (HB4.out.trans hB5)
  have HI5 : Hid (IsB W0.heap.size bb (l ++ lineD (A.get h) d) w5) := Lib.hid (by
    refine Or.inr ?_
    have e : l ++ lineD (A.get h) d = l ++ List.replicate (2 * d) 32 ++ lineL (A.get h) ++ [10] := by simp [lineD]
    rw [e, Lib.byteCells_append _ [10]]; exact hI5)
  clear hI5 hB5 HI4 HB4 hL1
  have g11 := HOLD.out w5 HB5.out _ _ c11
  obtain ⟨ct, hct⟩ : ∃ ct, ct = (if (A.get h).contents ≠ 0 then A.dump (A.get h).contents (d + 1) else []) := ⟨_, rfl⟩
  have hde2 : A.dump h d = lineD (A.get h) d ++ (ct ++ (A.get h).kids.flatMap (fun k => A.dump k (d + 1))) := by rw [hct]; exact HDE.out
  have hlen2 : l.length + ((lineD (A.get h) d).length + (ct.length + ((A.get h).kids.flatMap (fun k => A.dump k (d + 1))).length)) ≤ 140737488355328 := by
    have := HLEN.out.1
    rw [hde2] at this; simpa [List.length_append] using this
  have HDE2 := Lib.hid hde2
  have HLEN2 := Lib.hid hlen2
  have HCT := Lib.hid hct
  have hdd : (d : Int) ≤ 140737488355328 := by have := HLEN.out; omega
  clear hde2 hlen2 hct HDE
  go_upto_if 31 with fail
  go_cut [31] from 31 to 41 (fun _v wx => Hid (IsB W0.heap.size bb (l ++ lineD (A.get h) d ++ ct) wx) ∧ Hid (Below W0.heap.size W0 wx))
  case first =>
    by_cases hz : (A.get h).contents = 0
    case pos =>
      have hze : ((A.get h).contents != 0) = false := by simp [hz]
      have HI6 : Hid (IsB W0.heap.size bb (l ++ lineD (A.get h) d ++ ct) w5) := Lib.hid (by
        rw [HCT.out, if_neg (fun q => q hz), List.append_nil]; exact HI5.out)
      clear hz
      go_wp2
      go_meet
      exact ⟨HI6, HB5⟩
    case neg =>
      have hze : ((A.get h).contents != 0) = true := by simp [hz]
      have hcte : ct = A.dump (A.get h).contents (d + 1) := HCT.out.trans (if_pos hz)
      have HCC := Lib.hid (HC.out hz (d + 1) (l ++ lineD (A.get h) d) w5 HB5.out HI5.out (by rw [← hcte, List.length_append]; have := HLEN2.out; omega))
      have HCTE := Lib.hid hcte
      clear hz hcte
      go_wp2_with fail
      refine HCC.out.mono ?_
      rintro e w6 ⟨rfl, hI6, hB6⟩
      rw [← HCTE.out] at hI6
      have HI6 := Lib.hid hI6
      have HB6 := Lib.hid hB6
      clear hI6 hB6
      go_wp2
      go_meet
      exact ⟨HI6, HB6⟩
  case rest =>
  obtain ⟨HI6, HB6⟩ := hcut
  obtain ⟨w6, hw⟩ : ∃ W, W = wc := ⟨_, rfl⟩
  subst hw
  have HKR := Lib.hid (fun (w : World) (q : Below W0.heap.size W0 w) => RInts.below (show RInts W0 kv (A.get h).kids from hK.reads) q)
  obtain ⟨ka, kc, rfl, hk1, hk2, -⟩ := (show RInts W0 kv (A.get h).kids from hK.reads).form
  have hkm : (A.get h).kids.length ≤ 9223372036854775807 := Nat.le_trans hk1 hk2
  have g2 := HOLD.out w6 HB6.out _ _ c2
  clear g11 HI5 HB5 HC hK hAt
  go_wp2_with fail
  go_loopw [10, 48] (fun _x i wr => ∃ k : Nat, k ≤ (A.get h).kids.length ∧ i = .int .i64 k ∧ Hid (IsB W0.heap.size bb (l ++ lineD (A.get h) d ++ ct ++ ((A.get h).kids.take k).flatMap (fun x => A.dump x (d + 1))) wr) ∧ Hid (Below W0.heap.size W0 wr)) (fun _ i _ => (A.get h).kids.length - (intOf i).toNat)
  case atStart => exact ⟨0, Nat.zero_le _, rfl, Lib.hid (by rw [List.take_zero, List.flatMap_nil, List.append_nil]; exact HI6.out), HB6⟩
  case round =>
    obtain ⟨k, hkk, rfl, HI, HB⟩ := hrel
    by_cases hlt : k < (A.get h).kids.length
    · obtain ⟨b1, o1, rfl, -, hcs⟩ := RInts.cellsQ (HKR.out wr HB.out) (by omega)
      obtain ⟨x, hx⟩ : ∃ x, (A.get h).kids[k]? = some x := ⟨_, List.getElem?_eq_getElem hlt⟩
      have d1 := hcs k x hx
      have hst : ((A.get h).kids.take (k + 1)).flatMap (fun x => A.dump x (d + 1)) = ((A.get h).kids.take k).flatMap (fun x => A.dump x (d + 1)) ++ A.dump x (d + 1) := by
        rw [List.take_add_one, hx]; simp
      have hl2 : (((A.get h).kids.take (k + 1)).flatMap (fun x => A.dump x (d + 1))).length ≤ ((A.get h).kids.flatMap (fun x => A.dump x (d + 1))).length := by
        conv => rhs; rw [← List.take_append_drop (k + 1) (A.get h).kids, List.flatMap_append, List.length_append]
        omega
      rw [hst, List.length_append] at hl2
      have HCC := Lib.hid (HK.out x (List.mem_of_getElem? hx) (d + 1) _ wr HB.out HI.out (by simp only [List.length_append]; have := HLEN2.out; omega))
      have HST := Lib.hid hst
      clear hcs hx hst hl2
      go_wp2_with fail
      refine HCC.out.mono ?_
      rintro e w7 ⟨rfl, hI7, hB7⟩
      have HI7 : Hid (IsB W0.heap.size bb (l ++ lineD (A.get h) d ++ ct ++ ((A.get h).kids.take (k + 1)).flatMap (fun x => A.dump x (d + 1))) w7) := Lib.hid (by rw [HST.out, ← List.append_assoc]; exact hI7)
      have HB7 := Lib.hid hB7
      clear hI7 hB7 HCC
      go_wp2
      go_roundw
      case rel => exact ⟨k + 1, hlt, by go_num, HI7, HB7⟩
      case measure => simp [intOf]; omega
    · have hke : (A.get h).kids.take k = (A.get h).kids := List.take_of_length_le (by omega)
      have HIE : Hid (IsB W0.heap.size bb (l ++ A.dump h d) wr) := Lib.hid (by
        have := HI.out
        rw [hke, List.append_assoc, List.append_assoc, ← HDE2.out] at this; exact this)
      clear hke
      go_wp2
      go_end0
      exact ⟨rfl, HIE.out, HB.out⟩

/-- Every tree of an arena of short strings. -/
theorem q_dump (W0 : World) (ρ : Nat → Nat) (b bb : Nat) (A : Ar) (hI : A.Inv) (hA : AMem W0 ρ b A)
    (hs : ∀ x, A.has x → ((A.get x).name.size ≤ 400 ∧ (A.get x).data.size ≤ 400 ∧ (A.get x).pub.size ≤ 400 ∧ (A.get x).sys.size ≤ 400) ∧ ((A.get x).attrs.length ≤ 20 ∧ ∀ a ∈ (A.get x).attrs, attrSmall a))
    (hsp : ∀ x, A.has x → (0 ≤ (A.get x).space ∧ (A.get x).space < 100) ∧ ∀ a ∈ (A.get x).attrs, 0 ≤ a.1 ∧ a.1 < 100) : ∀ h, A.has h → DumpC W0 b W0.heap.size bb A h :=
  walk_ind hI (fun h hh hc hk => dump_step W0 ρ b _ bb A hI hA rfl h hh (hs h hh) (hsp h hh).1 (hsp h hh).2 hc hk)

set_option maxRecDepth 100000 in
set_option maxHeartbeats 4000000 in
/-- The arena's Dump. -/
theorem q_Dump (w : World) (ρ : Nat → Nat) (b : Nat) (A : Ar) (hI : A.Inv) (hA : AMem w ρ b A)
    (hs : ∀ x, A.has x → ((A.get x).name.size ≤ 400 ∧ (A.get x).data.size ≤ 400 ∧ (A.get x).pub.size ≤ 400 ∧ (A.get x).sys.size ≤ 400) ∧ ((A.get x).attrs.length ≤ 20 ∧ ∀ a ∈ (A.get x).attrs, attrSmall a))
    (hsp : ∀ x, A.has x → (0 ≤ (A.get x).space ∧ (A.get x).space < 100) ∧ ∀ a ∈ (A.get x).attrs, 0 ≤ a.1 ∧ a.1 < 100) (h : Int) (hlen : (A.dump h 0).length ≤ 140737488355328) :
    Calls Tryz.prog 9 #[.pointer (some ⟨b, 0, none⟩), .int .i64 h] w fun e w' => e = .returned (.string ⟨(A.dump h 0).toArray⟩) ∧ Below w.heap.size w w' := by
  obtain ⟨a, c, mv, h0, h1, hf, hlt, hm, hN⟩ := hA.head
  clear hN hf h1
  have HH := Lib.hid (fun W (q : Below w.heap.size w W) => has_any A b a c h W (Below.old q h0))
  have HD := Lib.hid (fun (hh : A.has h) => q_dump w ρ b w.heap.size A hI hA hs hsp h hh 0 [])
  clear hs hsp h0 hA
  go_enter Tryz.func9, Tryz.ntmps9
  by_cases hh : A.has h
  case neg =>
    have hd : A.dump h 0 = [] := if_neg hh
    have hb : decide (A.has h) = false := decide_eq_false hh
    have HDE := Lib.hid hd
    clear hd
    go_wp2_with fail
    refine (HH.out w (Below.refl _ _)).mono ?_
    rintro e w1 ⟨rfl, rfl⟩
    rw [hb]
    go_wp2
    go_ret
    exact ⟨by rw [HDE.out]; rfl, Below.refl _ _⟩
  have hb : decide (A.has h) = true := decide_eq_true hh
  have HDD := Lib.hid (HD.out hh)
  go_wp2_with fail
  refine (HH.out w (Below.refl _ _)).mono ?_
  rintro e w1 ⟨rfl, rfl⟩
  rw [hb]
  have HFB := Lib.hid (Lib.fresh_isBuilder 76 5 w)
  have HBA := Lib.hid (below_alloc w (.cells #[.pointer none, .slice none 0 0] 76))
  go_wp2_with fail
  refine (HDD.out _ HBA.out HFB.out (by simpa using hlen)).mono ?_
  rintro e w2 ⟨rfl, hI2, hB2⟩
  have HI2 := Lib.hid hI2
  have HB2 := Lib.hid hB2
  clear hI2 hB2 HFB HBA
  go_wp2_with fail
  refine (q_string _ _ _ _ HI2.out HB2.out.size).mono ?_
  rintro e w3 ⟨rfl, hB3⟩
  have HB3 := Lib.hid (HB2.out.trans hB3)
  clear hB3
  go_wp2
  go_ret
  exact ⟨rfl, HB3.out⟩
end Go.Proofs.YtnfdcfagdidmhaaGreatDoor
