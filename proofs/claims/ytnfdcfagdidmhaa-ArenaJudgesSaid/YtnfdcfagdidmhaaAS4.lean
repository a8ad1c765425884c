/-
  The program's Sound. (Printed by genas3.py.)
-/
import Derived.Test.YtnfdcfagdidmhaaFL
import Derived.Test.YtnfdcfagdidmhaaAR
import Derived.StillTailTactics
namespace Go.Proofs.Ytnfdcfagdidmhaa
open Go.RowKit Classical
set_option linter.unusedVariables false
set_option linter.unusedSimpArgs false

def Ar.lA (A : Ar) (h : Int) : Prop := (A.get h).FieldsA ∧ ((A.get h).parent = 0 ∨ A.has (A.get h).parent) ∧ A.has (A.get h).doc ∧ (A.get (A.get h).doc).kind = 1
def Ar.lB (A : Ar) (h : Int) : Prop := (A.get h).kind = 1 → (A.get h).doc = h
def Ar.lC (A : Ar) (h : Int) : Prop := (A.get h).parent ≠ 0 → (A.get h).kind ≠ 1 ∧ (A.get h).kind ≠ 2
def Ar.lD (A : Ar) (h : Int) : Prop := ∀ k ∈ (A.get h).kids, A.has k ∧ (A.get k).parent = h
def Ar.lE (A : Ar) (h : Int) : Prop := (A.get h).contents ≠ 0 → A.has (A.get h).contents ∧ (A.get (A.get h).contents).kind = 2 ∧ (A.get (A.get h).contents).host = h
def Ar.lF (A : Ar) (h : Int) : Prop := (A.get h).host ≠ 0 → A.has (A.get h).host ∧ isTemplate (A.get (A.get h).host) ∧ (A.get (A.get h).host).contents = h
theorem lAll_iff (A : Ar) (h : Int) : (A.lA h ∧ A.lB h ∧ A.lC h ∧ A.lD h ∧ A.lE h ∧ A.lF h) ↔ A.LinksOK h := by
  constructor
  · rintro ⟨⟨⟨a1, a2⟩, a3, a4, a5⟩, b, c, d, e, f⟩
    exact ⟨a1, a4, a5, b, fun hp => ⟨a3.resolve_left hp, (c hp).1, (c hp).2⟩, d, fun ht => e (a2 ht), f⟩
  · rintro ⟨f1, f2, f3, f4, f5, f6, f7, f8⟩
    refine ⟨⟨⟨f1, fun ht => has_ne (f7 ht).1⟩, ?_, f2, f3⟩, f4, fun hp => (f5 hp).2, f6, fun hc => f7 (f1.ct hc), f8⟩
    by_cases hp : (A.get h).parent = 0
    · exact Or.inl hp
    · exact Or.inr (f5 hp).1

/-- Take an operation first; its value is found on the way. -/
theorem takeH {P : Program} {ops : Array Oper} {Q : Exit → Act → World → Prop} {md : Region.Mode} {S : World → Prop} {i : Nat} {oi : Oper} {fuel : Nat} {listed : Array Bool} {a : Act} {w : World} (hi : ops[i]? = some oi)
    (hs : Region.noSelect ops = true) (hf : Region.free md ops listed i = true) (hr : (Region.ready md ops listed).contains i = true)
    (hQ : ∀ v c a w, Q (.panic c) (a.put oi.dst v) w → Q (.panic c) a w) (hS : S w)
    (h : ∃ v, YieldsIf P ops S oi v a ∧ wpAnyH P md ops Q S fuel (listed.setIfInBounds i true) (a.put oi.dst v) w) : wpAnyH P md ops Q S (fuel + 1) listed a w := by
  obtain ⟨v, h1, h2⟩ := h
  exact wpAnyH_take hi hs hf hr (hQ v) h1 hS h2

theorem Is_any (A : Ar) (a : Option Addr) (c bx : Nat) (h : Int) (w : World) (hb : w.cell? ⟨bx, 0, none⟩ = some (.slice a A.ns.length c)) (hm : A.ns.length ≤ 100000) :
    Calls Try.prog 89 #[.int .i64 h, .pointer (some ⟨bx, 0, none⟩)] w fun e w' => e = .returned (.bool (decide (A.has h))) ∧ w = w' := by
  by_cases h1 : 1 ≤ h
  · have e1 : decide ((1 : Int) ≤ h) = true := by simp [h1]
    go_enter Try.func89, Try.ntmps89
    go_wp2
    go_ret
    exact ⟨ret_bool (by rw [Bool.eq_iff_iff]; simp [Ar.has, Ar.n, h1]), rfl⟩
  · have e1 : decide ((1 : Int) ≤ h) = false := by simp [h1]
    go_enter Try.func89, Try.ntmps89
    go_wp2
    go_ret
    exact ⟨ret_bool (decide_eq_false (fun q => by have := q.1; omega)).symm, rfl⟩

set_option maxRecDepth 100000 in
set_option maxHeartbeats 100000000 in
theorem ASound_any (A : Ar) (v : Value) (w : World) (hv : RNodes w v A.ns) (hs : A.ns.length ≤ 100000) (hat : ∀ x, A.has x → (A.get x).attrs.length ≤ 1000000) :
    Calls Try.prog 35 #[v] w fun e w' => e = .returned (.bool (decide A.SoundP)) ∧ Below w.heap.size w w' := by
  have HV := Lib.hid hv
  have HAT := Lib.hid hat
  obtain ⟨a, c, rfl, p1, p2, -⟩ := hv
  clear hat
  have hb0 := below_alloc w (.cells #[.slice a A.ns.length c] 46)
  have hc0 : (w.alloc (.cells #[.slice a A.ns.length c] 46)).cell? ⟨w.heap.size, 0, none⟩ = some (.slice a A.ns.length c) := cell_new' rfl rfl
  go_enter Try.func35, Try.ntmps35
  go_upto_region 2 with fail
  generalize w.alloc (.cells #[.slice a A.ns.length c] 46) = W0 at *
  have HB0 := Lib.hid hb0
  clear hb0
  go_wp2
  go_loopw [11] (fun i wr => ∃ k : Nat, k ≤ A.ns.length ∧ i = .int .i64 k ∧ Hid (∀ x, A.has x → x ≤ (k : Int) → A.LinksOK x) ∧ Hid (Below W0.heap.size W0 wr)) (fun i _ => A.ns.length - (intOf i).toNat)
  case atStart => exact ⟨0, Nat.zero_le _, rfl, Lib.hid (fun x hx h0 => by have := hx.1; omega), Lib.hid (Below.refl _ _)⟩
  case round =>
  obtain ⟨k, hk, rfl, hT, hB⟩ := hrel
  by_cases hlt : k < A.ns.length
  case neg =>
    have HL := Lib.hid (show ∀ x, A.has x → A.LinksOK x from fun x hx => hT.out x hx (by have := hx.2; unfold Ar.n at this; omega))
    have xb := Below.old hB.out hc0
    have HLK := Lib.hid (fun W (hW : Below wr.heap.size wr W) => ALinked_any A (.slice a A.ns.length c) W (HV.out.below (HB0.out.trans ((hB.out.trans (hW.mono hB.out.size)).mono HB0.out.size))) hs (fun h hh k hk => ((HL.out h hh).kid k hk).1))
    have HRT := Lib.hid (fun W (hW : Below wr.heap.size wr W) => Rooted_any A (.slice a A.ns.length c) W (HV.out.below (HB0.out.trans ((hB.out.trans (hW.mono hB.out.size)).mono HB0.out.size))) hs (Ar.LinksOK.up HL.out))
    have HBW := Lib.hid (HB0.out.trans (hB.out.mono HB0.out.size))
    clear hT
    go_wp2_with fail
    refine (HLK.out _ (Below.refl _ _)).mono ?_
    rintro e w5 ⟨rfl, hB5⟩
    have xb5 := Below.old hB5 xb
    have HB5 := Lib.hid hB5
    clear hB5 HLK xb
    by_cases ho : A.onceA
    case neg =>
      rw [decide_eq_false ho]
      have HO := Lib.hid ho
      clear ho
      go_wp2
      go_ret
      exact ⟨ret_bool (decide_eq_false (fun q => HO.out ((arSound_iff A).2 q).2.1)).symm, HBW.out.trans (HB5.out.mono HBW.out.size)⟩
    case pos =>
    rw [decide_eq_true ho]
    have HO := Lib.hid ho
    clear ho
    go_wp2_with fail
    refine (HRT.out _ HB5.out).mono ?_
    rintro e w6 ⟨rfl, hB6⟩
    have HB6 := Lib.hid (HB5.out.trans (hB6.mono HB5.out.size))
    have HRE := Lib.hid (show decide A.Rooted = decide A.SoundP from by rw [decide_eq_decide]; exact ⟨fun q => (arSound_iff A).1 ⟨HL.out, HO.out, q⟩, fun q => ((arSound_iff A).2 q).2.2⟩)
    clear hB6 HRT
    rw [HRE.out]
    go_wp2
    go_ret
    exact ⟨rfl, HBW.out.trans (HB6.out.mono HBW.out.size)⟩
  case pos =>
  obtain ⟨nb, o, rfl, -, hcs⟩ := HV.out.at (by omega)
  have HNS := Lib.hid (show ∀ x, A.has x → ∃ kv av, NodeF W0 nb (o + (x.toNat - 1) * 13) (A.get x) kv av ∧ RInts W0 kv (A.get x).kids ∧ RAttrs W0 av (A.get x).attrs from fun x hx => by
    obtain ⟨hi, e⟩ := Ar.get_of hx
    obtain ⟨kv, av, F, hK, hA⟩ := hcs (x.toNat - 1) _ (List.getElem?_eq_getElem hi)
    rw [e]
    exact ⟨kv, av, F.below HB0.out, hK.below HB0.out, hA.below HB0.out⟩)
  have HX : Hid (∀ x, A.has x → 1 ≤ x ∧ x ≤ (A.ns.length : Int)) := Lib.hid (fun x hx => ⟨hx.1, hx.2⟩)
  have hh : A.has ((k : Int) + 1) := ⟨by omega, by unfold Ar.n; omega⟩
  obtain ⟨kv, av, F, hK, hA⟩ := HNS.out _ hh
  rw [show (((k : Int) + 1).toNat - 1) = k by omega] at F
  obtain ⟨ka, kc, rfl, kl1, kl2, -⟩ := hK.form
  obtain ⟨aa, ac, rfl, al1, al2, -⟩ := hA.form
  have HG := Lib.hid (And.intro F (And.intro hK hA))
  have HHH := Lib.hid hh
  have HBAD : Hid (¬ A.LinksOK ((k : Int) + 1) → ¬ A.SoundP) := Lib.hid (fun q r => q (r.1 _ HHH.out))
  have HBW := Lib.hid (HB0.out.trans (hB.out.mono HB0.out.size))
  clear hcs hh F hK hA
  obtain ⟨wo, rfl⟩ : ∃ wo : World, wo = wr := ⟨_, rfl⟩
  have xb := Below.old hB.out hc0
  go_upto_region 6 with fail
  go_cut [56] from 17 to 56 (fun v wx => v = .bool (decide (¬ A.lA ((k : Int) + 1))) ∧ Hid (Below wo.heap.size wo wx))
  case first =>
    as_aux_lemma =>
      have F1 := Lib.hid (HG.out.1.below hB.out)
      have x1 := Wld.cell (w := wo) F1.out.c1; have x3 := Wld.cell (w := wo) F1.out.c3
      have xbx := Wld.cell (w := wo) xb
      have HIS1 : Hid True := Lib.hid trivial
      have HIS2 : Hid True := Lib.hid trivial
      by_cases hf : (A.get ((k : Int) + 1)).FieldsA
      case neg =>
        have HFL := Lib.hid (fun x : Wld wo => (Fields_any (A.get ((k : Int) + 1)) nb (o + k * 13) (.slice ka (A.get ((k : Int) + 1)).kids.length kc) (.slice aa (A.get ((k : Int) + 1)).attrs.length ac) x.val ((HG.out.1.below hB.out).below x.2) ((HG.out.2.1.below hB.out).below x.2) ((HG.out.2.2.below hB.out).below x.2) (HAT.out _ HHH.out)).mono (fun e w' hh => show e = .returned (.bool false) ∧ Below x.val.heap.size x.val w' from ⟨by rw [hh.1, decide_eq_false hf], hh.2⟩))
        have HN := Lib.hid (show decide (¬ A.lA ((k : Int) + 1)) = true from decide_eq_true (fun q => hf q.1))
        clear hf
        refine wp_region_below_lit (by kernel_rfl) (by kernel_rfl) ?_
        repeat (go_big_quiet_step (first | (go_at_call 90; exact Wld.call (HFL.out _)) | (go_at_call 89; (first | (with_reducible exact Wld.same (HIS1.out _)) | (with_reducible exact Wld.same (HIS2.out _))))))
        refine wpQuiet_nil ?_
        rintro _ ⟨⟨W9, hW9⟩, rfl⟩
        go_wp2_with fail
        go_meet
        exact ⟨by rw [HN.out], hW9⟩
      case pos =>
      have HFL := Lib.hid (fun x : Wld wo => (Fields_any (A.get ((k : Int) + 1)) nb (o + k * 13) (.slice ka (A.get ((k : Int) + 1)).kids.length kc) (.slice aa (A.get ((k : Int) + 1)).attrs.length ac) x.val ((HG.out.1.below hB.out).below x.2) ((HG.out.2.1.below hB.out).below x.2) ((HG.out.2.2.below hB.out).below x.2) (HAT.out _ HHH.out)).mono (fun e w' hh => show e = .returned (.bool true) ∧ Below x.val.heap.size x.val w' from ⟨by rw [hh.1, decide_eq_true hf], hh.2⟩))
      have HFA := Lib.hid hf
      clear hf
      by_cases hp : (A.get ((k : Int) + 1)).parent = 0
      case pos =>
        have ep : ((A.get ((k : Int) + 1)).parent != 0) = false := by simp [hp]
        have HP := Lib.hid hp
        clear hp
        by_cases hq : A.has (A.get ((k : Int) + 1)).doc
        case neg =>
          have HIS2 := Lib.hid (fun x : Wld wo => (Is_any A (some ⟨nb, o, none⟩) c w.heap.size (A.get ((k : Int) + 1)).doc x.val (Below.old x.2 xb) hs).mono (fun e w' hh => show e = .returned (.bool false) ∧ x.val = w' from ⟨by rw [hh.1, decide_eq_false hq], hh.2⟩))
          have HN := Lib.hid (show decide (¬ A.lA ((k : Int) + 1)) = true from decide_eq_true (fun q => hq q.2.2.1))
          clear hq
          refine wp_region_below_lit (by kernel_rfl) (by kernel_rfl) ?_
          repeat (go_big_quiet_step (first | (go_at_call 90; exact Wld.call (HFL.out _)) | (go_at_call 89; (first | (with_reducible exact Wld.same (HIS1.out _)) | (with_reducible exact Wld.same (HIS2.out _))))))
          refine wpQuiet_nil ?_
          rintro _ ⟨⟨W9, hW9⟩, rfl⟩
          go_wp2_with fail
          go_meet
          exact ⟨by rw [HN.out], hW9⟩
        case pos =>
        have HIS2 := Lib.hid (fun x : Wld wo => (Is_any A (some ⟨nb, o, none⟩) c w.heap.size (A.get ((k : Int) + 1)).doc x.val (Below.old x.2 xb) hs).mono (fun e w' hh => show e = .returned (.bool true) ∧ x.val = w' from ⟨by rw [hh.1, decide_eq_true hq], hh.2⟩))
        obtain ⟨kv', av', F', -, -⟩ := HNS.out _ hq
        have y0 := Wld.cell (w := wo) (F'.below hB.out).c0
        have hx1 := (HX.out _ hq).1
        have hx2 := (HX.out _ hq).2
        have hwrp : IntKind.i64.wrap ((A.get ((k : Int) + 1)).doc - 1) = (A.get ((k : Int) + 1)).doc - 1 := IntWalk.i64_in _ (by omega)
        have hge0 : (0 : Int) ≤ (A.get ((k : Int) + 1)).doc - 1 := by omega
        have hge1 : ¬ (A.get ((k : Int) + 1)).doc - 1 < 0 := by omega
        have hlt1 : (A.get ((k : Int) + 1)).doc - 1 < (A.ns.length : Int) := by omega
        have hnt1 : ((A.get ((k : Int) + 1)).doc - 1).toNat = (A.get ((k : Int) + 1)).doc.toNat - 1 := by omega
        have HQ := Lib.hid hq
        clear hq F'
        by_cases hk1 : (A.get (A.get ((k : Int) + 1)).doc).kind = 1
        case neg =>
          have e1 : ((A.get (A.get ((k : Int) + 1)).doc).kind != 1) = true := by simp [hk1]
          have HN := Lib.hid (show decide (¬ A.lA ((k : Int) + 1)) = true from decide_eq_true (fun q => hk1 q.2.2.2))
          clear hk1
          refine wp_region_below_lit (by kernel_rfl) (by kernel_rfl) ?_
          repeat (go_big_quiet_step (first | (go_at_call 90; exact Wld.call (HFL.out _)) | (go_at_call 89; (first | (with_reducible exact Wld.same (HIS1.out _)) | (with_reducible exact Wld.same (HIS2.out _))))))
          refine wpQuiet_nil ?_
          rintro _ ⟨⟨W9, hW9⟩, rfl⟩
          go_wp2_with fail
          go_meet
          exact ⟨by rw [HN.out], hW9⟩
        case pos =>
          have e1 : ((A.get (A.get ((k : Int) + 1)).doc).kind != 1) = false := by simp [hk1]
          have HN := Lib.hid (show decide (¬ A.lA ((k : Int) + 1)) = false from decide_eq_false (fun q => q ⟨HFA.out, Or.inl HP.out, HQ.out, hk1⟩))
          clear hk1
          refine wp_region_below_lit (by kernel_rfl) (by kernel_rfl) ?_
          repeat (go_big_quiet_step (first | (go_at_call 90; exact Wld.call (HFL.out _)) | (go_at_call 89; (first | (with_reducible exact Wld.same (HIS1.out _)) | (with_reducible exact Wld.same (HIS2.out _))))))
          refine wpQuiet_nil ?_
          rintro _ ⟨⟨W9, hW9⟩, rfl⟩
          go_wp2_with fail
          go_meet
          exact ⟨by rw [HN.out], hW9⟩
      case neg =>
      have ep : ((A.get ((k : Int) + 1)).parent != 0) = true := by simp [hp]
      have HP := Lib.hid hp
      clear hp
      by_cases hpp : A.has (A.get ((k : Int) + 1)).parent
      case neg =>
        have HIS1 := Lib.hid (fun x : Wld wo => (Is_any A (some ⟨nb, o, none⟩) c w.heap.size (A.get ((k : Int) + 1)).parent x.val (Below.old x.2 xb) hs).mono (fun e w' hh => show e = .returned (.bool false) ∧ x.val = w' from ⟨by rw [hh.1, decide_eq_false hpp], hh.2⟩))
        have HN := Lib.hid (show decide (¬ A.lA ((k : Int) + 1)) = true from decide_eq_true (fun q => q.2.1.elim HP.out hpp))
        clear hpp
        refine wp_region_below_lit (by kernel_rfl) (by kernel_rfl) ?_
        repeat (go_big_quiet_step (first | (go_at_call 90; exact Wld.call (HFL.out _)) | (go_at_call 89; (first | (with_reducible exact Wld.same (HIS1.out _)) | (with_reducible exact Wld.same (HIS2.out _))))))
        refine wpQuiet_nil ?_
        rintro _ ⟨⟨W9, hW9⟩, rfl⟩
        go_wp2_with fail
        go_meet
        exact ⟨by rw [HN.out], hW9⟩
      case pos =>
        have HIS1 := Lib.hid (fun x : Wld wo => (Is_any A (some ⟨nb, o, none⟩) c w.heap.size (A.get ((k : Int) + 1)).parent x.val (Below.old x.2 xb) hs).mono (fun e w' hh => show e = .returned (.bool true) ∧ x.val = w' from ⟨by rw [hh.1, decide_eq_true hpp], hh.2⟩))
        have HPP := Lib.hid hpp
        clear hpp
        by_cases hq : A.has (A.get ((k : Int) + 1)).doc
        case neg =>
          have HIS2 := Lib.hid (fun x : Wld wo => (Is_any A (some ⟨nb, o, none⟩) c w.heap.size (A.get ((k : Int) + 1)).doc x.val (Below.old x.2 xb) hs).mono (fun e w' hh => show e = .returned (.bool false) ∧ x.val = w' from ⟨by rw [hh.1, decide_eq_false hq], hh.2⟩))
          have HN := Lib.hid (show decide (¬ A.lA ((k : Int) + 1)) = true from decide_eq_true (fun q => hq q.2.2.1))
          clear hq
          refine wp_region_below_lit (by kernel_rfl) (by kernel_rfl) ?_
          repeat (go_big_quiet_step (first | (go_at_call 90; exact Wld.call (HFL.out _)) | (go_at_call 89; (first | (with_reducible exact Wld.same (HIS1.out _)) | (with_reducible exact Wld.same (HIS2.out _))))))
          refine wpQuiet_nil ?_
          rintro _ ⟨⟨W9, hW9⟩, rfl⟩
          go_wp2_with fail
          go_meet
          exact ⟨by rw [HN.out], hW9⟩
        case pos =>
        have HIS2 := Lib.hid (fun x : Wld wo => (Is_any A (some ⟨nb, o, none⟩) c w.heap.size (A.get ((k : Int) + 1)).doc x.val (Below.old x.2 xb) hs).mono (fun e w' hh => show e = .returned (.bool true) ∧ x.val = w' from ⟨by rw [hh.1, decide_eq_true hq], hh.2⟩))
        obtain ⟨kv', av', F', -, -⟩ := HNS.out _ hq
        have y0 := Wld.cell (w := wo) (F'.below hB.out).c0
        have hx1 := (HX.out _ hq).1
        have hx2 := (HX.out _ hq).2
        have hwrp : IntKind.i64.wrap ((A.get ((k : Int) + 1)).doc - 1) = (A.get ((k : Int) + 1)).doc - 1 := IntWalk.i64_in _ (by omega)
        have hge0 : (0 : Int) ≤ (A.get ((k : Int) + 1)).doc - 1 := by omega
        have hge1 : ¬ (A.get ((k : Int) + 1)).doc - 1 < 0 := by omega
        have hlt1 : (A.get ((k : Int) + 1)).doc - 1 < (A.ns.length : Int) := by omega
        have hnt1 : ((A.get ((k : Int) + 1)).doc - 1).toNat = (A.get ((k : Int) + 1)).doc.toNat - 1 := by omega
        have HQ := Lib.hid hq
        clear hq F'
        by_cases hk1 : (A.get (A.get ((k : Int) + 1)).doc).kind = 1
        case neg =>
          have e1 : ((A.get (A.get ((k : Int) + 1)).doc).kind != 1) = true := by simp [hk1]
          have HN := Lib.hid (show decide (¬ A.lA ((k : Int) + 1)) = true from decide_eq_true (fun q => hk1 q.2.2.2))
          clear hk1
          refine wp_region_below_lit (by kernel_rfl) (by kernel_rfl) ?_
          repeat (go_big_quiet_step (first | (go_at_call 90; exact Wld.call (HFL.out _)) | (go_at_call 89; (first | (with_reducible exact Wld.same (HIS1.out _)) | (with_reducible exact Wld.same (HIS2.out _))))))
          refine wpQuiet_nil ?_
          rintro _ ⟨⟨W9, hW9⟩, rfl⟩
          go_wp2_with fail
          go_meet
          exact ⟨by rw [HN.out], hW9⟩
        case pos =>
          have e1 : ((A.get (A.get ((k : Int) + 1)).doc).kind != 1) = false := by simp [hk1]
          have HN := Lib.hid (show decide (¬ A.lA ((k : Int) + 1)) = false from decide_eq_false (fun q => q ⟨HFA.out, Or.inr HPP.out, HQ.out, hk1⟩))
          clear hk1
          refine wp_region_below_lit (by kernel_rfl) (by kernel_rfl) ?_
          repeat (go_big_quiet_step (first | (go_at_call 90; exact Wld.call (HFL.out _)) | (go_at_call 89; (first | (with_reducible exact Wld.same (HIS1.out _)) | (with_reducible exact Wld.same (HIS2.out _))))))
          refine wpQuiet_nil ?_
          rintro _ ⟨⟨W9, hW9⟩, rfl⟩
          go_wp2_with fail
          go_meet
          exact ⟨by rw [HN.out], hW9⟩
  case rest =>
  obtain ⟨rfl, hB1⟩ := hcut
  obtain ⟨W1, hw⟩ : ∃ W, W = wc := ⟨_, rfl⟩
  subst hw
  have hBn := Lib.hid (hB.out.trans (hB1.out.mono hB.out.size))
  have xbn := Below.old hB1.out xb
  clear hB HBW hB1 xb
  have hB := hBn
  have xb := xbn
  have HBW := Lib.hid (HB0.out.trans (hB.out.mono HB0.out.size))
  clear hBn xbn
  by_cases hp : A.lA ((k : Int) + 1)
  case neg =>
    rw [show decide (¬ A.lA ((k : Int) + 1)) = true from decide_eq_true hp]
    have HP := Lib.hid hp
    clear hp
    go_wp2
    go_ret
    exact ⟨ret_bool (decide_eq_false (HBAD.out (fun q => HP.out ((lAll_iff A _).2 q).1))).symm, HBW.out⟩
  case pos =>
  rw [show decide (¬ A.lA ((k : Int) + 1)) = false from decide_eq_false (fun q => q hp)]
  have HlA := Lib.hid hp
  clear hp
  go_upto_region 8 with fail
  go_cut [70] from 57 to 70 (fun v wx => v = .bool (decide (¬ A.lB ((k : Int) + 1))) ∧ W1 = wx)
  case first =>
    as_aux_lemma =>
      have F1 := Lib.hid (HG.out.1.below hB.out)
      have x0 := F1.out.c0; have x3 := F1.out.c3
      have hwrp : IntKind.i64.wrap ((k : Int) + 1) = (k : Int) + 1 := IntWalk.i64_in _ (by omega)
      by_cases hk1 : (A.get ((k : Int) + 1)).kind = 1
      case neg =>
        have e1 : ((A.get ((k : Int) + 1)).kind == 1) = false := by simp [hk1]
        have HN := Lib.hid (show decide (¬ A.lB ((k : Int) + 1)) = false from decide_eq_false (fun q => q (fun e => absurd e hk1)))
        clear hk1
        go_wp2
        go_meet
        exact ⟨by rw [HN.out], rfl⟩
      case pos =>
      have e1 : ((A.get ((k : Int) + 1)).kind == 1) = true := by simp [hk1]
      by_cases hd : (A.get ((k : Int) + 1)).doc = ((k : Int) + 1)
      case neg =>
        have e2 : ((A.get ((k : Int) + 1)).doc != (k : Int) + 1) = true := by simp [hd]
        have HN := Lib.hid (show decide (¬ A.lB ((k : Int) + 1)) = true from decide_eq_true (fun q => hd (q hk1)))
        clear hk1 hd
        go_wp2
        go_meet
        exact ⟨by rw [HN.out], rfl⟩
      case pos =>
        have e2 : ((A.get ((k : Int) + 1)).doc != (k : Int) + 1) = false := by simp [hd]
        have HN := Lib.hid (show decide (¬ A.lB ((k : Int) + 1)) = false from decide_eq_false (fun q => q (fun _ => hd)))
        clear hk1 hd
        go_wp2
        go_meet
        exact ⟨by rw [HN.out], rfl⟩
  case rest =>
  obtain ⟨rfl, rfl⟩ := hcut
  by_cases hp : A.lB ((k : Int) + 1)
  case neg =>
    rw [show decide (¬ A.lB ((k : Int) + 1)) = true from decide_eq_true hp]
    have HP := Lib.hid hp
    clear hp
    go_wp2
    go_ret
    exact ⟨ret_bool (decide_eq_false (HBAD.out (fun q => HP.out ((lAll_iff A _).2 q).2.1))).symm, HBW.out⟩
  case pos =>
  rw [show decide (¬ A.lB ((k : Int) + 1)) = false from decide_eq_false (fun q => q hp)]
  have HlB := Lib.hid hp
  clear hp
  go_upto_region 10 with fail
  go_cut [89] from 71 to 89 (fun v wx => v = .bool (decide (¬ A.lC ((k : Int) + 1))) ∧ W1 = wx)
  case first =>
    as_aux_lemma =>
      have F1 := Lib.hid (HG.out.1.below hB.out)
      have x0 := F1.out.c0; have x1 := F1.out.c1
      by_cases hp : (A.get ((k : Int) + 1)).parent = 0
      case pos =>
        have ep : ((A.get ((k : Int) + 1)).parent != 0) = false := by simp [hp]
        have HN := Lib.hid (show decide (¬ A.lC ((k : Int) + 1)) = false from decide_eq_false (fun q => q (fun e => absurd hp e)))
        clear hp
        go_wp2
        go_meet
        exact ⟨by rw [HN.out], rfl⟩
      case neg =>
      have ep : ((A.get ((k : Int) + 1)).parent != 0) = true := by simp [hp]
      by_cases hk1 : (A.get ((k : Int) + 1)).kind = 1
      case pos =>
        have e1 : ((A.get ((k : Int) + 1)).kind == 1) = true := by simp [hk1]
        have HN := Lib.hid (show decide (¬ A.lC ((k : Int) + 1)) = true from decide_eq_true (fun q => (q hp).1 hk1))
        clear hp hk1
        go_wp2
        go_meet
        exact ⟨by rw [HN.out], rfl⟩
      case neg =>
      have e1 : ((A.get ((k : Int) + 1)).kind == 1) = false := by simp [hk1]
      by_cases hk2 : (A.get ((k : Int) + 1)).kind = 2
      case pos =>
        have e2 : ((A.get ((k : Int) + 1)).kind == 2) = true := by simp [hk2]
        have HN := Lib.hid (show decide (¬ A.lC ((k : Int) + 1)) = true from decide_eq_true (fun q => (q hp).2 hk2))
        clear hp hk1 hk2
        go_wp2
        go_meet
        exact ⟨by rw [HN.out], rfl⟩
      case neg =>
        have e2 : ((A.get ((k : Int) + 1)).kind == 2) = false := by simp [hk2]
        have HN := Lib.hid (show decide (¬ A.lC ((k : Int) + 1)) = false from decide_eq_false (fun q => q (fun _ => ⟨hk1, hk2⟩)))
        clear hp hk1 hk2
        go_wp2
        go_meet
        exact ⟨by rw [HN.out], rfl⟩
  case rest =>
  obtain ⟨rfl, rfl⟩ := hcut
  by_cases hp : A.lC ((k : Int) + 1)
  case neg =>
    rw [show decide (¬ A.lC ((k : Int) + 1)) = true from decide_eq_true hp]
    have HP := Lib.hid hp
    clear hp
    go_wp2
    go_ret
    exact ⟨ret_bool (decide_eq_false (HBAD.out (fun q => HP.out ((lAll_iff A _).2 q).2.2.1))).symm, HBW.out⟩
  case pos =>
  rw [show decide (¬ A.lC ((k : Int) + 1)) = false from decide_eq_false (fun q => q hp)]
  have HlC := Lib.hid hp
  clear hp
  have F1 := Lib.hid (HG.out.1.below hB.out)
  have x2 := F1.out.c2
  go_wp2
  go_loopw [95] (fun j wr => ∃ q : Nat, q ≤ (A.get ((k : Int) + 1)).kids.length ∧ j = .int .i64 q ∧ Hid (∀ (i : Nat) (y : Int), i < q → (A.get ((k : Int) + 1)).kids[i]? = some y → A.has y ∧ (A.get y).parent = ((k : Int) + 1)) ∧ W1 = wr) (fun j _ => (A.get ((k : Int) + 1)).kids.length - (intOf j).toNat)
  case atStart => exact ⟨0, Nat.zero_le _, rfl, Lib.hid (fun i y hi => by omega), rfl⟩
  case round =>
  obtain ⟨q, hq, rfl, hQ, rfl⟩ := hrel
  clear x2
  by_cases hlq : q < (A.get ((k : Int) + 1)).kids.length
  case pos =>
    obtain ⟨kb, ko, rfl, -, hkc⟩ := (HG.out.2.1.below hB.out).cells (by omega)
    obtain ⟨y, hy⟩ : ∃ y, (A.get ((k : Int) + 1)).kids[q]? = some y := ⟨_, List.getElem?_eq_getElem hlq⟩
    have t1 := hkc q y hy
    have HY := Lib.hid hy
    have hwrk : IntKind.i64.wrap ((k : Int) + 1) = (k : Int) + 1 := IntWalk.i64_in _ (by omega)
    clear hkc hy
    by_cases hq : A.has y
    case neg =>
      have HQ := Lib.hid hq
      clear hq
      go_wp2_with fail
      refine (Is_any A _ c w.heap.size y W1 xb hs).mono ?_
      rintro e w' ⟨rfl, rfl⟩
      rw [decide_eq_false HQ.out]
      go_wp2
      go_ret
      exact ⟨ret_bool (decide_eq_false (HBAD.out (fun z => HQ.out (z.kid y (List.mem_of_getElem? HY.out)).1))).symm, HBW.out⟩
    case pos =>
    obtain ⟨kv', av', F', -, -⟩ := HNS.out _ hq
    have y1 := (F'.below hB.out).c1
    have hx1 := (HX.out _ hq).1
    have hx2 := (HX.out _ hq).2
    have hwrp : IntKind.i64.wrap (y - 1) = y - 1 := IntWalk.i64_in _ (by omega)
    have hge0 : (0 : Int) ≤ y - 1 := by omega
    have hge1 : ¬ y - 1 < 0 := by omega
    have hlt1 : y - 1 < (A.ns.length : Int) := by omega
    have hnt1 : (y - 1).toNat = y.toNat - 1 := by omega
    have HQ := Lib.hid hq
    clear hq F'
    by_cases hpe : (A.get y).parent = ((k : Int) + 1)
    case neg =>
      have e1 : ((A.get y).parent != (k : Int) + 1) = true := by simp [hpe]
      have HPE := Lib.hid hpe
      clear hpe
      go_wp2_with fail
      refine (Is_any A _ c w.heap.size y W1 xb hs).mono ?_
      rintro e w' ⟨rfl, rfl⟩
      rw [decide_eq_true HQ.out]
      go_wp2
      go_ret
      exact ⟨ret_bool (decide_eq_false (HBAD.out (fun z => HPE.out (z.kid y (List.mem_of_getElem? HY.out)).2))).symm, HBW.out⟩
    case pos =>
      have e1 : ((A.get y).parent != (k : Int) + 1) = false := by simp [hpe]
      have HPE := Lib.hid hpe
      clear hpe
      go_wp2_with fail
      refine (Is_any A _ c w.heap.size y W1 xb hs).mono ?_
      rintro e w' ⟨rfl, rfl⟩
      rw [decide_eq_true HQ.out]
      go_wp2
      go_roundw
      case rel => exact ⟨q + 1, hlq, by go_num, Lib.hid (fun i y' hi hy' => by
        by_cases hiq : i < q
        · exact hQ.out i y' hiq hy'
        · have : i = q := by omega
          subst this
          rw [HY.out] at hy'
          injection hy' with hy'
          subst hy'
          exact ⟨HQ.out, HPE.out⟩), by first | rfl | trivial⟩
      case measure => simp [intOf]; omega
  case neg =>
  have HlD := Lib.hid (show A.lD ((k : Int) + 1) from fun y hy => by
    obtain ⟨i, hi, e⟩ := List.getElem_of_mem hy
    exact hQ.out i y (by omega) (by rw [List.getElem?_eq_getElem hi, e]))
  clear hQ
  go_upto_region 18 with fail
  go_cut [154] from 115 to 154 (fun v wx => v = .bool (decide (¬ A.lE ((k : Int) + 1))) ∧ Hid (Below W1.heap.size W1 wx))
  case first =>
    as_aux_lemma =>
      have x11 := Wld.cell (w := W1) F1.out.c11
      have xbx := Wld.cell (w := W1) xb
      have hwrk : IntKind.i64.wrap ((k : Int) + 1) = (k : Int) + 1 := IntWalk.i64_in _ (by omega)
      have HIS2 : Hid True := Lib.hid trivial
      have HFL : Hid True := Lib.hid trivial
      by_cases hz : (A.get ((k : Int) + 1)).contents = 0
      case pos =>
        have ez : ((A.get ((k : Int) + 1)).contents != 0) = false := by simp [hz]
        have HN := Lib.hid (show decide (¬ A.lE ((k : Int) + 1)) = false from decide_eq_false (fun q => q (fun e => absurd hz e)))
        clear hz
        refine wp_region_below_lit (by kernel_rfl) (by kernel_rfl) ?_
        repeat (go_big_quiet_step (first | (go_at_call 90; exact Wld.call (HFL.out _)) | (go_at_call 89; (first | (with_reducible exact Wld.same (HIS1.out _)) | (with_reducible exact Wld.same (HIS2.out _))))))
        refine wpQuiet_nil ?_
        rintro _ ⟨⟨W9, hW9⟩, rfl⟩
        go_wp2_with fail
        go_meet
        exact ⟨by rw [HN.out], hW9⟩
      case neg =>
      have ez : ((A.get ((k : Int) + 1)).contents != 0) = true := by simp [hz]
      have HZ := Lib.hid hz
      clear hz
      by_cases hq : A.has (A.get ((k : Int) + 1)).contents
      case neg =>
        have HIS1 := Lib.hid (fun x : Wld W1 => (Is_any A (some ⟨nb, o, none⟩) c w.heap.size (A.get ((k : Int) + 1)).contents x.val (Below.old x.2 xb) hs).mono (fun e w' hh => show e = .returned (.bool false) ∧ x.val = w' from ⟨by rw [hh.1, decide_eq_false hq], hh.2⟩))
        have HN := Lib.hid (show decide (¬ A.lE ((k : Int) + 1)) = true from decide_eq_true (fun q => hq (q HZ.out).1))
        clear hq
        refine wp_region_below_lit (by kernel_rfl) (by kernel_rfl) ?_
        repeat (go_big_quiet_step (first | (go_at_call 90; exact Wld.call (HFL.out _)) | (go_at_call 89; (first | (with_reducible exact Wld.same (HIS1.out _)) | (with_reducible exact Wld.same (HIS2.out _))))))
        refine wpQuiet_nil ?_
        rintro _ ⟨⟨W9, hW9⟩, rfl⟩
        go_wp2_with fail
        go_meet
        exact ⟨by rw [HN.out], hW9⟩
      case pos =>
      have HIS1 := Lib.hid (fun x : Wld W1 => (Is_any A (some ⟨nb, o, none⟩) c w.heap.size (A.get ((k : Int) + 1)).contents x.val (Below.old x.2 xb) hs).mono (fun e w' hh => show e = .returned (.bool true) ∧ x.val = w' from ⟨by rw [hh.1, decide_eq_true hq], hh.2⟩))
      obtain ⟨kv', av', F', -, -⟩ := HNS.out _ hq
      have y0 := Wld.cell (w := W1) (F'.below hB.out).c0
      have y12 := Wld.cell (w := W1) (F'.below hB.out).c12
      have hx1 := (HX.out _ hq).1
      have hx2 := (HX.out _ hq).2
      have hwrp : IntKind.i64.wrap ((A.get ((k : Int) + 1)).contents - 1) = (A.get ((k : Int) + 1)).contents - 1 := IntWalk.i64_in _ (by omega)
      have hge0 : (0 : Int) ≤ (A.get ((k : Int) + 1)).contents - 1 := by omega
      have hge1 : ¬ (A.get ((k : Int) + 1)).contents - 1 < 0 := by omega
      have hlt1 : (A.get ((k : Int) + 1)).contents - 1 < (A.ns.length : Int) := by omega
      have hnt1 : ((A.get ((k : Int) + 1)).contents - 1).toNat = (A.get ((k : Int) + 1)).contents.toNat - 1 := by omega
      have HQ := Lib.hid hq
      clear hq F'
      by_cases hk1 : (A.get (A.get ((k : Int) + 1)).contents).kind = 2
      case neg =>
        have e1 : ((A.get (A.get ((k : Int) + 1)).contents).kind != 2) = true := by simp [hk1]
        have HN := Lib.hid (show decide (¬ A.lE ((k : Int) + 1)) = true from decide_eq_true (fun q => hk1 (q HZ.out).2.1))
        clear hk1
        refine wp_region_below_lit (by kernel_rfl) (by kernel_rfl) ?_
        repeat (go_big_quiet_step (first | (go_at_call 90; exact Wld.call (HFL.out _)) | (go_at_call 89; (first | (with_reducible exact Wld.same (HIS1.out _)) | (with_reducible exact Wld.same (HIS2.out _))))))
        refine wpQuiet_nil ?_
        rintro _ ⟨⟨W9, hW9⟩, rfl⟩
        go_wp2_with fail
        go_meet
        exact ⟨by rw [HN.out], hW9⟩
      case pos =>
      have e1 : ((A.get (A.get ((k : Int) + 1)).contents).kind != 2) = false := by simp [hk1]
      have HK1 := Lib.hid hk1
      clear hk1
      by_cases hh : (A.get (A.get ((k : Int) + 1)).contents).host = ((k : Int) + 1)
      case neg =>
        have e2 : ((A.get (A.get ((k : Int) + 1)).contents).host != (k : Int) + 1) = true := by simp [hh]
        have HN := Lib.hid (show decide (¬ A.lE ((k : Int) + 1)) = true from decide_eq_true (fun q => hh (q HZ.out).2.2))
        clear hh
        refine wp_region_below_lit (by kernel_rfl) (by kernel_rfl) ?_
        repeat (go_big_quiet_step (first | (go_at_call 90; exact Wld.call (HFL.out _)) | (go_at_call 89; (first | (with_reducible exact Wld.same (HIS1.out _)) | (with_reducible exact Wld.same (HIS2.out _))))))
        refine wpQuiet_nil ?_
        rintro _ ⟨⟨W9, hW9⟩, rfl⟩
        go_wp2_with fail
        go_meet
        exact ⟨by rw [HN.out], hW9⟩
      case pos =>
        have e2 : ((A.get (A.get ((k : Int) + 1)).contents).host != (k : Int) + 1) = false := by simp [hh]
        have HN := Lib.hid (show decide (¬ A.lE ((k : Int) + 1)) = false from decide_eq_false (fun q => q (fun _ => ⟨HQ.out, HK1.out, hh⟩)))
        clear hh
        refine wp_region_below_lit (by kernel_rfl) (by kernel_rfl) ?_
        repeat (go_big_quiet_step (first | (go_at_call 90; exact Wld.call (HFL.out _)) | (go_at_call 89; (first | (with_reducible exact Wld.same (HIS1.out _)) | (with_reducible exact Wld.same (HIS2.out _))))))
        refine wpQuiet_nil ?_
        rintro _ ⟨⟨W9, hW9⟩, rfl⟩
        go_wp2_with fail
        go_meet
        exact ⟨by rw [HN.out], hW9⟩
  case rest =>
  obtain ⟨rfl, hB1⟩ := hcut
  obtain ⟨W2, hw⟩ : ∃ W, W = wc := ⟨_, rfl⟩
  subst hw
  have hBn := Lib.hid (hB.out.trans (hB1.out.mono hB.out.size))
  have xbn := Below.old hB1.out xb
  clear hB HBW hB1 xb
  have hB := hBn
  have xb := xbn
  have HBW := Lib.hid (HB0.out.trans (hB.out.mono HB0.out.size))
  clear hBn xbn
  by_cases hp : A.lE ((k : Int) + 1)
  case neg =>
    rw [show decide (¬ A.lE ((k : Int) + 1)) = true from decide_eq_true hp]
    have HP := Lib.hid hp
    clear hp
    go_wp2
    go_ret
    exact ⟨ret_bool (decide_eq_false (HBAD.out (fun q => HP.out ((lAll_iff A _).2 q).2.2.2.2.1))).symm, HBW.out⟩
  case pos =>
  rw [show decide (¬ A.lE ((k : Int) + 1)) = false from decide_eq_false (fun q => q hp)]
  have HlE := Lib.hid hp
  clear hp
  go_upto_region 20 with fail
  go_cut [196] from 155 to 196 (fun v wx => v = .bool (decide (¬ A.lF ((k : Int) + 1))) ∧ Hid (Below W2.heap.size W2 wx))
  case first =>
    have F1 := Lib.hid (HG.out.1.below hB.out)
    have x12 := F1.out.c12
    have hwrk : IntKind.i64.wrap ((k : Int) + 1) = (k : Int) + 1 := IntWalk.i64_in _ (by omega)
    have HIS2 : Hid True := Lib.hid trivial
    have HFL : Hid True := Lib.hid trivial
    by_cases hz : (A.get ((k : Int) + 1)).host = 0
    case pos =>
      have xz := Wld.cell (w := W2) x12
      have xbx := Wld.cell (w := W2) xb
      have HIS1 : Hid True := Lib.hid trivial
      have ez : ((A.get ((k : Int) + 1)).host != 0) = false := by simp [hz]
      have HN := Lib.hid (show decide (¬ A.lF ((k : Int) + 1)) = false from decide_eq_false (fun q => q (fun e => absurd hz e)))
      clear hz
      refine wp_region_below_lit (by kernel_rfl) (by kernel_rfl) ?_
      repeat (go_big_quiet_step (first | (go_at_call 90; exact Wld.call (HFL.out _)) | (go_at_call 89; (first | (with_reducible exact Wld.same (HIS1.out _)) | (with_reducible exact Wld.same (HIS2.out _))))))
      refine wpQuiet_nil ?_
      rintro _ ⟨⟨W9, hW9⟩, rfl⟩
      go_wp2_with fail
      go_meet
      exact ⟨by rw [HN.out], hW9⟩
    case neg =>
    have ez : ((A.get ((k : Int) + 1)).host != 0) = true := by simp [hz]
    have HZ := Lib.hid hz
    clear hz
    by_cases hq : A.has (A.get ((k : Int) + 1)).host
    case neg =>
      have xz := Wld.cell (w := W2) x12
      have xbx := Wld.cell (w := W2) xb
      have HIS1 := Lib.hid (fun x : Wld W2 => (Is_any A (some ⟨nb, o, none⟩) c w.heap.size (A.get ((k : Int) + 1)).host x.val (Below.old x.2 xb) hs).mono (fun e w' hh => show e = .returned (.bool false) ∧ x.val = w' from ⟨by rw [hh.1, decide_eq_false hq], hh.2⟩))
      have HN := Lib.hid (show decide (¬ A.lF ((k : Int) + 1)) = true from decide_eq_true (fun q => hq (q HZ.out).1))
      clear hq
      refine wp_region_below_lit (by kernel_rfl) (by kernel_rfl) ?_
      repeat (go_big_quiet_step (first | (go_at_call 90; exact Wld.call (HFL.out _)) | (go_at_call 89; (first | (with_reducible exact Wld.same (HIS1.out _)) | (with_reducible exact Wld.same (HIS2.out _))))))
      refine wpQuiet_nil ?_
      rintro _ ⟨⟨W9, hW9⟩, rfl⟩
      go_wp2_with fail
      go_meet
      exact ⟨by rw [HN.out], hW9⟩
    case pos =>
    have HISN := Lib.hid ((Is_any A (some ⟨nb, o, none⟩) c w.heap.size (A.get ((k : Int) + 1)).host W2.drew (Below.old (Below.drew (Below.refl _ _)) xb) hs).mono (fun e w' hh => show e = .returned (.bool true) ∧ W2.drew = w' from ⟨by rw [hh.1, decide_eq_true hq], hh.2⟩))
    obtain ⟨kv', av', F', hK', hA'⟩ := HNS.out _ hq
    obtain ⟨ka', kc', rfl, -⟩ := hK'.form
    obtain ⟨aa', ac', rfl, -⟩ := hA'.form
    have F2 := F'.below hB.out
    have y0 := F2.c0; have y1 := F2.c1; have y2 := F2.c2; have y3 := F2.c3; have y4 := F2.c4; have y5 := F2.c5; have y6 := F2.c6; have y7 := F2.c7; have y8 := F2.c8; have y9 := F2.c9; have y10 := F2.c10; have y11 := F2.c11; have y12 := F2.c12
    have hx1 := (HX.out _ hq).1
    have hx2 := (HX.out _ hq).2
    have hwrp : IntKind.i64.wrap ((A.get ((k : Int) + 1)).host - 1) = (A.get ((k : Int) + 1)).host - 1 := IntWalk.i64_in _ (by omega)
    have hge0 : (0 : Int) ≤ (A.get ((k : Int) + 1)).host - 1 := by omega
    have hge1 : ¬ (A.get ((k : Int) + 1)).host - 1 < 0 := by omega
    have hlt1 : (A.get ((k : Int) + 1)).host - 1 < (A.ns.length : Int) := by omega
    have hnt1 : ((A.get ((k : Int) + 1)).host - 1).toNat = (A.get ((k : Int) + 1)).host.toNat - 1 := by omega
    have HTE0 := Lib.hid (fun (W : World) g kv' av' (Gf : NodeF W g 0 (A.get (A.get ((k : Int) + 1)).host) kv' av') => template_any g 0 (A.get (A.get ((k : Int) + 1)).host) kv' av' W Gf)
    have HQ := Lib.hid hq
    clear hq F' hK' hA' F2
    by_cases ht : isTemplate (A.get (A.get ((k : Int) + 1)).host)
    case neg =>
      have HTE := Lib.hid (fun (W : World) g kv' av' (Gf : NodeF W g 0 (A.get (A.get ((k : Int) + 1)).host) kv' av') => (HTE0.out W g kv' av' Gf).mono (fun e w' hh => show e = .returned (.bool false) ∧ W = w' from ⟨by rw [hh.1, decide_eq_false ht], hh.2⟩))
      have HN := Lib.hid (show decide (¬ A.lF ((k : Int) + 1)) = true from decide_eq_true (fun q => ht (q HZ.out).2.1))
      clear ht HTE0
      refine wp_region_noPanic ?_
      refine wp_region_held (S := (fun w' => w'.cell? ⟨w.heap.size, 0, none⟩ = some (.slice (some ⟨nb, o, none⟩) A.ns.length c) ∧ w'.cell? ⟨nb, o + k * 13 + 12, none⟩ = some (.int .i64 (A.get ((k : Int) + 1)).host) ∧ w'.cell? ⟨nb, o + ((A.get ((k : Int) + 1)).host.toNat - 1) * 13, none⟩ = some (.int .i64 (A.get (A.get ((k : Int) + 1)).host).kind) ∧ w'.cell? ⟨nb, o + ((A.get ((k : Int) + 1)).host.toNat - 1) * 13 + 1, none⟩ = some (.int .i64 (A.get (A.get ((k : Int) + 1)).host).parent) ∧ w'.cell? ⟨nb, o + ((A.get ((k : Int) + 1)).host.toNat - 1) * 13 + 2, none⟩ = some (.slice ka' (A.get (A.get ((k : Int) + 1)).host).kids.length kc') ∧ w'.cell? ⟨nb, o + ((A.get ((k : Int) + 1)).host.toNat - 1) * 13 + 3, none⟩ = some (.int .i64 (A.get (A.get ((k : Int) + 1)).host).doc) ∧ w'.cell? ⟨nb, o + ((A.get ((k : Int) + 1)).host.toNat - 1) * 13 + 4, none⟩ = some (.int .i64 (A.get (A.get ((k : Int) + 1)).host).space) ∧ w'.cell? ⟨nb, o + ((A.get ((k : Int) + 1)).host.toNat - 1) * 13 + 5, none⟩ = some (.string (A.get (A.get ((k : Int) + 1)).host).name) ∧ w'.cell? ⟨nb, o + ((A.get ((k : Int) + 1)).host.toNat - 1) * 13 + 6, none⟩ = some (.slice aa' (A.get (A.get ((k : Int) + 1)).host).attrs.length ac') ∧ w'.cell? ⟨nb, o + ((A.get ((k : Int) + 1)).host.toNat - 1) * 13 + 7, none⟩ = some (.string (A.get (A.get ((k : Int) + 1)).host).data) ∧ w'.cell? ⟨nb, o + ((A.get ((k : Int) + 1)).host.toNat - 1) * 13 + 8, none⟩ = some (.string (A.get (A.get ((k : Int) + 1)).host).pub) ∧ w'.cell? ⟨nb, o + ((A.get ((k : Int) + 1)).host.toNat - 1) * 13 + 9, none⟩ = some (.string (A.get (A.get ((k : Int) + 1)).host).sys) ∧ w'.cell? ⟨nb, o + ((A.get ((k : Int) + 1)).host.toNat - 1) * 13 + 10, none⟩ = some (.bool (A.get (A.get ((k : Int) + 1)).host).quirks) ∧ w'.cell? ⟨nb, o + ((A.get ((k : Int) + 1)).host.toNat - 1) * 13 + 11, none⟩ = some (.int .i64 (A.get (A.get ((k : Int) + 1)).host).contents) ∧ w'.cell? ⟨nb, o + ((A.get ((k : Int) + 1)).host.toNat - 1) * 13 + 12, none⟩ = some (.int .i64 (A.get (A.get ((k : Int) + 1)).host).host))) (by kernel_rfl) ?_
      change wpAnyH _ _ _ _ _ _ _ _ (World.drew W2)
      have HSS := Lib.hid (show (fun w' => w'.cell? ⟨w.heap.size, 0, none⟩ = some (.slice (some ⟨nb, o, none⟩) A.ns.length c) ∧ w'.cell? ⟨nb, o + k * 13 + 12, none⟩ = some (.int .i64 (A.get ((k : Int) + 1)).host) ∧ w'.cell? ⟨nb, o + ((A.get ((k : Int) + 1)).host.toNat - 1) * 13, none⟩ = some (.int .i64 (A.get (A.get ((k : Int) + 1)).host).kind) ∧ w'.cell? ⟨nb, o + ((A.get ((k : Int) + 1)).host.toNat - 1) * 13 + 1, none⟩ = some (.int .i64 (A.get (A.get ((k : Int) + 1)).host).parent) ∧ w'.cell? ⟨nb, o + ((A.get ((k : Int) + 1)).host.toNat - 1) * 13 + 2, none⟩ = some (.slice ka' (A.get (A.get ((k : Int) + 1)).host).kids.length kc') ∧ w'.cell? ⟨nb, o + ((A.get ((k : Int) + 1)).host.toNat - 1) * 13 + 3, none⟩ = some (.int .i64 (A.get (A.get ((k : Int) + 1)).host).doc) ∧ w'.cell? ⟨nb, o + ((A.get ((k : Int) + 1)).host.toNat - 1) * 13 + 4, none⟩ = some (.int .i64 (A.get (A.get ((k : Int) + 1)).host).space) ∧ w'.cell? ⟨nb, o + ((A.get ((k : Int) + 1)).host.toNat - 1) * 13 + 5, none⟩ = some (.string (A.get (A.get ((k : Int) + 1)).host).name) ∧ w'.cell? ⟨nb, o + ((A.get ((k : Int) + 1)).host.toNat - 1) * 13 + 6, none⟩ = some (.slice aa' (A.get (A.get ((k : Int) + 1)).host).attrs.length ac') ∧ w'.cell? ⟨nb, o + ((A.get ((k : Int) + 1)).host.toNat - 1) * 13 + 7, none⟩ = some (.string (A.get (A.get ((k : Int) + 1)).host).data) ∧ w'.cell? ⟨nb, o + ((A.get ((k : Int) + 1)).host.toNat - 1) * 13 + 8, none⟩ = some (.string (A.get (A.get ((k : Int) + 1)).host).pub) ∧ w'.cell? ⟨nb, o + ((A.get ((k : Int) + 1)).host.toNat - 1) * 13 + 9, none⟩ = some (.string (A.get (A.get ((k : Int) + 1)).host).sys) ∧ w'.cell? ⟨nb, o + ((A.get ((k : Int) + 1)).host.toNat - 1) * 13 + 10, none⟩ = some (.bool (A.get (A.get ((k : Int) + 1)).host).quirks) ∧ w'.cell? ⟨nb, o + ((A.get ((k : Int) + 1)).host.toNat - 1) * 13 + 11, none⟩ = some (.int .i64 (A.get (A.get ((k : Int) + 1)).host).contents) ∧ w'.cell? ⟨nb, o + ((A.get ((k : Int) + 1)).host.toNat - 1) * 13 + 12, none⟩ = some (.int .i64 (A.get (A.get ((k : Int) + 1)).host).host)) W2.drew from ⟨xb, x12, y0, y1, y2, y3, y4, y5, y6, y7, y8, y9, y10, y11, y12⟩)
      refine takeH (i := 0) rfl (by kernel_rfl) (by kernel_rfl) (by kernel_rfl) (fun _ _ _ _ h => h) HSS.out ?_
      apply Exists.intro
      refine ⟨Or.inl ⟨by rfl, fun ww hww => ?_⟩, ?_⟩
      · obtain ⟨s0, s1, s2, s3, s4, s5, s6, s7, s8, s9, s10, s11, s12, s13, s14⟩ := hww
        go_simp
        try rfl
      try simp only [List.getElem_toArray, List.getElem_cons_succ, List.getElem_cons_zero, Act.put, List.setIfInBounds_toArray, List.set_cons_zero, List.set_cons_succ]
      refine takeH (i := 1) rfl (by kernel_rfl) (by kernel_rfl) (by kernel_rfl) (fun _ _ _ _ h => h) HSS.out ?_
      apply Exists.intro
      refine ⟨Or.inl ⟨by rfl, fun ww hww => ?_⟩, ?_⟩
      · obtain ⟨s0, s1, s2, s3, s4, s5, s6, s7, s8, s9, s10, s11, s12, s13, s14⟩ := hww
        go_simp
        try rfl
      try simp only [List.getElem_toArray, List.getElem_cons_succ, List.getElem_cons_zero, Act.put, List.setIfInBounds_toArray, List.set_cons_zero, List.set_cons_succ]
      refine takeH (i := 2) rfl (by kernel_rfl) (by kernel_rfl) (by kernel_rfl) (fun _ _ _ _ h => h) HSS.out ?_
      apply Exists.intro
      refine ⟨Or.inl ⟨by rfl, fun ww hww => ?_⟩, ?_⟩
      · obtain ⟨s0, s1, s2, s3, s4, s5, s6, s7, s8, s9, s10, s11, s12, s13, s14⟩ := hww
        go_simp
        try rfl
      try simp only [List.getElem_toArray, List.getElem_cons_succ, List.getElem_cons_zero, Act.put, List.setIfInBounds_toArray, List.set_cons_zero, List.set_cons_succ]
      refine takeH (i := 3) rfl (by kernel_rfl) (by kernel_rfl) (by kernel_rfl) (fun _ _ _ _ h => h) HSS.out ?_
      apply Exists.intro
      refine ⟨Or.inl ⟨by rfl, fun ww hww => ?_⟩, ?_⟩
      · obtain ⟨s0, s1, s2, s3, s4, s5, s6, s7, s8, s9, s10, s11, s12, s13, s14⟩ := hww
        go_simp
        try rfl
      try simp only [List.getElem_toArray, List.getElem_cons_succ, List.getElem_cons_zero, Act.put, List.setIfInBounds_toArray, List.set_cons_zero, List.set_cons_succ]
      refine takeH (i := 4) rfl (by kernel_rfl) (by kernel_rfl) (by kernel_rfl) (fun _ _ _ _ h => h) HSS.out ?_
      apply Exists.intro
      refine ⟨Or.inl ⟨by rfl, fun ww hww => ?_⟩, ?_⟩
      · obtain ⟨s0, s1, s2, s3, s4, s5, s6, s7, s8, s9, s10, s11, s12, s13, s14⟩ := hww
        go_simp
        try rfl
      try simp only [List.getElem_toArray, List.getElem_cons_succ, List.getElem_cons_zero, Act.put, List.setIfInBounds_toArray, List.set_cons_zero, List.set_cons_succ]
      refine takeH (i := 5) rfl (by kernel_rfl) (by kernel_rfl) (by kernel_rfl) (fun _ _ _ _ h => h) HSS.out ?_
      apply Exists.intro
      refine ⟨Or.inl ⟨by rfl, fun ww hww => ?_⟩, ?_⟩
      · obtain ⟨s0, s1, s2, s3, s4, s5, s6, s7, s8, s9, s10, s11, s12, s13, s14⟩ := hww
        go_simp
        try rfl
      try simp only [List.getElem_toArray, List.getElem_cons_succ, List.getElem_cons_zero, Act.put, List.setIfInBounds_toArray, List.set_cons_zero, List.set_cons_succ]
      refine takeH (i := 6) rfl (by kernel_rfl) (by kernel_rfl) (by kernel_rfl) (fun _ _ _ _ h => h) HSS.out ?_
      apply Exists.intro
      refine ⟨Or.inl ⟨by rfl, fun ww hww => ?_⟩, ?_⟩
      · obtain ⟨s0, s1, s2, s3, s4, s5, s6, s7, s8, s9, s10, s11, s12, s13, s14⟩ := hww
        go_simp
        try rfl
      try simp only [List.getElem_toArray, List.getElem_cons_succ, List.getElem_cons_zero, Act.put, List.setIfInBounds_toArray, List.set_cons_zero, List.set_cons_succ]
      refine takeH (i := 7) rfl (by kernel_rfl) (by kernel_rfl) (by kernel_rfl) (fun _ _ _ _ h => h) HSS.out ?_
      apply Exists.intro
      refine ⟨Or.inl ⟨by rfl, fun ww hww => ?_⟩, ?_⟩
      · obtain ⟨s0, s1, s2, s3, s4, s5, s6, s7, s8, s9, s10, s11, s12, s13, s14⟩ := hww
        go_simp
        try rfl
      try simp only [List.getElem_toArray, List.getElem_cons_succ, List.getElem_cons_zero, Act.put, List.setIfInBounds_toArray, List.set_cons_zero, List.set_cons_succ]
      refine takeH (i := 8) rfl (by kernel_rfl) (by kernel_rfl) (by kernel_rfl) (fun _ _ _ _ h => h) HSS.out ?_
      apply Exists.intro
      refine ⟨Or.inl ⟨by rfl, fun ww hww => ?_⟩, ?_⟩
      · obtain ⟨s0, s1, s2, s3, s4, s5, s6, s7, s8, s9, s10, s11, s12, s13, s14⟩ := hww
        go_simp
        try rfl
      try simp only [List.getElem_toArray, List.getElem_cons_succ, List.getElem_cons_zero, Act.put, List.setIfInBounds_toArray, List.set_cons_zero, List.set_cons_succ]
      refine takeH (i := 9) rfl (by kernel_rfl) (by kernel_rfl) (by kernel_rfl) (fun _ _ _ _ h => h) HSS.out ?_
      apply Exists.intro
      refine ⟨Or.inl ⟨by rfl, fun ww hww => ?_⟩, ?_⟩
      · obtain ⟨s0, s1, s2, s3, s4, s5, s6, s7, s8, s9, s10, s11, s12, s13, s14⟩ := hww
        go_simp
        try rfl
      try simp only [List.getElem_toArray, List.getElem_cons_succ, List.getElem_cons_zero, Act.put, List.setIfInBounds_toArray, List.set_cons_zero, List.set_cons_succ]
      refine takeH (i := 10) rfl (by kernel_rfl) (by kernel_rfl) (by kernel_rfl) (fun _ _ _ _ h => h) HSS.out ?_
      apply Exists.intro
      refine ⟨Or.inl ⟨by rfl, fun ww hww => ?_⟩, ?_⟩
      · obtain ⟨s0, s1, s2, s3, s4, s5, s6, s7, s8, s9, s10, s11, s12, s13, s14⟩ := hww
        go_simp
        try rfl
      try simp only [List.getElem_toArray, List.getElem_cons_succ, List.getElem_cons_zero, Act.put, List.setIfInBounds_toArray, List.set_cons_zero, List.set_cons_succ]
      refine wpAnyH_all (rs := [11]) (by kernel_rfl) (by simp) ?_
      intro i hi
      obtain rfl : i = 11 := by simpa using hi
      clear hi
      unfold wpOp
      go_simp
      try left
      refine HISN.out.mono ?_
      rintro e w2 ⟨rfl, rfl⟩
      refine ⟨HSS.out, ?_⟩
      try simp only [List.getElem_toArray, List.getElem_cons_succ, List.getElem_cons_zero, Act.put, List.setIfInBounds_toArray, List.set_cons_zero, List.set_cons_succ]
      refine takeH (i := 12) rfl (by kernel_rfl) (by kernel_rfl) (by kernel_rfl) (fun _ _ _ _ h => h) HSS.out ?_
      apply Exists.intro
      refine ⟨Or.inl ⟨by rfl, fun ww hww => ?_⟩, ?_⟩
      · obtain ⟨s0, s1, s2, s3, s4, s5, s6, s7, s8, s9, s10, s11, s12, s13, s14⟩ := hww
        go_simp
        try rfl
      try simp only [List.getElem_toArray, List.getElem_cons_succ, List.getElem_cons_zero, Act.put, List.setIfInBounds_toArray, List.set_cons_zero, List.set_cons_succ]
      refine takeH (i := 13) rfl (by kernel_rfl) (by kernel_rfl) (by kernel_rfl) (fun _ _ _ _ h => h) HSS.out ?_
      apply Exists.intro
      refine ⟨Or.inl ⟨by rfl, fun ww hww => ?_⟩, ?_⟩
      · obtain ⟨s0, s1, s2, s3, s4, s5, s6, s7, s8, s9, s10, s11, s12, s13, s14⟩ := hww
        go_simp
        try rfl
      try simp only [List.getElem_toArray, List.getElem_cons_succ, List.getElem_cons_zero, Act.put, List.setIfInBounds_toArray, List.set_cons_zero, List.set_cons_succ]
      refine takeH (i := 14) rfl (by kernel_rfl) (by kernel_rfl) (by kernel_rfl) (fun _ _ _ _ h => h) HSS.out ?_
      apply Exists.intro
      refine ⟨Or.inl ⟨by rfl, fun ww hww => ?_⟩, ?_⟩
      · obtain ⟨s0, s1, s2, s3, s4, s5, s6, s7, s8, s9, s10, s11, s12, s13, s14⟩ := hww
        go_simp
        try rfl
      try simp only [List.getElem_toArray, List.getElem_cons_succ, List.getElem_cons_zero, Act.put, List.setIfInBounds_toArray, List.set_cons_zero, List.set_cons_succ]
      refine takeH (i := 15) rfl (by kernel_rfl) (by kernel_rfl) (by kernel_rfl) (fun _ _ _ _ h => h) HSS.out ?_
      apply Exists.intro
      refine ⟨Or.inl ⟨by rfl, fun ww hww => ?_⟩, ?_⟩
      · obtain ⟨s0, s1, s2, s3, s4, s5, s6, s7, s8, s9, s10, s11, s12, s13, s14⟩ := hww
        go_simp
        try rfl
      try simp only [List.getElem_toArray, List.getElem_cons_succ, List.getElem_cons_zero, Act.put, List.setIfInBounds_toArray, List.set_cons_zero, List.set_cons_succ]
      refine takeH (i := 16) rfl (by kernel_rfl) (by kernel_rfl) (by kernel_rfl) (fun _ _ _ _ h => h) HSS.out ?_
      apply Exists.intro
      refine ⟨Or.inl ⟨by rfl, fun ww hww => ?_⟩, ?_⟩
      · obtain ⟨s0, s1, s2, s3, s4, s5, s6, s7, s8, s9, s10, s11, s12, s13, s14⟩ := hww
        go_simp
        try rfl
      try simp only [List.getElem_toArray, List.getElem_cons_succ, List.getElem_cons_zero, Act.put, List.setIfInBounds_toArray, List.set_cons_zero, List.set_cons_succ]
      refine takeH (i := 17) rfl (by kernel_rfl) (by kernel_rfl) (by kernel_rfl) (fun _ _ _ _ h => h) HSS.out ?_
      apply Exists.intro
      refine ⟨Or.inl ⟨by rfl, fun ww hww => ?_⟩, ?_⟩
      · obtain ⟨s0, s1, s2, s3, s4, s5, s6, s7, s8, s9, s10, s11, s12, s13, s14⟩ := hww
        go_simp
        try rfl
      try simp only [List.getElem_toArray, List.getElem_cons_succ, List.getElem_cons_zero, Act.put, List.setIfInBounds_toArray, List.set_cons_zero, List.set_cons_succ]
      refine takeH (i := 18) rfl (by kernel_rfl) (by kernel_rfl) (by kernel_rfl) (fun _ _ _ _ h => h) HSS.out ?_
      apply Exists.intro
      refine ⟨Or.inl ⟨by rfl, fun ww hww => ?_⟩, ?_⟩
      · obtain ⟨s0, s1, s2, s3, s4, s5, s6, s7, s8, s9, s10, s11, s12, s13, s14⟩ := hww
        go_simp
        try rfl
      try simp only [List.getElem_toArray, List.getElem_cons_succ, List.getElem_cons_zero, Act.put, List.setIfInBounds_toArray, List.set_cons_zero, List.set_cons_succ]
      refine takeH (i := 19) rfl (by kernel_rfl) (by kernel_rfl) (by kernel_rfl) (fun _ _ _ _ h => h) HSS.out ?_
      apply Exists.intro
      refine ⟨Or.inl ⟨by rfl, fun ww hww => ?_⟩, ?_⟩
      · obtain ⟨s0, s1, s2, s3, s4, s5, s6, s7, s8, s9, s10, s11, s12, s13, s14⟩ := hww
        go_simp
        try rfl
      try simp only [List.getElem_toArray, List.getElem_cons_succ, List.getElem_cons_zero, Act.put, List.setIfInBounds_toArray, List.set_cons_zero, List.set_cons_succ]
      refine takeH (i := 20) rfl (by kernel_rfl) (by kernel_rfl) (by kernel_rfl) (fun _ _ _ _ h => h) HSS.out ?_
      apply Exists.intro
      refine ⟨Or.inl ⟨by rfl, fun ww hww => ?_⟩, ?_⟩
      · obtain ⟨s0, s1, s2, s3, s4, s5, s6, s7, s8, s9, s10, s11, s12, s13, s14⟩ := hww
        go_simp
        try rfl
      try simp only [List.getElem_toArray, List.getElem_cons_succ, List.getElem_cons_zero, Act.put, List.setIfInBounds_toArray, List.set_cons_zero, List.set_cons_succ]
      refine takeH (i := 21) rfl (by kernel_rfl) (by kernel_rfl) (by kernel_rfl) (fun _ _ _ _ h => h) HSS.out ?_
      apply Exists.intro
      refine ⟨Or.inl ⟨by rfl, fun ww hww => ?_⟩, ?_⟩
      · obtain ⟨s0, s1, s2, s3, s4, s5, s6, s7, s8, s9, s10, s11, s12, s13, s14⟩ := hww
        go_simp
        try rfl
      try simp only [List.getElem_toArray, List.getElem_cons_succ, List.getElem_cons_zero, Act.put, List.setIfInBounds_toArray, List.set_cons_zero, List.set_cons_succ]
      refine takeH (i := 22) rfl (by kernel_rfl) (by kernel_rfl) (by kernel_rfl) (fun _ _ _ _ h => h) HSS.out ?_
      apply Exists.intro
      refine ⟨Or.inl ⟨by rfl, fun ww hww => ?_⟩, ?_⟩
      · obtain ⟨s0, s1, s2, s3, s4, s5, s6, s7, s8, s9, s10, s11, s12, s13, s14⟩ := hww
        go_simp
        try rfl
      try simp only [List.getElem_toArray, List.getElem_cons_succ, List.getElem_cons_zero, Act.put, List.setIfInBounds_toArray, List.set_cons_zero, List.set_cons_succ]
      refine wpAnyH_all (rs := [23]) (by kernel_rfl) (by simp) ?_
      intro i hi
      obtain rfl : i = 23 := by simpa using hi
      clear hi
      unfold wpOp
      go_simp
      try left
      refine ⟨⟨Below.old (below_alloc _ _) xb, Below.old (below_alloc _ _) x12, Below.old (below_alloc _ _) y0, Below.old (below_alloc _ _) y1, Below.old (below_alloc _ _) y2, Below.old (below_alloc _ _) y3, Below.old (below_alloc _ _) y4, Below.old (below_alloc _ _) y5, Below.old (below_alloc _ _) y6, Below.old (below_alloc _ _) y7, Below.old (below_alloc _ _) y8, Below.old (below_alloc _ _) y9, Below.old (below_alloc _ _) y10, Below.old (below_alloc _ _) y11, Below.old (below_alloc _ _) y12⟩, ?_⟩
      try simp only [List.getElem_toArray, List.getElem_cons_succ, List.getElem_cons_zero, Act.put, List.setIfInBounds_toArray, List.set_cons_zero, List.set_cons_succ]
      refine wpAnyH_all (rs := [24]) (by kernel_rfl) (by simp) ?_
      intro i hi
      obtain rfl : i = 24 := by simpa using hi
      clear hi
      unfold wpOp
      go_simp
      try left
      refine (HTE.out _ _ _ _ (NodeF.below (boxF W2 (A.get (A.get ((k : Int) + 1)).host) (.slice ka' (A.get (A.get ((k : Int) + 1)).host).kids.length kc') (.slice aa' (A.get (A.get ((k : Int) + 1)).host).attrs.length ac') 103) (Below.drew (Below.refl _ _)))).mono ?_
      rintro e w2 ⟨rfl, rfl⟩
      refine ⟨⟨Below.old (below_alloc _ _) xb, Below.old (below_alloc _ _) x12, Below.old (below_alloc _ _) y0, Below.old (below_alloc _ _) y1, Below.old (below_alloc _ _) y2, Below.old (below_alloc _ _) y3, Below.old (below_alloc _ _) y4, Below.old (below_alloc _ _) y5, Below.old (below_alloc _ _) y6, Below.old (below_alloc _ _) y7, Below.old (below_alloc _ _) y8, Below.old (below_alloc _ _) y9, Below.old (below_alloc _ _) y10, Below.old (below_alloc _ _) y11, Below.old (below_alloc _ _) y12⟩, ?_⟩
      try simp only [List.getElem_toArray, List.getElem_cons_succ, List.getElem_cons_zero, Act.put, List.setIfInBounds_toArray, List.set_cons_zero, List.set_cons_succ]
      refine takeH (i := 25) rfl (by kernel_rfl) (by kernel_rfl) (by kernel_rfl) (fun _ _ _ _ h => h) ⟨Below.old (below_alloc _ _) xb, Below.old (below_alloc _ _) x12, Below.old (below_alloc _ _) y0, Below.old (below_alloc _ _) y1, Below.old (below_alloc _ _) y2, Below.old (below_alloc _ _) y3, Below.old (below_alloc _ _) y4, Below.old (below_alloc _ _) y5, Below.old (below_alloc _ _) y6, Below.old (below_alloc _ _) y7, Below.old (below_alloc _ _) y8, Below.old (below_alloc _ _) y9, Below.old (below_alloc _ _) y10, Below.old (below_alloc _ _) y11, Below.old (below_alloc _ _) y12⟩ ?_
      apply Exists.intro
      refine ⟨Or.inl ⟨by rfl, fun ww hww => ?_⟩, ?_⟩
      · obtain ⟨s0, s1, s2, s3, s4, s5, s6, s7, s8, s9, s10, s11, s12, s13, s14⟩ := hww
        go_simp
        try rfl
      try simp only [List.getElem_toArray, List.getElem_cons_succ, List.getElem_cons_zero, Act.put, List.setIfInBounds_toArray, List.set_cons_zero, List.set_cons_succ]
      refine takeH (i := 26) rfl (by kernel_rfl) (by kernel_rfl) (by kernel_rfl) (fun _ _ _ _ h => h) ⟨Below.old (below_alloc _ _) xb, Below.old (below_alloc _ _) x12, Below.old (below_alloc _ _) y0, Below.old (below_alloc _ _) y1, Below.old (below_alloc _ _) y2, Below.old (below_alloc _ _) y3, Below.old (below_alloc _ _) y4, Below.old (below_alloc _ _) y5, Below.old (below_alloc _ _) y6, Below.old (below_alloc _ _) y7, Below.old (below_alloc _ _) y8, Below.old (below_alloc _ _) y9, Below.old (below_alloc _ _) y10, Below.old (below_alloc _ _) y11, Below.old (below_alloc _ _) y12⟩ ?_
      apply Exists.intro
      refine ⟨Or.inl ⟨by rfl, fun ww hww => ?_⟩, ?_⟩
      · obtain ⟨s0, s1, s2, s3, s4, s5, s6, s7, s8, s9, s10, s11, s12, s13, s14⟩ := hww
        go_simp
        try rfl
      try simp only [List.getElem_toArray, List.getElem_cons_succ, List.getElem_cons_zero, Act.put, List.setIfInBounds_toArray, List.set_cons_zero, List.set_cons_succ]
      refine takeH (i := 27) rfl (by kernel_rfl) (by kernel_rfl) (by kernel_rfl) (fun _ _ _ _ h => h) ⟨Below.old (below_alloc _ _) xb, Below.old (below_alloc _ _) x12, Below.old (below_alloc _ _) y0, Below.old (below_alloc _ _) y1, Below.old (below_alloc _ _) y2, Below.old (below_alloc _ _) y3, Below.old (below_alloc _ _) y4, Below.old (below_alloc _ _) y5, Below.old (below_alloc _ _) y6, Below.old (below_alloc _ _) y7, Below.old (below_alloc _ _) y8, Below.old (below_alloc _ _) y9, Below.old (below_alloc _ _) y10, Below.old (below_alloc _ _) y11, Below.old (below_alloc _ _) y12⟩ ?_
      apply Exists.intro
      refine ⟨Or.inl ⟨by rfl, fun ww hww => ?_⟩, ?_⟩
      · obtain ⟨s0, s1, s2, s3, s4, s5, s6, s7, s8, s9, s10, s11, s12, s13, s14⟩ := hww
        go_simp
        try rfl
      try simp only [List.getElem_toArray, List.getElem_cons_succ, List.getElem_cons_zero, Act.put, List.setIfInBounds_toArray, List.set_cons_zero, List.set_cons_succ]
      refine wpAnyH_take (i := 28) (v := undef) rfl (by kernel_rfl) (by kernel_rfl) (by kernel_rfl) (fun _ _ _ h => h) (Or.inr ⟨by rfl, rfl⟩) ⟨Below.old (below_alloc _ _) xb, Below.old (below_alloc _ _) x12, Below.old (below_alloc _ _) y0, Below.old (below_alloc _ _) y1, Below.old (below_alloc _ _) y2, Below.old (below_alloc _ _) y3, Below.old (below_alloc _ _) y4, Below.old (below_alloc _ _) y5, Below.old (below_alloc _ _) y6, Below.old (below_alloc _ _) y7, Below.old (below_alloc _ _) y8, Below.old (below_alloc _ _) y9, Below.old (below_alloc _ _) y10, Below.old (below_alloc _ _) y11, Below.old (below_alloc _ _) y12⟩ ?_
      try simp only [List.getElem_toArray, List.getElem_cons_succ, List.getElem_cons_zero, Act.put, List.setIfInBounds_toArray, List.set_cons_zero, List.set_cons_succ]
      refine wpAnyH_take (i := 29) (v := undef) rfl (by kernel_rfl) (by kernel_rfl) (by kernel_rfl) (fun _ _ _ h => h) (Or.inr ⟨by rfl, rfl⟩) ⟨Below.old (below_alloc _ _) xb, Below.old (below_alloc _ _) x12, Below.old (below_alloc _ _) y0, Below.old (below_alloc _ _) y1, Below.old (below_alloc _ _) y2, Below.old (below_alloc _ _) y3, Below.old (below_alloc _ _) y4, Below.old (below_alloc _ _) y5, Below.old (below_alloc _ _) y6, Below.old (below_alloc _ _) y7, Below.old (below_alloc _ _) y8, Below.old (below_alloc _ _) y9, Below.old (below_alloc _ _) y10, Below.old (below_alloc _ _) y11, Below.old (below_alloc _ _) y12⟩ ?_
      try simp only [List.getElem_toArray, List.getElem_cons_succ, List.getElem_cons_zero, Act.put, List.setIfInBounds_toArray, List.set_cons_zero, List.set_cons_succ]
      refine wpAnyH_take (i := 30) (v := undef) rfl (by kernel_rfl) (by kernel_rfl) (by kernel_rfl) (fun _ _ _ h => h) (Or.inr ⟨by rfl, rfl⟩) ⟨Below.old (below_alloc _ _) xb, Below.old (below_alloc _ _) x12, Below.old (below_alloc _ _) y0, Below.old (below_alloc _ _) y1, Below.old (below_alloc _ _) y2, Below.old (below_alloc _ _) y3, Below.old (below_alloc _ _) y4, Below.old (below_alloc _ _) y5, Below.old (below_alloc _ _) y6, Below.old (below_alloc _ _) y7, Below.old (below_alloc _ _) y8, Below.old (below_alloc _ _) y9, Below.old (below_alloc _ _) y10, Below.old (below_alloc _ _) y11, Below.old (below_alloc _ _) y12⟩ ?_
      try simp only [List.getElem_toArray, List.getElem_cons_succ, List.getElem_cons_zero, Act.put, List.setIfInBounds_toArray, List.set_cons_zero, List.set_cons_succ]
      refine wpAnyH_take (i := 31) (v := undef) rfl (by kernel_rfl) (by kernel_rfl) (by kernel_rfl) (fun _ _ _ h => h) (Or.inr ⟨by rfl, rfl⟩) ⟨Below.old (below_alloc _ _) xb, Below.old (below_alloc _ _) x12, Below.old (below_alloc _ _) y0, Below.old (below_alloc _ _) y1, Below.old (below_alloc _ _) y2, Below.old (below_alloc _ _) y3, Below.old (below_alloc _ _) y4, Below.old (below_alloc _ _) y5, Below.old (below_alloc _ _) y6, Below.old (below_alloc _ _) y7, Below.old (below_alloc _ _) y8, Below.old (below_alloc _ _) y9, Below.old (below_alloc _ _) y10, Below.old (below_alloc _ _) y11, Below.old (below_alloc _ _) y12⟩ ?_
      try simp only [List.getElem_toArray, List.getElem_cons_succ, List.getElem_cons_zero, Act.put, List.setIfInBounds_toArray, List.set_cons_zero, List.set_cons_succ]
      refine wpAnyH_take (i := 32) (v := undef) rfl (by kernel_rfl) (by kernel_rfl) (by kernel_rfl) (fun _ _ _ h => h) (Or.inr ⟨by rfl, rfl⟩) ⟨Below.old (below_alloc _ _) xb, Below.old (below_alloc _ _) x12, Below.old (below_alloc _ _) y0, Below.old (below_alloc _ _) y1, Below.old (below_alloc _ _) y2, Below.old (below_alloc _ _) y3, Below.old (below_alloc _ _) y4, Below.old (below_alloc _ _) y5, Below.old (below_alloc _ _) y6, Below.old (below_alloc _ _) y7, Below.old (below_alloc _ _) y8, Below.old (below_alloc _ _) y9, Below.old (below_alloc _ _) y10, Below.old (below_alloc _ _) y11, Below.old (below_alloc _ _) y12⟩ ?_
      try simp only [List.getElem_toArray, List.getElem_cons_succ, List.getElem_cons_zero, Act.put, List.setIfInBounds_toArray, List.set_cons_zero, List.set_cons_succ]
      refine wpAnyH_take (i := 33) (v := undef) rfl (by kernel_rfl) (by kernel_rfl) (by kernel_rfl) (fun _ _ _ h => h) (Or.inr ⟨by rfl, rfl⟩) ⟨Below.old (below_alloc _ _) xb, Below.old (below_alloc _ _) x12, Below.old (below_alloc _ _) y0, Below.old (below_alloc _ _) y1, Below.old (below_alloc _ _) y2, Below.old (below_alloc _ _) y3, Below.old (below_alloc _ _) y4, Below.old (below_alloc _ _) y5, Below.old (below_alloc _ _) y6, Below.old (below_alloc _ _) y7, Below.old (below_alloc _ _) y8, Below.old (below_alloc _ _) y9, Below.old (below_alloc _ _) y10, Below.old (below_alloc _ _) y11, Below.old (below_alloc _ _) y12⟩ ?_
      try simp only [List.getElem_toArray, List.getElem_cons_succ, List.getElem_cons_zero, Act.put, List.setIfInBounds_toArray, List.set_cons_zero, List.set_cons_succ]
      refine wpAnyH_take (i := 34) (v := undef) rfl (by kernel_rfl) (by kernel_rfl) (by kernel_rfl) (fun _ _ _ h => h) (Or.inr ⟨by rfl, rfl⟩) ⟨Below.old (below_alloc _ _) xb, Below.old (below_alloc _ _) x12, Below.old (below_alloc _ _) y0, Below.old (below_alloc _ _) y1, Below.old (below_alloc _ _) y2, Below.old (below_alloc _ _) y3, Below.old (below_alloc _ _) y4, Below.old (below_alloc _ _) y5, Below.old (below_alloc _ _) y6, Below.old (below_alloc _ _) y7, Below.old (below_alloc _ _) y8, Below.old (below_alloc _ _) y9, Below.old (below_alloc _ _) y10, Below.old (below_alloc _ _) y11, Below.old (below_alloc _ _) y12⟩ ?_
      try simp only [List.getElem_toArray, List.getElem_cons_succ, List.getElem_cons_zero, Act.put, List.setIfInBounds_toArray, List.set_cons_zero, List.set_cons_succ]
      refine wpAnyH_take (i := 35) (v := undef) rfl (by kernel_rfl) (by kernel_rfl) (by kernel_rfl) (fun _ _ _ h => h) (Or.inr ⟨by rfl, rfl⟩) ⟨Below.old (below_alloc _ _) xb, Below.old (below_alloc _ _) x12, Below.old (below_alloc _ _) y0, Below.old (below_alloc _ _) y1, Below.old (below_alloc _ _) y2, Below.old (below_alloc _ _) y3, Below.old (below_alloc _ _) y4, Below.old (below_alloc _ _) y5, Below.old (below_alloc _ _) y6, Below.old (below_alloc _ _) y7, Below.old (below_alloc _ _) y8, Below.old (below_alloc _ _) y9, Below.old (below_alloc _ _) y10, Below.old (below_alloc _ _) y11, Below.old (below_alloc _ _) y12⟩ ?_
      try simp only [List.getElem_toArray, List.getElem_cons_succ, List.getElem_cons_zero, Act.put, List.setIfInBounds_toArray, List.set_cons_zero, List.set_cons_succ]
      refine wpAnyH_take (i := 36) (v := undef) rfl (by kernel_rfl) (by kernel_rfl) (by kernel_rfl) (fun _ _ _ h => h) (Or.inr ⟨by rfl, rfl⟩) ⟨Below.old (below_alloc _ _) xb, Below.old (below_alloc _ _) x12, Below.old (below_alloc _ _) y0, Below.old (below_alloc _ _) y1, Below.old (below_alloc _ _) y2, Below.old (below_alloc _ _) y3, Below.old (below_alloc _ _) y4, Below.old (below_alloc _ _) y5, Below.old (below_alloc _ _) y6, Below.old (below_alloc _ _) y7, Below.old (below_alloc _ _) y8, Below.old (below_alloc _ _) y9, Below.old (below_alloc _ _) y10, Below.old (below_alloc _ _) y11, Below.old (below_alloc _ _) y12⟩ ?_
      try simp only [List.getElem_toArray, List.getElem_cons_succ, List.getElem_cons_zero, Act.put, List.setIfInBounds_toArray, List.set_cons_zero, List.set_cons_succ]
      refine wpAnyH_take (i := 37) (v := undef) rfl (by kernel_rfl) (by kernel_rfl) (by kernel_rfl) (fun _ _ _ h => h) (Or.inr ⟨by rfl, rfl⟩) ⟨Below.old (below_alloc _ _) xb, Below.old (below_alloc _ _) x12, Below.old (below_alloc _ _) y0, Below.old (below_alloc _ _) y1, Below.old (below_alloc _ _) y2, Below.old (below_alloc _ _) y3, Below.old (below_alloc _ _) y4, Below.old (below_alloc _ _) y5, Below.old (below_alloc _ _) y6, Below.old (below_alloc _ _) y7, Below.old (below_alloc _ _) y8, Below.old (below_alloc _ _) y9, Below.old (below_alloc _ _) y10, Below.old (below_alloc _ _) y11, Below.old (below_alloc _ _) y12⟩ ?_
      try simp only [List.getElem_toArray, List.getElem_cons_succ, List.getElem_cons_zero, Act.put, List.setIfInBounds_toArray, List.set_cons_zero, List.set_cons_succ]
      refine wpAnyH_take (i := 38) (v := undef) rfl (by kernel_rfl) (by kernel_rfl) (by kernel_rfl) (fun _ _ _ h => h) (Or.inr ⟨by rfl, rfl⟩) ⟨Below.old (below_alloc _ _) xb, Below.old (below_alloc _ _) x12, Below.old (below_alloc _ _) y0, Below.old (below_alloc _ _) y1, Below.old (below_alloc _ _) y2, Below.old (below_alloc _ _) y3, Below.old (below_alloc _ _) y4, Below.old (below_alloc _ _) y5, Below.old (below_alloc _ _) y6, Below.old (below_alloc _ _) y7, Below.old (below_alloc _ _) y8, Below.old (below_alloc _ _) y9, Below.old (below_alloc _ _) y10, Below.old (below_alloc _ _) y11, Below.old (below_alloc _ _) y12⟩ ?_
      try simp only [List.getElem_toArray, List.getElem_cons_succ, List.getElem_cons_zero, Act.put, List.setIfInBounds_toArray, List.set_cons_zero, List.set_cons_succ]
      refine wpAnyH_take (i := 39) (v := undef) rfl (by kernel_rfl) (by kernel_rfl) (by kernel_rfl) (fun _ _ _ h => h) (Or.inr ⟨by rfl, rfl⟩) ⟨Below.old (below_alloc _ _) xb, Below.old (below_alloc _ _) x12, Below.old (below_alloc _ _) y0, Below.old (below_alloc _ _) y1, Below.old (below_alloc _ _) y2, Below.old (below_alloc _ _) y3, Below.old (below_alloc _ _) y4, Below.old (below_alloc _ _) y5, Below.old (below_alloc _ _) y6, Below.old (below_alloc _ _) y7, Below.old (below_alloc _ _) y8, Below.old (below_alloc _ _) y9, Below.old (below_alloc _ _) y10, Below.old (below_alloc _ _) y11, Below.old (below_alloc _ _) y12⟩ ?_
      try simp only [List.getElem_toArray, List.getElem_cons_succ, List.getElem_cons_zero, Act.put, List.setIfInBounds_toArray, List.set_cons_zero, List.set_cons_succ]
      refine takeH (i := 40) rfl (by kernel_rfl) (by kernel_rfl) (by kernel_rfl) (fun _ _ _ _ h => h) ⟨Below.old (below_alloc _ _) xb, Below.old (below_alloc _ _) x12, Below.old (below_alloc _ _) y0, Below.old (below_alloc _ _) y1, Below.old (below_alloc _ _) y2, Below.old (below_alloc _ _) y3, Below.old (below_alloc _ _) y4, Below.old (below_alloc _ _) y5, Below.old (below_alloc _ _) y6, Below.old (below_alloc _ _) y7, Below.old (below_alloc _ _) y8, Below.old (below_alloc _ _) y9, Below.old (below_alloc _ _) y10, Below.old (below_alloc _ _) y11, Below.old (below_alloc _ _) y12⟩ ?_
      apply Exists.intro
      refine ⟨Or.inl ⟨by rfl, fun ww hww => ?_⟩, ?_⟩
      · obtain ⟨s0, s1, s2, s3, s4, s5, s6, s7, s8, s9, s10, s11, s12, s13, s14⟩ := hww
        go_simp
        try rfl
      try simp only [List.getElem_toArray, List.getElem_cons_succ, List.getElem_cons_zero, Act.put, List.setIfInBounds_toArray, List.set_cons_zero, List.set_cons_succ]
      refine takeH (i := 41) rfl (by kernel_rfl) (by kernel_rfl) (by kernel_rfl) (fun _ _ _ _ h => h) ⟨Below.old (below_alloc _ _) xb, Below.old (below_alloc _ _) x12, Below.old (below_alloc _ _) y0, Below.old (below_alloc _ _) y1, Below.old (below_alloc _ _) y2, Below.old (below_alloc _ _) y3, Below.old (below_alloc _ _) y4, Below.old (below_alloc _ _) y5, Below.old (below_alloc _ _) y6, Below.old (below_alloc _ _) y7, Below.old (below_alloc _ _) y8, Below.old (below_alloc _ _) y9, Below.old (below_alloc _ _) y10, Below.old (below_alloc _ _) y11, Below.old (below_alloc _ _) y12⟩ ?_
      apply Exists.intro
      refine ⟨Or.inl ⟨by rfl, fun ww hww => ?_⟩, ?_⟩
      · obtain ⟨s0, s1, s2, s3, s4, s5, s6, s7, s8, s9, s10, s11, s12, s13, s14⟩ := hww
        go_simp
        try rfl
      try simp only [List.getElem_toArray, List.getElem_cons_succ, List.getElem_cons_zero, Act.put, List.setIfInBounds_toArray, List.set_cons_zero, List.set_cons_succ]
      refine wpAnyH_done (by kernel_rfl) ?_ _
      refine NoPanic.normal ?_
      go_wp2_with fail
      go_meet
      exact ⟨by rw [HN.out], Below.drew (below_alloc _ _)⟩
    case pos =>
    have HTE := Lib.hid (fun (W : World) g kv' av' (Gf : NodeF W g 0 (A.get (A.get ((k : Int) + 1)).host) kv' av') => (HTE0.out W g kv' av' Gf).mono (fun e w' hh => show e = .returned (.bool true) ∧ W = w' from ⟨by rw [hh.1, decide_eq_true ht], hh.2⟩))
    have HT := Lib.hid ht
    clear ht HTE0
    have HN := Lib.hid (show ((A.get (A.get ((k : Int) + 1)).host).contents != (k : Int) + 1) = decide (¬ A.lF ((k : Int) + 1)) from by
      rw [Bool.eq_iff_iff, decide_eq_true_iff, bne_iff_ne]
      exact ⟨fun e q => e (q HZ.out).2.2, fun q e => q (fun _ => ⟨HQ.out, HT.out, e⟩)⟩)
    go_region_held3 (fun w' => w'.cell? ⟨w.heap.size, 0, none⟩ = some (.slice (some ⟨nb, o, none⟩) A.ns.length c) ∧ w'.cell? ⟨nb, o + k * 13 + 12, none⟩ = some (.int .i64 (A.get ((k : Int) + 1)).host) ∧ w'.cell? ⟨nb, o + ((A.get ((k : Int) + 1)).host.toNat - 1) * 13, none⟩ = some (.int .i64 (A.get (A.get ((k : Int) + 1)).host).kind) ∧ w'.cell? ⟨nb, o + ((A.get ((k : Int) + 1)).host.toNat - 1) * 13 + 1, none⟩ = some (.int .i64 (A.get (A.get ((k : Int) + 1)).host).parent) ∧ w'.cell? ⟨nb, o + ((A.get ((k : Int) + 1)).host.toNat - 1) * 13 + 2, none⟩ = some (.slice ka' (A.get (A.get ((k : Int) + 1)).host).kids.length kc') ∧ w'.cell? ⟨nb, o + ((A.get ((k : Int) + 1)).host.toNat - 1) * 13 + 3, none⟩ = some (.int .i64 (A.get (A.get ((k : Int) + 1)).host).doc) ∧ w'.cell? ⟨nb, o + ((A.get ((k : Int) + 1)).host.toNat - 1) * 13 + 4, none⟩ = some (.int .i64 (A.get (A.get ((k : Int) + 1)).host).space) ∧ w'.cell? ⟨nb, o + ((A.get ((k : Int) + 1)).host.toNat - 1) * 13 + 5, none⟩ = some (.string (A.get (A.get ((k : Int) + 1)).host).name) ∧ w'.cell? ⟨nb, o + ((A.get ((k : Int) + 1)).host.toNat - 1) * 13 + 6, none⟩ = some (.slice aa' (A.get (A.get ((k : Int) + 1)).host).attrs.length ac') ∧ w'.cell? ⟨nb, o + ((A.get ((k : Int) + 1)).host.toNat - 1) * 13 + 7, none⟩ = some (.string (A.get (A.get ((k : Int) + 1)).host).data) ∧ w'.cell? ⟨nb, o + ((A.get ((k : Int) + 1)).host.toNat - 1) * 13 + 8, none⟩ = some (.string (A.get (A.get ((k : Int) + 1)).host).pub) ∧ w'.cell? ⟨nb, o + ((A.get ((k : Int) + 1)).host.toNat - 1) * 13 + 9, none⟩ = some (.string (A.get (A.get ((k : Int) + 1)).host).sys) ∧ w'.cell? ⟨nb, o + ((A.get ((k : Int) + 1)).host.toNat - 1) * 13 + 10, none⟩ = some (.bool (A.get (A.get ((k : Int) + 1)).host).quirks) ∧ w'.cell? ⟨nb, o + ((A.get ((k : Int) + 1)).host.toNat - 1) * 13 + 11, none⟩ = some (.int .i64 (A.get (A.get ((k : Int) + 1)).host).contents) ∧ w'.cell? ⟨nb, o + ((A.get ((k : Int) + 1)).host.toNat - 1) * 13 + 12, none⟩ = some (.int .i64 (A.get (A.get ((k : Int) + 1)).host).host))
      (first | exact ⟨xb, x12, y0, y1, y2, y3, y4, y5, y6, y7, y8, y9, y10, y11, y12⟩ | exact ⟨Below.old (below_alloc _ _) xb, Below.old (below_alloc _ _) x12, Below.old (below_alloc _ _) y0, Below.old (below_alloc _ _) y1, Below.old (below_alloc _ _) y2, Below.old (below_alloc _ _) y3, Below.old (below_alloc _ _) y4, Below.old (below_alloc _ _) y5, Below.old (below_alloc _ _) y6, Below.old (below_alloc _ _) y7, Below.old (below_alloc _ _) y8, Below.old (below_alloc _ _) y9, Below.old (below_alloc _ _) y10, Below.old (below_alloc _ _) y11, Below.old (below_alloc _ _) y12⟩)
      (first
      | (go_at_call 89
         (with_reducible refine HISN.out.mono ?_)
         rintro e w2 ⟨rfl, rfl⟩)
      | (go_at_call 73
         refine (HTE.out _ _ _ _ (NodeF.below (boxF W2 (A.get (A.get ((k : Int) + 1)).host) (.slice ka' (A.get (A.get ((k : Int) + 1)).host).kids.length kc') (.slice aa' (A.get (A.get ((k : Int) + 1)).host).attrs.length ac') 103) (Below.drew (Below.refl _ _)))).mono ?_
         rintro e w2 ⟨rfl, rfl⟩))
    all_goals
      go_wp2_with fail
      go_meet
      exact ⟨by rw [HN.out], Below.drew (below_alloc _ _)⟩
  case rest =>
  obtain ⟨rfl, hB1⟩ := hcut
  obtain ⟨W3, hw⟩ : ∃ W, W = wc := ⟨_, rfl⟩
  subst hw
  have hBn := Lib.hid (hB.out.trans (hB1.out.mono hB.out.size))
  have xbn := Below.old hB1.out xb
  clear hB HBW hB1 xb
  have hB := hBn
  have xb := xbn
  have HBW := Lib.hid (HB0.out.trans (hB.out.mono HB0.out.size))
  clear hBn xbn
  by_cases hp : A.lF ((k : Int) + 1)
  case neg =>
    rw [show decide (¬ A.lF ((k : Int) + 1)) = true from decide_eq_true hp]
    have HP := Lib.hid hp
    clear hp
    go_wp2
    go_ret
    exact ⟨ret_bool (decide_eq_false (HBAD.out (fun q => HP.out ((lAll_iff A _).2 q).2.2.2.2.2))).symm, HBW.out⟩
  case pos =>
  rw [show decide (¬ A.lF ((k : Int) + 1)) = false from decide_eq_false (fun q => q hp)]
  have HlF := Lib.hid hp
  clear hp
  go_wp2
  go_roundw
  case rel => exact ⟨k + 1, hlt, by go_num, Lib.hid (fun x hx hxk => by
    by_cases hxe : x ≤ (k : Int)
    · exact hT.out x hx hxe
    · have : x = ((k : Int) + 1) := by omega
      rw [this]
      exact (lAll_iff A _).1 ⟨HlA.out, HlB.out, HlC.out, HlD.out, HlE.out, HlF.out⟩), hB⟩
  case measure => simp [intOf]; omega
end Go.Proofs.Ytnfdcfagdidmhaa
