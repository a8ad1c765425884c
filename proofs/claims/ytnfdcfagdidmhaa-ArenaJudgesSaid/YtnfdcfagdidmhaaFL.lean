/-
  The program's Sound: the fields of one description. (Printed by genfl.py.)
-/
import Derived.Test.YtnfdcfagdidmhaaSX
import Derived.Test.YtnfdcfagdidmhaaQB
import Derived.BigRegion
import Derived.Deep.CutRange
namespace Go.Proofs.Ytnfdcfagdidmhaa
open Go.RowKit Classical
set_option linter.unusedVariables false

/-- What the program asks of the fields. -/
def Nd.FieldsA (n : Nd) : Prop := n.FieldsOK ∧ (isTemplate n → n.contents ≠ 0)
def Nd.fC (n : Nd) : Prop := 1 ≤ n.kind ∧ n.kind ≤ 6 ∧ (n.kids ≠ [] → n.kind = 1 ∨ n.kind = 2 ∨ n.kind = 4) ∧ inSpaces n.space
def Nd.fD (n : Nd) : Prop := (n.kind ≠ 4 → n.space = 0 ∧ n.attrs = []) ∧ (n.kind ≠ 4 → n.kind ≠ 3 → n.name.toList = []) ∧ (n.kind ≠ 3 → n.pub.toList = [] ∧ n.sys.toList = [])
def Nd.fE (n : Nd) : Prop := (n.data.toList ≠ [] → n.kind = 5 ∨ n.kind = 6) ∧ (n.quirks = true → n.kind = 1)
def Nd.fF (n : Nd) : Prop := (isTemplate n ↔ n.contents ≠ 0) ∧ (n.host ≠ 0 → n.kind = 2)
def Nd.fG (n : Nd) : Prop := attrSpaces n.attrs ∧ (onceL n.attrs).length = n.attrs.length
theorem fieldsA_iff (n : Nd) : (n.fC ∧ n.fD ∧ n.fE ∧ n.fF ∧ n.fG) ↔ n.FieldsA := by
  constructor
  · rintro ⟨⟨c1, c2, c3, c4⟩, ⟨d1, d2, d3⟩, ⟨e1, e2⟩, ⟨f1, f2⟩, g1, g2⟩
    exact ⟨⟨c1, c2, c3, c4, d1, fun h4 h3 => str_nil (d2 h4 h3), fun h3 => ⟨str_nil (d3 h3).1, str_nil (d3 h3).2⟩, fun hd => e1 (fun q => hd (str_nil q)), e2, f1.2, f2, g1, g2⟩, f1.1⟩
  · rintro ⟨⟨c1, c2, c3, c4, d1, d2, d3, e1, e2, f1, f2, g1, g2⟩, f3⟩
    exact ⟨⟨c1, c2, c3, c4⟩, ⟨d1, fun h4 h3 => nil_str (d2 h4 h3), fun h3 => ⟨nil_str (d3 h3).1, nil_str (d3 h3).2⟩⟩, ⟨fun hd => e1 (fun q => hd (nil_str q)), e2⟩, ⟨⟨f3, f1⟩, f2⟩, g1, g2⟩

set_option maxRecDepth 100000 in
set_option maxHeartbeats 8000000 in
theorem Fields_any (n : Nd) (nb off : Nat) (kv av : Value) (w : World) (F : NodeF w nb off n kv av) (hK : RInts w kv n.kids) (hA : RAttrs w av n.attrs) (hsm : n.attrs.length ≤ 1000000) :
    Calls Try.prog 90 #[.pointer (some ⟨nb, off, none⟩)] w fun e w' => e = .returned (.bool (decide n.FieldsA)) ∧ Below w.heap.size w w' := by
  have HF := Lib.hid F
  have HTE := Lib.hid (fun (W : World) g kv' av' (G : NodeF W g 0 n kv' av') => template_any g 0 n kv' av' W G)
  have HON := Lib.hid (fun W (hW : Below w.heap.size w W) => once_any av n.attrs W (hA.below hW) hsm)
  obtain ⟨ka, kc, rfl, kl1, kl2, -⟩ := hK.form
  obtain ⟨aa, ac, rfl, al1, al2, -⟩ := hA.form
  clear hK hA F
  obtain ⟨pb, hpb⟩ : ∃ pb : Bool, pb = decide (n.kind = 1 ∨ n.kind = 2 ∨ n.kind = 4) := ⟨_, rfl⟩
  obtain ⟨eb, heb⟩ : ∃ eb : Bool, eb = decide (n.kind = 4) := ⟨_, rfl⟩
  obtain ⟨db, hdb⟩ : ∃ db : Bool, db = decide (n.kind = 3) := ⟨_, rfl⟩
  obtain ⟨tb, htb⟩ : ∃ tb : Bool, tb = decide (isTemplate n) := ⟨_, rfl⟩
  have HPB := Lib.hid hpb; have HEB := Lib.hid heb; have HDB := Lib.hid hdb; have HTB := Lib.hid htb
  clear hpb heb hdb htb
  go_enter Try.func90, Try.ntmps90
  go_upto_region 1 with fail
  go_cut [3] from 9 to 27 (fun v wx => v = .bool pb ∧ w = wx)
  case first =>
    have c0 := HF.out.c0
    by_cases k1 : n.kind = 1
    case pos =>
      have e1 : (n.kind == 1) = true := by simp [k1]
      have HN := Lib.hid (show true = pb by rw [HPB.out]; exact (decide_eq_true (Or.inl k1)).symm)
      clear k1
      go_wp2
      go_meet
      exact ⟨by rw [HN.out], rfl⟩
    case neg =>
    have e1 : (n.kind == 1) = false := by simp [k1]
    by_cases k2 : n.kind = 2
    case pos =>
      have e2 : (n.kind == 2) = true := by simp [k2]
      have HN := Lib.hid (show true = pb by rw [HPB.out]; exact (decide_eq_true (Or.inr (Or.inl k2))).symm)
      clear k1 k2
      go_wp2
      go_meet
      exact ⟨by rw [HN.out], rfl⟩
    case neg =>
    have e2 : (n.kind == 2) = false := by simp [k2]
    by_cases k4 : n.kind = 4
    case pos =>
      have e4 : (n.kind == 4) = true := by simp [k4]
      have HN := Lib.hid (show true = pb by rw [HPB.out]; exact (decide_eq_true (Or.inr (Or.inr k4))).symm)
      clear k1 k2 k4
      go_wp2
      go_meet
      exact ⟨by rw [HN.out], rfl⟩
    case neg =>
      have e4 : (n.kind == 4) = false := by simp [k4]
      have HN := Lib.hid (show false = pb by rw [HPB.out]; exact (decide_eq_false (fun q => q.elim k1 (fun q => q.elim k2 k4))).symm)
      clear k1 k2 k4
      go_wp2
      go_meet
      exact ⟨by rw [HN.out], rfl⟩
  case rest =>
  obtain ⟨rfl, rfl⟩ := hcut
  go_upto_region 2 with fail
  go_cut [4, 5, 6] from 28 to 43 (fun e d t wx => e = .bool eb ∧ d = .bool db ∧ t = .bool tb ∧ Hid (Below w.heap.size w wx))
  case first =>
    have c0 := HF.out.c0; have c1 := HF.out.c1; have c2 := HF.out.c2; have c3 := HF.out.c3; have c4 := HF.out.c4; have c5 := HF.out.c5; have c6 := HF.out.c6; have c7 := HF.out.c7; have c8 := HF.out.c8; have c9 := HF.out.c9; have c10 := HF.out.c10; have c11 := HF.out.c11; have c12 := HF.out.c12
    go_region_held3 (fun w' => w'.cell? ⟨nb, off, none⟩ = some (.int .i64 n.kind) ∧ w'.cell? ⟨nb, off + 1, none⟩ = some (.int .i64 n.parent) ∧ w'.cell? ⟨nb, off + 2, none⟩ = some (.slice ka n.kids.length kc) ∧ w'.cell? ⟨nb, off + 3, none⟩ = some (.int .i64 n.doc) ∧ w'.cell? ⟨nb, off + 4, none⟩ = some (.int .i64 n.space) ∧ w'.cell? ⟨nb, off + 5, none⟩ = some (.string n.name) ∧ w'.cell? ⟨nb, off + 6, none⟩ = some (.slice aa n.attrs.length ac) ∧ w'.cell? ⟨nb, off + 7, none⟩ = some (.string n.data) ∧ w'.cell? ⟨nb, off + 8, none⟩ = some (.string n.pub) ∧ w'.cell? ⟨nb, off + 9, none⟩ = some (.string n.sys) ∧ w'.cell? ⟨nb, off + 10, none⟩ = some (.bool n.quirks) ∧ w'.cell? ⟨nb, off + 11, none⟩ = some (.int .i64 n.contents) ∧ w'.cell? ⟨nb, off + 12, none⟩ = some (.int .i64 n.host))
      (first | exact ⟨c0, c1, c2, c3, c4, c5, c6, c7, c8, c9, c10, c11, c12⟩ | exact ⟨Below.old (below_alloc _ _) c0, Below.old (below_alloc _ _) c1, Below.old (below_alloc _ _) c2, Below.old (below_alloc _ _) c3, Below.old (below_alloc _ _) c4, Below.old (below_alloc _ _) c5, Below.old (below_alloc _ _) c6, Below.old (below_alloc _ _) c7, Below.old (below_alloc _ _) c8, Below.old (below_alloc _ _) c9, Below.old (below_alloc _ _) c10, Below.old (below_alloc _ _) c11, Below.old (below_alloc _ _) c12⟩)
      (first
      | (go_at_call 73
         refine (HTE.out _ _ _ _ (NodeF.below (boxF w n (.slice ka n.kids.length kc) (.slice aa n.attrs.length ac) 103) (Below.drew (Below.refl _ _)))).mono ?_
         rintro e w2 ⟨rfl, rfl⟩))
    all_goals
      go_wp2_with fail
      go_meet
      exact ⟨by rw [HEB.out]; exact congrArg Value.bool (by rw [Bool.eq_iff_iff]; simp), by rw [HDB.out]; exact congrArg Value.bool (by rw [Bool.eq_iff_iff]; simp), by rw [HTB.out], Below.drew (below_alloc _ _)⟩
  case rest =>
  obtain ⟨rfl, rfl, rfl, HB⟩ := hcut
  obtain ⟨W, hw⟩ : ∃ W, W = wc := ⟨_, rfl⟩
  subst hw
  have HF1 := Lib.hid (HF.out.below HB.out)
  clear HTE HF
  go_upto_region 3 with fail
  go_cut [76] from 44 to 76 (fun v wx => v = .bool (decide (¬ n.fC)) ∧ Hid (Below W.heap.size W wx))
  case first =>
    have c0 := HF1.out.c0; have c2 := HF1.out.c2; have c4 := HF1.out.c4
    by_cases h1 : n.kind < 1
    case pos =>
      have HN := Lib.hid (show decide (¬ n.fC) = true from decide_eq_true (fun q => by have := q.1; omega))
      go_wp2
      go_meet
      exact ⟨by rw [HN.out], Below.refl _ _⟩
    case neg =>
    by_cases h6 : 6 < n.kind
    case pos =>
      have HN := Lib.hid (show decide (¬ n.fC) = true from decide_eq_true (fun q => by have := q.2.1; omega))
      go_wp2
      go_meet
      exact ⟨by rw [HN.out], Below.refl _ _⟩
    case neg =>
    by_cases hk : n.kids = []
    case pos =>
      have hkl : n.kids.length ≤ 0 := by rw [hk]; exact Nat.le_refl _
      have HKE := Lib.hid hk
      clear hk
      by_cases hs : inSpaces n.space
      case pos =>
        have hs1 : decide (∀ s ∈ [n.space], inSpaces s) = true := by simp [hs]
        have HN := Lib.hid (show decide (¬ n.fC) = false from decide_eq_false (fun q => q ⟨by omega, by omega, fun q => absurd HKE.out q, hs⟩))
        clear hs 
        go_wp2_with fail
        refine (spaces_any _ [n.space] _ (RInts_new1' _ _ rfl)).mono ?_
        rintro e w1 ⟨rfl, rfl⟩
        rw [hs1]
        clear hs1
        go_wp2
        go_meet
        exact ⟨by rw [HN.out], below_alloc _ _⟩
      case neg =>
        have hs1 : decide (∀ s ∈ [n.space], inSpaces s) = false := by simp [hs]
        have HN := Lib.hid (show decide (¬ n.fC) = true from decide_eq_true (fun q => hs q.2.2.2))
        clear hs 
        go_wp2_with fail
        refine (spaces_any _ [n.space] _ (RInts_new1' _ _ rfl)).mono ?_
        rintro e w1 ⟨rfl, rfl⟩
        rw [hs1]
        clear hs1
        go_wp2
        go_meet
        exact ⟨by rw [HN.out], below_alloc _ _⟩

    case neg =>
    have hkl : 0 < n.kids.length := List.length_pos_iff.2 hk
    cases pb with
    | true =>
      have hpp := of_decide_eq_true HPB.out.symm
      have HPP := Lib.hid hpp
      clear hk hpp
      by_cases hs : inSpaces n.space
      case pos =>
        have hs1 : decide (∀ s ∈ [n.space], inSpaces s) = true := by simp [hs]
        have HN := Lib.hid (show decide (¬ n.fC) = false from decide_eq_false (fun q => q ⟨by omega, by omega, fun _ => HPP.out, hs⟩))
        clear hs 
        go_wp2_with fail
        refine (spaces_any _ [n.space] _ (RInts_new1' _ _ rfl)).mono ?_
        rintro e w1 ⟨rfl, rfl⟩
        rw [hs1]
        clear hs1
        go_wp2
        go_meet
        exact ⟨by rw [HN.out], below_alloc _ _⟩
      case neg =>
        have hs1 : decide (∀ s ∈ [n.space], inSpaces s) = false := by simp [hs]
        have HN := Lib.hid (show decide (¬ n.fC) = true from decide_eq_true (fun q => hs q.2.2.2))
        clear hs 
        go_wp2_with fail
        refine (spaces_any _ [n.space] _ (RInts_new1' _ _ rfl)).mono ?_
        rintro e w1 ⟨rfl, rfl⟩
        rw [hs1]
        clear hs1
        go_wp2
        go_meet
        exact ⟨by rw [HN.out], below_alloc _ _⟩

    | false =>
      have hpp := of_decide_eq_false HPB.out.symm
      have HN := Lib.hid (show decide (¬ n.fC) = true from decide_eq_true (fun q => hpp (q.2.2.1 hk)))
      clear hk hpp
      go_wp2
      go_meet
      exact ⟨by rw [HN.out], Below.refl _ _⟩
  case rest =>
  obtain ⟨rfl, hB1⟩ := hcut
  obtain ⟨W1, hw⟩ : ∃ W, W = wc := ⟨_, rfl⟩
  subst hw
  have HBn := Lib.hid (HB.out.trans (hB1.out.mono HB.out.size))
  have HFn := Lib.hid (HF1.out.below hB1.out)
  clear HB HF1 hB1
  have HB := HBn
  have HF1 := HFn
  clear HBn HFn
  by_cases hp : n.fC
  case neg =>
    rw [show decide (¬ n.fC) = true from decide_eq_true hp]
    have HP := Lib.hid hp
    clear hp
    go_wp2
    go_ret
    exact ⟨ret_bool (decide_eq_false (fun q => HP.out ((fieldsA_iff n).2 q).1)).symm, HB.out⟩
  case pos =>
  rw [show decide (¬ n.fC) = false from decide_eq_false (fun q => q hp)]
  have HfC := Lib.hid hp
  clear hp
  go_upto_region 5 with fail
  go_cut [126] from 77 to 126 (fun v wx => v = .bool (decide (¬ n.fD)) ∧ Hid (Below W1.heap.size W1 wx))
  case first =>
    have c4 := HF1.out.c4; have c5 := HF1.out.c5; have c6 := HF1.out.c6; have c8 := HF1.out.c8; have c9 := HF1.out.c9
    cases eb with
    | true =>
      have k4 := of_decide_eq_true HEB.out.symm
      cases db with
      | true =>
        have k3 := of_decide_eq_true HDB.out.symm
        omega
      | false =>
        have k3 := of_decide_eq_false HDB.out.symm
        by_cases h_pub : n.pub.toList = []
        case neg =>
          have z_pub : (!n.pub.toList.isEmpty) = true := by simpa using h_pub
          have HN := Lib.hid (show decide (¬ n.fD) = true from decide_eq_true (fun q => h_pub (q.2.2 k3).1))
          clear k3 k4 h_pub
          go_wp2
          go_meet
          exact ⟨by rw [HN.out], Below.refl _ _⟩
        case pos =>
        have z_pub : (!n.pub.toList.isEmpty) = false := by simp [h_pub]
        by_cases h_sys : n.sys.toList = []
        case neg =>
          have z_sys : (!n.sys.toList.isEmpty) = true := by simpa using h_sys
          have HN := Lib.hid (show decide (¬ n.fD) = true from decide_eq_true (fun q => h_sys (q.2.2 k3).2))
          clear k3 k4 h_pub h_sys
          go_wp2
          go_meet
          exact ⟨by rw [HN.out], Below.refl _ _⟩
        case pos =>
        have z_sys : (!n.sys.toList.isEmpty) = false := by simp [h_sys]
        have HN := Lib.hid (show decide (¬ n.fD) = false from decide_eq_false (fun q => q ⟨fun e => absurd k4 e, fun e _ => absurd k4 e, fun _ => ⟨h_pub, h_sys⟩⟩))
        clear k3 k4 h_pub h_sys
        go_wp2
        go_meet
        exact ⟨by rw [HN.out], Below.refl _ _⟩
    | false =>
      have k4 := of_decide_eq_false HEB.out.symm
      cases db with
      | true =>
        have k3 := of_decide_eq_true HDB.out.symm
        by_cases h_sp : n.space = 0
        case neg =>
          have z_sp : (n.space != 0) = true := by simp [h_sp]
          have HN := Lib.hid (show decide (¬ n.fD) = true from decide_eq_true (fun q => h_sp (q.1 k4).1))
          clear k3 k4 h_sp
          go_wp2
          go_meet
          exact ⟨by rw [HN.out], Below.refl _ _⟩
        case pos =>
        have z_sp : (n.space != 0) = false := by simp [h_sp]
        by_cases h_at : n.attrs = []
        case neg =>
          have z_at : 0 < n.attrs.length := List.length_pos_iff.2 h_at
          have HN := Lib.hid (show decide (¬ n.fD) = true from decide_eq_true (fun q => h_at (q.1 k4).2))
          clear k3 k4 h_sp h_at
          go_wp2
          go_meet
          exact ⟨by rw [HN.out], Below.refl _ _⟩
        case pos =>
        have z_at : decide (0 < n.attrs.length) = false := by simp [h_at]
        have HN := Lib.hid (show decide (¬ n.fD) = false from decide_eq_false (fun q => q ⟨fun _ => ⟨h_sp, h_at⟩, fun _ e => absurd k3 e, fun e => absurd k3 e⟩))
        clear k3 k4 h_sp h_at
        go_wp2
        go_meet
        exact ⟨by rw [HN.out], Below.refl _ _⟩
      | false =>
        have k3 := of_decide_eq_false HDB.out.symm
        by_cases h_sp : n.space = 0
        case neg =>
          have z_sp : (n.space != 0) = true := by simp [h_sp]
          have HN := Lib.hid (show decide (¬ n.fD) = true from decide_eq_true (fun q => h_sp (q.1 k4).1))
          clear k3 k4 h_sp
          go_wp2
          go_meet
          exact ⟨by rw [HN.out], Below.refl _ _⟩
        case pos =>
        have z_sp : (n.space != 0) = false := by simp [h_sp]
        by_cases h_at : n.attrs = []
        case neg =>
          have z_at : 0 < n.attrs.length := List.length_pos_iff.2 h_at
          have HN := Lib.hid (show decide (¬ n.fD) = true from decide_eq_true (fun q => h_at (q.1 k4).2))
          clear k3 k4 h_sp h_at
          go_wp2
          go_meet
          exact ⟨by rw [HN.out], Below.refl _ _⟩
        case pos =>
        have z_at : decide (0 < n.attrs.length) = false := by simp [h_at]
        by_cases h_nm : n.name.toList = []
        case neg =>
          have z_name : (!n.name.toList.isEmpty) = true := by simpa using h_nm
          have HN := Lib.hid (show decide (¬ n.fD) = true from decide_eq_true (fun q => h_nm (q.2.1 k4 k3)))
          clear k3 k4 h_sp h_at h_nm
          go_wp2
          go_meet
          exact ⟨by rw [HN.out], Below.refl _ _⟩
        case pos =>
        have z_name : (!n.name.toList.isEmpty) = false := by simp [h_nm]
        by_cases h_pub : n.pub.toList = []
        case neg =>
          have z_pub : (!n.pub.toList.isEmpty) = true := by simpa using h_pub
          have HN := Lib.hid (show decide (¬ n.fD) = true from decide_eq_true (fun q => h_pub (q.2.2 k3).1))
          clear k3 k4 h_sp h_at h_nm h_pub
          go_wp2
          go_meet
          exact ⟨by rw [HN.out], Below.refl _ _⟩
        case pos =>
        have z_pub : (!n.pub.toList.isEmpty) = false := by simp [h_pub]
        by_cases h_sys : n.sys.toList = []
        case neg =>
          have z_sys : (!n.sys.toList.isEmpty) = true := by simpa using h_sys
          have HN := Lib.hid (show decide (¬ n.fD) = true from decide_eq_true (fun q => h_sys (q.2.2 k3).2))
          clear k3 k4 h_sp h_at h_nm h_pub h_sys
          go_wp2
          go_meet
          exact ⟨by rw [HN.out], Below.refl _ _⟩
        case pos =>
        have z_sys : (!n.sys.toList.isEmpty) = false := by simp [h_sys]
        have HN := Lib.hid (show decide (¬ n.fD) = false from decide_eq_false (fun q => q ⟨fun _ => ⟨h_sp, h_at⟩, fun _ _ => h_nm, fun _ => ⟨h_pub, h_sys⟩⟩))
        clear k3 k4 h_sp h_at h_nm h_pub h_sys
        go_wp2
        go_meet
        exact ⟨by rw [HN.out], Below.refl _ _⟩
  case rest =>
  obtain ⟨rfl, hB1⟩ := hcut
  obtain ⟨W2, hw⟩ : ∃ W, W = wc := ⟨_, rfl⟩
  subst hw
  have HBn := Lib.hid (HB.out.trans (hB1.out.mono HB.out.size))
  have HFn := Lib.hid (HF1.out.below hB1.out)
  clear HB HF1 hB1
  have HB := HBn
  have HF1 := HFn
  clear HBn HFn
  by_cases hp : n.fD
  case neg =>
    rw [show decide (¬ n.fD) = true from decide_eq_true hp]
    have HP := Lib.hid hp
    clear hp
    go_wp2
    go_ret
    exact ⟨ret_bool (decide_eq_false (fun q => HP.out ((fieldsA_iff n).2 q).2.1)).symm, HB.out⟩
  case pos =>
  rw [show decide (¬ n.fD) = false from decide_eq_false (fun q => q hp)]
  have HfD := Lib.hid hp
  clear hp
  go_upto_region 7 with fail
  go_cut [158] from 127 to 158 (fun v wx => v = .bool (decide (¬ n.fE)) ∧ Hid (Below W2.heap.size W2 wx))
  case first =>
    have c0 := HF1.out.c0; have c7 := HF1.out.c7; have c10 := HF1.out.c10
    by_cases hd : n.data.toList = []
    case pos =>
      have z_d : (!n.data.toList.isEmpty) = false := by simp [hd]
      cases hq : n.quirks with
      | true =>
        rw [hq] at c10
        by_cases k1 : n.kind = 1
        case pos =>
          have z1 : (n.kind != 1) = false := by simp [k1]
          have HN := Lib.hid (show decide (¬ n.fE) = false from decide_eq_false (fun q => q ⟨fun e => absurd hd e, fun _ => k1⟩))
          clear k1 hq hd
          go_wp2
          go_meet
          exact ⟨by rw [HN.out], Below.refl _ _⟩
        case neg =>
          have z1 : (n.kind != 1) = true := by simp [k1]
          have HN := Lib.hid (show decide (¬ n.fE) = true from decide_eq_true (fun q => k1 (q.2 hq)))
          clear k1 hq hd
          go_wp2
          go_meet
          exact ⟨by rw [HN.out], Below.refl _ _⟩
      | false =>
        rw [hq] at c10
        have HN := Lib.hid (show decide (¬ n.fE) = false from decide_eq_false (fun q => q ⟨fun e => absurd hd e, fun e => by rw [hq] at e; cases e⟩))
        clear hq hd
        go_wp2
        go_meet
        exact ⟨by rw [HN.out], Below.refl _ _⟩
    case neg =>
    have z_d : (!n.data.toList.isEmpty) = true := by simpa using hd
    by_cases k5 : n.kind = 5
    case pos =>
      have z5 : (n.kind != 5) = false := by simp [k5]
      cases hq : n.quirks with
      | true =>
        rw [hq] at c10
        by_cases k1 : n.kind = 1
        case pos =>
          have z1 : (n.kind != 1) = false := by simp [k1]
          have HN := Lib.hid (show decide (¬ n.fE) = false from decide_eq_false (fun q => q ⟨fun _ => Or.inl k5, fun _ => k1⟩))
          clear k1 hq hd k5
          go_wp2
          go_meet
          exact ⟨by rw [HN.out], Below.refl _ _⟩
        case neg =>
          have z1 : (n.kind != 1) = true := by simp [k1]
          have HN := Lib.hid (show decide (¬ n.fE) = true from decide_eq_true (fun q => k1 (q.2 hq)))
          clear k1 hq hd k5
          go_wp2
          go_meet
          exact ⟨by rw [HN.out], Below.refl _ _⟩
      | false =>
        rw [hq] at c10
        have HN := Lib.hid (show decide (¬ n.fE) = false from decide_eq_false (fun q => q ⟨fun _ => Or.inl k5, fun e => by rw [hq] at e; cases e⟩))
        clear hq hd k5
        go_wp2
        go_meet
        exact ⟨by rw [HN.out], Below.refl _ _⟩
    case neg =>
    have z5 : (n.kind != 5) = true := by simp [k5]
    by_cases k6 : n.kind = 6
    case pos =>
      have z6 : (n.kind != 6) = false := by simp [k6]
      cases hq : n.quirks with
      | true =>
        rw [hq] at c10
        by_cases k1 : n.kind = 1
        case pos =>
          have z1 : (n.kind != 1) = false := by simp [k1]
          have HN := Lib.hid (show decide (¬ n.fE) = false from decide_eq_false (fun q => q ⟨fun _ => Or.inr k6, fun _ => k1⟩))
          clear k1 hq hd k5 k6
          go_wp2
          go_meet
          exact ⟨by rw [HN.out], Below.refl _ _⟩
        case neg =>
          have z1 : (n.kind != 1) = true := by simp [k1]
          have HN := Lib.hid (show decide (¬ n.fE) = true from decide_eq_true (fun q => k1 (q.2 hq)))
          clear k1 hq hd k5 k6
          go_wp2
          go_meet
          exact ⟨by rw [HN.out], Below.refl _ _⟩
      | false =>
        rw [hq] at c10
        have HN := Lib.hid (show decide (¬ n.fE) = false from decide_eq_false (fun q => q ⟨fun _ => Or.inr k6, fun e => by rw [hq] at e; cases e⟩))
        clear hq hd k5 k6
        go_wp2
        go_meet
        exact ⟨by rw [HN.out], Below.refl _ _⟩
    case neg =>
      have z6 : (n.kind != 6) = true := by simp [k6]
      have HN := Lib.hid (show decide (¬ n.fE) = true from decide_eq_true (fun q => (q.1 hd).elim k5 k6))
      clear hd k5 k6
      go_wp2
      go_meet
      exact ⟨by rw [HN.out], Below.refl _ _⟩
  case rest =>
  obtain ⟨rfl, hB1⟩ := hcut
  obtain ⟨W3, hw⟩ : ∃ W, W = wc := ⟨_, rfl⟩
  subst hw
  have HBn := Lib.hid (HB.out.trans (hB1.out.mono HB.out.size))
  have HFn := Lib.hid (HF1.out.below hB1.out)
  clear HB HF1 hB1
  have HB := HBn
  have HF1 := HFn
  clear HBn HFn
  by_cases hp : n.fE
  case neg =>
    rw [show decide (¬ n.fE) = true from decide_eq_true hp]
    have HP := Lib.hid hp
    clear hp
    go_wp2
    go_ret
    exact ⟨ret_bool (decide_eq_false (fun q => HP.out ((fieldsA_iff n).2 q).2.2.1)).symm, HB.out⟩
  case pos =>
  rw [show decide (¬ n.fE) = false from decide_eq_false (fun q => q hp)]
  have HfE := Lib.hid hp
  clear hp
  go_upto_region 9 with fail
  go_cut [179] from 159 to 179 (fun v wx => v = .bool (decide (¬ n.fF)) ∧ Hid (Below W3.heap.size W3 wx))
  case first =>
    have c0 := HF1.out.c0; have c11 := HF1.out.c11; have c12 := HF1.out.c12
    cases tb with
    | true =>
      have ht := of_decide_eq_true HTB.out.symm
      by_cases hc : n.contents = 0
      case pos =>
        have z_c : (n.contents != 0) = false := by simp [hc]
        have HN := Lib.hid (show decide (¬ n.fF) = true from decide_eq_true (fun q => q.1.1 ht hc))
        clear ht hc
        go_wp2
        go_meet
        exact ⟨by rw [HN.out], Below.refl _ _⟩
      case neg =>
        have z_c : (n.contents != 0) = true := by simp [hc]
        by_cases hh : n.host = 0
        case pos =>
          have z_h : (n.host != 0) = false := by simp [hh]
          have HN := Lib.hid (show decide (¬ n.fF) = false from decide_eq_false (fun q => q ⟨⟨fun _ => hc, fun _ => ht⟩, fun e => absurd hh e⟩))
          clear hh ht hc
          go_wp2
          go_meet
          exact ⟨by rw [HN.out], Below.refl _ _⟩
        case neg =>
        have z_h : (n.host != 0) = true := by simp [hh]
        by_cases k2 : n.kind = 2
        case pos =>
          have z2 : (n.kind != 2) = false := by simp [k2]
          have HN := Lib.hid (show decide (¬ n.fF) = false from decide_eq_false (fun q => q ⟨⟨fun _ => hc, fun _ => ht⟩, fun _ => k2⟩))
          clear hh k2 ht hc
          go_wp2
          go_meet
          exact ⟨by rw [HN.out], Below.refl _ _⟩
        case neg =>
          have z2 : (n.kind != 2) = true := by simp [k2]
          have HN := Lib.hid (show decide (¬ n.fF) = true from decide_eq_true (fun q => k2 (q.2 hh)))
          clear hh k2 ht hc
          go_wp2
          go_meet
          exact ⟨by rw [HN.out], Below.refl _ _⟩
    | false =>
      have ht := of_decide_eq_false HTB.out.symm
      by_cases hc : n.contents = 0
      case neg =>
        have z_c : (n.contents != 0) = true := by simp [hc]
        have HN := Lib.hid (show decide (¬ n.fF) = true from decide_eq_true (fun q => ht (q.1.2 hc)))
        clear ht hc
        go_wp2
        go_meet
        exact ⟨by rw [HN.out], Below.refl _ _⟩
      case pos =>
        have z_c : (n.contents != 0) = false := by simp [hc]
        by_cases hh : n.host = 0
        case pos =>
          have z_h : (n.host != 0) = false := by simp [hh]
          have HN := Lib.hid (show decide (¬ n.fF) = false from decide_eq_false (fun q => q ⟨⟨fun e => absurd e ht, fun e => absurd hc e⟩, fun e => absurd hh e⟩))
          clear hh ht hc
          go_wp2
          go_meet
          exact ⟨by rw [HN.out], Below.refl _ _⟩
        case neg =>
        have z_h : (n.host != 0) = true := by simp [hh]
        by_cases k2 : n.kind = 2
        case pos =>
          have z2 : (n.kind != 2) = false := by simp [k2]
          have HN := Lib.hid (show decide (¬ n.fF) = false from decide_eq_false (fun q => q ⟨⟨fun e => absurd e ht, fun e => absurd hc e⟩, fun _ => k2⟩))
          clear hh k2 ht hc
          go_wp2
          go_meet
          exact ⟨by rw [HN.out], Below.refl _ _⟩
        case neg =>
          have z2 : (n.kind != 2) = true := by simp [k2]
          have HN := Lib.hid (show decide (¬ n.fF) = true from decide_eq_true (fun q => k2 (q.2 hh)))
          clear hh k2 ht hc
          go_wp2
          go_meet
          exact ⟨by rw [HN.out], Below.refl _ _⟩
  case rest =>
  obtain ⟨rfl, hB1⟩ := hcut
  obtain ⟨W4, hw⟩ : ∃ W, W = wc := ⟨_, rfl⟩
  subst hw
  have HBn := Lib.hid (HB.out.trans (hB1.out.mono HB.out.size))
  have HFn := Lib.hid (HF1.out.below hB1.out)
  clear HB HF1 hB1
  have HB := HBn
  have HF1 := HFn
  clear HBn HFn
  by_cases hp : n.fF
  case neg =>
    rw [show decide (¬ n.fF) = true from decide_eq_true hp]
    have HP := Lib.hid hp
    clear hp
    go_wp2
    go_ret
    exact ⟨ret_bool (decide_eq_false (fun q => HP.out ((fieldsA_iff n).2 q).2.2.2.1)).symm, HB.out⟩
  case pos =>
  rw [show decide (¬ n.fF) = false from decide_eq_false (fun q => q hp)]
  have HfF := Lib.hid hp
  clear hp
  have c6 := HF1.out.c6
  have hol := onceL_len n.attrs
  by_cases hg : attrSpaces n.attrs
  case neg =>
    have HG := Lib.hid hg
    go_wp2_with fail
    refine (HON.out _ HB.out).mono ?_
    rintro e w5 ⟨hB5, -, hno⟩
    obtain rfl := hno hg
    have HB5 := Lib.hid (HB.out.trans (hB5.mono HB.out.size))
    clear hB5 hg hno hol
    go_wp2
    go_ret
    exact ⟨ret_bool (decide_eq_false (fun q => HG.out ((fieldsA_iff n).2 q).2.2.2.2.1)).symm, HB5.out⟩
  case pos =>
  have HG := Lib.hid hg
  go_wp2_with fail
  refine (HON.out _ HB.out).mono ?_
  rintro e w5 ⟨hB5, hyes, -⟩
  obtain ⟨v5, rfl, hO5⟩ := hyes hg
  obtain ⟨oa, oc, rfl⟩ := ownsForm hO5
  have HB5 := Lib.hid (HB.out.trans (hB5.mono HB.out.size))
  have d6 := Below.old hB5 c6
  have HV := Lib.hid (show ((onceL n.attrs).length = n.attrs.length) = n.FieldsA from propext ⟨fun e => (fieldsA_iff n).1 ⟨HfC.out, HfD.out, HfE.out, HfF.out, hg, e⟩, fun q => ((fieldsA_iff n).2 q).2.2.2.2.2⟩)
  clear hB5 hg hyes hO5 c6
  go_wp2
  go_ret
  refine ⟨ret_bool ?_, HB5.out⟩
  rw [Bool.eq_iff_iff, decide_eq_true_iff, ← HV.out]
  simp only [beq_iff_eq]
  omega

end Go.Proofs.Ytnfdcfagdidmhaa
