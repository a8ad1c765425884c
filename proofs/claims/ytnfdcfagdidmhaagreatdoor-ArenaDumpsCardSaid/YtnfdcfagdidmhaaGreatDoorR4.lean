/-
  Contracts of the document's arena: SetData, SetQuirks, SetDoc.
-/
import Derived.Test.YtnfdcfagdidmhaaGreatDoorR3
namespace Go.Proofs.YtnfdcfagdidmhaaGreatDoor
open Go.RowKit
set_option linter.unusedVariables false

/-- A field that is no list is stored. -/
theorem RMem.field {w : World} {ρ : Nat → Nat} {b : Nat} {A : Ar} {x : Int} {f : Nd → Nd} {j nb c : Nat} {v : Value} (hA : RMem w ρ b A) (hx : A.has x)
    (hc0 : w.cell? ⟨b, 0, none⟩ = some (.slice (some ⟨nb, 0, none⟩) (A.ns.length + 1) c)) (hj : j < 13) (hf : ∀ kv av, ((A.get x).cells kv av).set j v = (f (A.get x)).cells kv av) (hk : (f (A.get x)).kids = (A.get x).kids) (ha : (f (A.get x)).attrs = (A.get x).attrs) :
    RMem (w.setCell ⟨nb, x.toNat * 13 + j, none⟩ v) ρ b (A.mod x f) ∧ Turn ρ ρ w (w.setCell ⟨nb, x.toNat * 13 + j, none⟩ v) :=
  RMem.store hA hx hc0 (Upd.refl _ _) (fun _ _ => rfl) hA.1 hj (fun kv av h1 h2 _ _ => ⟨kv, av, hf kv av, by rw [hk]; exact h1, by rw [ha]; exact h2⟩)

/-- What the setters find. -/
theorem RMem.look {w : World} {ρ : Nat → Nat} {b : Nat} {A : Ar} (hA : RMem w ρ b A) : ∃ nb c, w.cell? ⟨b, 0, none⟩ = some (.slice (some ⟨nb, 0, none⟩) (A.ns.length + 1) c) ∧ (A.ns.length : Int) + 1 ≤ 9223372036854775807 ∧ A.ns.length + 1 ≤ c ∧ (∀ j, w.frozen? ⟨nb, j, none⟩ = false) ∧ ρ nb = 2 ∧
    (∀ h W, W.cell? ⟨b, 0, none⟩ = some (.slice (some ⟨nb, 0, none⟩) (A.ns.length + 1) c) → Calls Tryz.prog 40 #[.pointer (some ⟨b, 0, none⟩), .int .i64 h] W fun e w' => e = .returned (.bool (decide (A.has h))) ∧ W = w') ∧
      ∀ x, A.has x → 1 ≤ x ∧ x ≤ A.ns.length ∧ ∃ kv av, NodeF w nb (x.toNat * 13) (A.get x) kv av ∧ ROwn w ρ (2 * x.toNat + 4) 3 1 kv (A.get x).kids.length ((A.get x).kids.map intv) ∧ ROwn w ρ (2 * x.toNat + 5) 123 3 av (A.get x).attrs.length ((A.get x).attrs.flatMap attrCells) := by
  obtain ⟨nb, c, ib, ic, h0, h1, hf, hlt, hm, hc, -, hnb, -, -, -, hfn, -, -, -, hN⟩ := hA.head
  exact ⟨nb, c, h0, hm, hc, hfn, hnb, fun h W hW => RHas_any A b _ c h W hW hm, fun x hx => ⟨hx.1, by have := hx.2; unfold Ar.n at this; exact this, hN x hx⟩⟩

theorem raddr_same {A : Ar} {ρ : Nat → Nat} {b : Nat} {w : World} {e : Int} (hA : RMem w ρ b A) : RAddR A ρ b w (.int .i64 e) (.returned (.int .i64 e)) w := ⟨rfl, ρ, hA, Turn.refl _ _⟩

set_option maxRecDepth 100000 in
set_option maxHeartbeats 1000000 in
theorem RSetData_any (A : Ar) (ρ : Nat → Nat) (b : Nat) (h : Int) (s : ByteArray) (w : World) (hA : RMem w ρ b A) :
    Calls Tryz.prog 79 #[.pointer (some ⟨b, 0, none⟩), .int .i64 h, .string s] w (RAddR (A.setData h s).2 ρ b w (.int .i64 (A.setData h s).1)) := by
  obtain ⟨nb, c, h0, hm, hc, hfn, -, HH, hN⟩ := hA.look
  have HH := Lib.hid HH
  by_cases hh : A.has h
  · obtain ⟨hp, hq, kv, av, F, -, -⟩ := hN h hh
    have c0 := F.c0
    have c7 := F.c7
    have f7 := hfn (h.toNat * 13 + 7)
    have hd : decide (A.has h) = true := by simp [hh]
    have HST := Lib.hid (fun (s : ByteArray) => hA.field (f := fun x => { x with data := s }) (j := 7) (v := .string s) hh h0 (by omega) (fun _ _ => rfl) rfl rfl)
    by_cases hk : (A.get h).kind = 5 ∨ (A.get h).kind = 6
    · have e : A.setData h s = (0, A.mod h (fun x => { x with data := s })) := by unfold Ar.setData; rw [if_neg (by simp [hh]), if_neg (fun q => q hk)]
      rw [e]
      clear e F hN hh hfn hA
      generalize (A.get h).kind = k at *
      rcases hk with rfl | rfl
      all_goals
        go_enter Tryz.func79, Tryz.ntmps79
        go_wp2_with fail
        refine (HH.out _ _ h0).mono ?_
        rintro e w' ⟨rfl, rfl⟩
        rw [hd]
        go_wp2
        go_ret
        exact ⟨rfl, ρ, (HST.out s).1, (HST.out s).2⟩
    · have e : A.setData h s = (9, A) := by unfold Ar.setData; rw [if_neg (by simp [hh]), if_pos hk]
      rw [e]
      have hk5 : ((A.get h).kind != 5) = true := by simp; exact fun q => hk (.inl q)
      have hk6 : ((A.get h).kind != 6) = true := by simp; exact fun q => hk (.inr q)
      have HA := Lib.hid hA
      clear e F hN hh hfn hA hk
      go_enter Tryz.func79, Tryz.ntmps79
      go_wp2_with fail
      refine (HH.out _ _ h0).mono ?_
      rintro e w' ⟨rfl, rfl⟩
      rw [hd]
      go_wp2
      go_ret
      exact raddr_same HA.out
  · have hd : decide (A.has h) = false := by simp [hh]
    have e : A.setData h s = (3, A) := by unfold Ar.setData; rw [if_pos hh]
    rw [e]
    have HA := Lib.hid hA
    clear e hN hh hfn hA
    go_enter Tryz.func79, Tryz.ntmps79
    go_wp2_with fail
    refine (HH.out _ _ h0).mono ?_
    rintro e w' ⟨rfl, rfl⟩
    rw [hd]
    go_wp2
    go_ret
    exact raddr_same HA.out

set_option maxRecDepth 100000 in
set_option maxHeartbeats 1000000 in
theorem RSetQuirks_any (A : Ar) (ρ : Nat → Nat) (b : Nat) (h : Int) (q : Bool) (w : World) (hA : RMem w ρ b A) :
    Calls Tryz.prog 81 #[.pointer (some ⟨b, 0, none⟩), .int .i64 h, .bool q] w (RAddR (A.setQuirks h q).2 ρ b w (.int .i64 (A.setQuirks h q).1)) := by
  obtain ⟨nb, c, h0, hm, hc, hfn, -, HH, hN⟩ := hA.look
  have HH := Lib.hid HH
  by_cases hh : A.has h
  · obtain ⟨hp, hq, kv, av, F, -, -⟩ := hN h hh
    have c0 := F.c0
    have c10 := F.c10
    have f10 := hfn (h.toNat * 13 + 10)
    have hd : decide (A.has h) = true := by simp [hh]
    have HST := Lib.hid (hA.field (f := fun x => { x with quirks := q }) (j := 10) (v := .bool q) hh h0 (by omega) (fun _ _ => rfl) rfl rfl)
    by_cases hk : (A.get h).kind = 1
    · have e : A.setQuirks h q = (0, A.mod h (fun x => { x with quirks := q })) := by unfold Ar.setQuirks; rw [if_neg (by simp [hh]), if_neg (fun q => q hk)]
      rw [e]
      rw [hk] at c0
      clear e F hN hh hfn hA hk
      go_enter Tryz.func81, Tryz.ntmps81
      go_wp2_with fail
      refine (HH.out _ _ h0).mono ?_
      rintro e w' ⟨rfl, rfl⟩
      rw [hd]
      go_wp2
      go_ret
      exact ⟨rfl, ρ, HST.out.1, HST.out.2⟩
    · have e : A.setQuirks h q = (9, A) := by unfold Ar.setQuirks; rw [if_neg (by simp [hh]), if_pos hk]
      rw [e]
      have hk5 : ((A.get h).kind != 1) = true := by simpa using hk
      have HA := Lib.hid hA
      clear e F hN hh hfn hA hk
      go_enter Tryz.func81, Tryz.ntmps81
      go_wp2_with fail
      refine (HH.out _ _ h0).mono ?_
      rintro e w' ⟨rfl, rfl⟩
      rw [hd]
      go_wp2
      go_ret
      exact raddr_same HA.out
  · have hd : decide (A.has h) = false := by simp [hh]
    have e : A.setQuirks h q = (3, A) := by unfold Ar.setQuirks; rw [if_pos hh]
    rw [e]
    have HA := Lib.hid hA
    clear e hN hh hfn hA
    go_enter Tryz.func81, Tryz.ntmps81
    go_wp2_with fail
    refine (HH.out _ _ h0).mono ?_
    rintro e w' ⟨rfl, rfl⟩
    rw [hd]
    go_wp2
    go_ret
    exact raddr_same HA.out

set_option maxRecDepth 100000 in
set_option maxHeartbeats 1000000 in
theorem RSetDoc_any (A : Ar) (ρ : Nat → Nat) (b : Nat) (h d : Int) (w : World) (hA : RMem w ρ b A) :
    Calls Tryz.prog 82 #[.pointer (some ⟨b, 0, none⟩), .int .i64 h, .int .i64 d] w (RAddR (A.setDoc h d).2 ρ b w (.int .i64 (A.setDoc h d).1)) := by
  obtain ⟨nb, c, h0, hm, hc, hfn, -, HH, hN⟩ := hA.look
  have HH := Lib.hid HH
  have HA := Lib.hid hA
  by_cases hh : A.has h
  · have hd : decide (A.has h) = true := by simp [hh]
    by_cases hh2 : A.has d
    · have hd2 : decide (A.has d) = true := by simp [hh2]
      obtain ⟨hp, hq, kv, av, F, -, -⟩ := hN h hh
      obtain ⟨hp2, hq2, kv2, av2, F2, -, -⟩ := hN d hh2
      have c0 := F.c0
      have c3 := F.c3
      have d0 := F2.c0
      have f10 := hfn (h.toNat * 13 + 3)
      have HST := Lib.hid (hA.field (f := fun x => { x with doc := d }) (j := 3) (v := .int .i64 d) hh h0 (by omega) (fun _ _ => rfl) rfl rfl)
      by_cases hk : (A.get h).kind = 1
      · have e : A.setDoc h d = (9, A) := by unfold Ar.setDoc; rw [if_neg (by simp [hh, hh2]), if_pos (.inl hk)]
        rw [e]
        rw [hk] at c0
        clear e F F2 hN hh hh2 hfn hA hk
        go_enter Tryz.func82, Tryz.ntmps82
        go_wp2_with fail
        refine (HH.out _ _ h0).mono ?_
        rintro e w' ⟨rfl, rfl⟩
        rw [hd]
        go_wp2_with fail
        refine (HH.out _ _ h0).mono ?_
        rintro e w' ⟨rfl, rfl⟩
        rw [hd2]
        go_wp2
        go_ret
        exact raddr_same HA.out
      · have hk1 : ((A.get h).kind == 1) = false := by simpa using hk
        by_cases hk2 : (A.get d).kind = 1
        · have e : A.setDoc h d = (0, A.mod h (fun x => { x with doc := d })) := by unfold Ar.setDoc; rw [if_neg (by simp [hh, hh2]), if_neg (by simp [hk, hk2])]
          rw [e]
          rw [hk2] at d0
          clear e F F2 hN hh hh2 hfn hA hk hk2
          go_enter Tryz.func82, Tryz.ntmps82
          go_wp2_with fail
          refine (HH.out _ _ h0).mono ?_
          rintro e w' ⟨rfl, rfl⟩
          rw [hd]
          go_wp2_with fail
          refine (HH.out _ _ h0).mono ?_
          rintro e w' ⟨rfl, rfl⟩
          rw [hd2]
          go_wp2
          go_ret
          exact ⟨rfl, ρ, HST.out.1, HST.out.2⟩
        · have e : A.setDoc h d = (9, A) := by unfold Ar.setDoc; rw [if_neg (by simp [hh, hh2]), if_pos (.inr hk2)]
          rw [e]
          have hk2' : ((A.get d).kind != 1) = true := by simpa using hk2
          clear e F F2 hN hh hh2 hfn hA hk hk2
          go_enter Tryz.func82, Tryz.ntmps82
          go_wp2_with fail
          refine (HH.out _ _ h0).mono ?_
          rintro e w' ⟨rfl, rfl⟩
          rw [hd]
          go_wp2_with fail
          refine (HH.out _ _ h0).mono ?_
          rintro e w' ⟨rfl, rfl⟩
          rw [hd2]
          go_wp2
          go_ret
          exact raddr_same HA.out
    · have hd2 : decide (A.has d) = false := by simp [hh2]
      have e : A.setDoc h d = (3, A) := by unfold Ar.setDoc; rw [if_pos (.inr hh2)]
      rw [e]
      clear e hN hh hh2 hfn hA
      go_enter Tryz.func82, Tryz.ntmps82
      go_wp2_with fail
      refine (HH.out _ _ h0).mono ?_
      rintro e w' ⟨rfl, rfl⟩
      rw [hd]
      go_wp2_with fail
      refine (HH.out _ _ h0).mono ?_
      rintro e w' ⟨rfl, rfl⟩
      rw [hd2]
      go_wp2
      go_ret
      exact raddr_same HA.out
  · have hd : decide (A.has h) = false := by simp [hh]
    have e : A.setDoc h d = (3, A) := by unfold Ar.setDoc; rw [if_pos (.inl hh)]
    rw [e]
    clear e hN hh hfn hA
    go_enter Tryz.func82, Tryz.ntmps82
    go_wp2_with fail
    refine (HH.out _ _ h0).mono ?_
    rintro e w' ⟨rfl, rfl⟩
    rw [hd]
    go_wp2
    go_ret
    exact raddr_same HA.out

end Go.Proofs.YtnfdcfagdidmhaaGreatDoor
