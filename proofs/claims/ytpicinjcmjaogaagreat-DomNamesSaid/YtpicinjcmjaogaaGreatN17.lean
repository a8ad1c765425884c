/-
  Parts: D9.
-/
import Derived.Test.YtpicinjcmjaogaaGreatN16

/- Contracts of dom: the rules, refused. (Printed by gend9.py.) -/
namespace Go.Proofs.YtpicinjcmjaogaaGreat
open Go.RowKit Go.Shelf
set_option linter.unusedVariables false

attribute [local go_sem] Oper.semAt_some

set_option maxRecDepth 100000 in
set_option maxHeartbeats 1000000 in
theorem Rule0_own {w0 w : World} {B b : Nat} {A : Ar} {l : List Asrt} {p n c : Int} {r : Bool} (o : Own w0 B l w) (hm : Asrt.arena b A ∈ l) (hI : A.Inv) (hs : A.ns.length ≤ 100000) (hp : A.has p) (hn : A.has n) (hcc : c ≠ 0 → A.has c) :
    Calls Tryz.prog 218 #[.agg #[.pointer (some ⟨b, 0, none⟩), .int .i64 p, .int .i64 n, .int .i64 c, .bool r]] w fun e w' => e = .returned (.bool (decide (A.rule p n c r 0))) ∧ Own w0 B l w' := by
  have o1 := o.alloc (.cells #[.pointer (some ⟨b, 0, none⟩), .int .i64 p, .int .i64 n, .int .i64 c, .bool r] 141)
  have HS := Lib.hid (hI.short (by omega))
  obtain ⟨nd, hnd⟩ : ∃ nd, A.get p = nd := ⟨_, rfl⟩
  have HK := Lib.hid (Kind_own (b := b) (A := A) o1 (by simp [hm]) HS.out hp hnd)
  have HF : Hid (decide (A.rule p n c r 0) = (!decide (nd.kind = 1) && (!decide (nd.kind = 2) && !decide (nd.kind = 4)))) := Lib.hid (by rw [← hnd, Bool.eq_iff_iff]; simp [Ar.rule])
  clear o o1 hm hI hnd
  generalize decide (A.rule p n c r 0) = eb at *
  generalize nd.kind = kd at *
  go_enter Tryz.func218, Tryz.ntmps218
  by_cases h1 : kd = 1
  · have e1 : (kd != 1) = false := by simp [h1]
    have HE : Hid (eb = false) := Lib.hid (by rw [HF.out, decide_eq_true h1]; rfl)
    clear h1 HF
    go_wp2_with fail
    refine HK.out.mono ?_
    rintro e w1 ⟨rfl, o2, -⟩
    have HO := Lib.hid o2
    clear o2 HK
    go_wp2
    go_ret
    exact ⟨by rw [HE.out]; try rfl, HO.out.drop⟩
  · have e1 : (kd != 1) = true := by simp [h1]
    by_cases h2 : kd = 2
    · have e2 : (kd != 2) = false := by simp [h2]
      have HE : Hid (eb = false) := Lib.hid (by rw [HF.out, decide_eq_false h1, decide_eq_true h2]; rfl)
      clear h1 h2 HF
      go_wp2_with fail
      refine HK.out.mono ?_
      rintro e w1 ⟨rfl, o2, -⟩
      have HO := Lib.hid o2
      clear o2 HK
      go_wp2
      go_ret
      exact ⟨by rw [HE.out]; try rfl, HO.out.drop⟩
    · have e2 : (kd != 2) = true := by simp [h2]
      have HE : Hid (eb = (kd != 4)) := Lib.hid (by rw [HF.out, decide_eq_false h1, decide_eq_false h2]; simp [bne, Bool.beq_eq_decide_eq])
      clear h1 h2 HF
      go_wp2_with fail
      refine HK.out.mono ?_
      rintro e w1 ⟨rfl, o2, -⟩
      have HO := Lib.hid o2
      clear o2 HK
      go_wp2
      go_ret
      exact ⟨by rw [HE.out]; try rfl, HO.out.drop⟩

set_option maxRecDepth 100000 in
set_option maxHeartbeats 1000000 in
theorem Rule1_own {w0 w : World} {B b : Nat} {A : Ar} {l : List Asrt} {p n c : Int} {r : Bool} (o : Own w0 B l w) (hm : Asrt.arena b A ∈ l) (hI : A.Inv) (hs : A.ns.length ≤ 100000) (hp : A.has p) (hn : A.has n) (hcc : c ≠ 0 → A.has c) :
    Calls Tryz.prog 219 #[.agg #[.pointer (some ⟨b, 0, none⟩), .int .i64 p, .int .i64 n, .int .i64 c, .bool r]] w fun e w' => e = .returned (.bool (decide (A.rule p n c r 1))) ∧ Own w0 B l w' := by
  have o1 := o.alloc (.cells #[.pointer (some ⟨b, 0, none⟩), .int .i64 p, .int .i64 n, .int .i64 c, .bool r] 141)
  have HS := Lib.hid (hI.short (by omega))
  obtain ⟨ρ, hA⟩ := o1.arena (b := b) (A := A) (by simp [hm])
  have HC := Lib.hid (Contains_all A ρ b n p _ hA hI.wf)
  have HF : Hid (decide (A.rule p n c r 1) = A.contains n p) := Lib.hid (by show decide (A.contains n p = true) = _; simp)
  have HO := Lib.hid o1
  clear o o1 hm hI hA
  go_enter Tryz.func219, Tryz.ntmps219
  go_wp2_with fail
  refine HC.out.mono ?_
  rintro e w1 ⟨rfl, hB⟩
  have HO1 := Lib.hid (HO.out.read hB)
  clear HC hB HO
  go_wp2
  go_ret
  exact ⟨by rw [HF.out]; try rfl, HO1.out.drop⟩

set_option maxRecDepth 100000 in
set_option maxHeartbeats 1000000 in
theorem Rule2_own {w0 w : World} {B b : Nat} {A : Ar} {l : List Asrt} {p n c : Int} {r : Bool} (o : Own w0 B l w) (hm : Asrt.arena b A ∈ l) (hI : A.Inv) (hs : A.ns.length ≤ 100000) (hp : A.has p) (hn : A.has n) (hcc : c ≠ 0 → A.has c) :
    Calls Tryz.prog 220 #[.agg #[.pointer (some ⟨b, 0, none⟩), .int .i64 p, .int .i64 n, .int .i64 c, .bool r]] w fun e w' => e = .returned (.bool (decide (A.rule p n c r 2))) ∧ Own w0 B l w' := by
  have o1 := o.alloc (.cells #[.pointer (some ⟨b, 0, none⟩), .int .i64 p, .int .i64 n, .int .i64 c, .bool r] 141)
  have HS := Lib.hid (hI.short (by omega))
  have HF : Hid (decide (A.rule p n c r 2) = (decide (c ≠ 0) && !decide ((A.get c).parent = p))) := Lib.hid (by rw [Bool.eq_iff_iff]; simp [Ar.rule])
  have HCC := Lib.hid hcc
  have HO := Lib.hid o1
  obtain ⟨m1, m2, m3, m4, m5⟩ := mv_cells (o1.box (g := w.heap.size) (o := mvO b p n c r) (by simp))
  have HP := Lib.hid (fun x : Wld (w.alloc (.cells #[.pointer (some ⟨b, 0, none⟩), .int .i64 p, .int .i64 n, .int .i64 c, .bool r] 141)) => Parent_own (b := b) (A := A) (h := c) (o1.read x.2) (by simp [hm]))
  clear o o1 hm hI hcc
  generalize decide (A.rule p n c r 2) = eb at *
  go_enter Tryz.func220, Tryz.ntmps220
  go_upto_region 1 with fail
  generalize hw1 : w.alloc _ = w1 at *
  generalize hg : w.heap.size = g at *
  clear hw1 hg
  have x1 := Wld.cell (w := w1) m1
  have x2 := Wld.cell (w := w1) m2
  have x4 := Wld.cell (w := w1) m4
  by_cases hc0 : c = 0
  · have e0 : (c != 0) = false := by simp [hc0]
    have HE : Hid (eb = false) := Lib.hid (by rw [HF.out, hc0]; rfl)
    clear hc0 HF
    refine wp_region_below_lit (by kernel_rfl) (by kernel_rfl) ?_
    repeat (go_big_quiet_step (first | (go_at_call 37; exact Wld.same (HP.out _))))
    refine wpQuiet_nil ?_
    rintro Wx ⟨⟨W9, hW9⟩, hWx⟩
    have hWx' : Wx = W9 := hWx
    clear hWx
    subst hWx'
    have HO9 := Lib.hid (HO.out.read hW9)
    clear x1 x2 x4 m1 m2 m3 m4 m5 hW9 HO HP
    go_wp2
    go_ret
    exact ⟨by rw [HE.out]; try rfl, HO9.out.drop⟩
  · have e0 : (c != 0) = true := by simp [hc0]
    have hpo : A.parentOf c = (A.get c).parent := if_pos (HCC.out hc0)
    rw [hpo] at HP
    have HE : Hid (eb = ((A.get c).parent != p)) := Lib.hid (by rw [HF.out, decide_eq_true hc0]; simp [bne, Bool.beq_eq_decide_eq])
    clear hc0 HF hpo
    generalize (A.get c).parent = pp at *
    refine wp_region_below_lit (by kernel_rfl) (by kernel_rfl) ?_
    repeat (go_big_quiet_step (first | (go_at_call 37; exact Wld.same (HP.out _))))
    refine wpQuiet_nil ?_
    rintro Wx ⟨⟨W9, hW9⟩, hWx⟩
    have hWx' : Wx = W9 := hWx
    clear hWx
    subst hWx'
    have HO9 := Lib.hid (HO.out.read hW9)
    clear x1 x2 x4 m1 m2 m3 m4 m5 hW9 HO HP
    go_wp2
    go_ret
    exact ⟨by rw [HE.out]; try rfl, HO9.out.drop⟩

set_option maxRecDepth 100000 in
set_option maxHeartbeats 1000000 in
theorem Rule3_own {w0 w : World} {B b : Nat} {A : Ar} {l : List Asrt} {p n c : Int} {r : Bool} (o : Own w0 B l w) (hm : Asrt.arena b A ∈ l) (hI : A.Inv) (hs : A.ns.length ≤ 100000) (hp : A.has p) (hn : A.has n) (hcc : c ≠ 0 → A.has c) :
    Calls Tryz.prog 221 #[.agg #[.pointer (some ⟨b, 0, none⟩), .int .i64 p, .int .i64 n, .int .i64 c, .bool r]] w fun e w' => e = .returned (.bool (decide (A.rule p n c r 3))) ∧ Own w0 B l w' := by
  have o1 := o.alloc (.cells #[.pointer (some ⟨b, 0, none⟩), .int .i64 p, .int .i64 n, .int .i64 c, .bool r] 141)
  have HS := Lib.hid (hI.short (by omega))
  obtain ⟨nd, hnd⟩ : ∃ nd, A.get n = nd := ⟨_, rfl⟩
  have HK := Lib.hid (Kind_own (b := b) (A := A) o1 (by simp [hm]) HS.out hn hnd)
  have HF : Hid (decide (A.rule p n c r 3) = (nd.kind == 1)) := Lib.hid (by rw [← hnd]; simp [Ar.rule, Bool.beq_eq_decide_eq])
  clear o o1 hm hI hnd
  go_enter Tryz.func221, Tryz.ntmps221
  go_wp2_with fail
  refine HK.out.mono ?_
  rintro e w1 ⟨rfl, o2, -⟩
  have HO := Lib.hid o2
  clear o2 HK
  go_wp2
  go_ret
  exact ⟨by rw [HF.out]; try rfl, HO.out.drop⟩

set_option maxRecDepth 100000 in
set_option maxHeartbeats 1000000 in
theorem Rule4_own {w0 w : World} {B b : Nat} {A : Ar} {l : List Asrt} {p n c : Int} {r : Bool} (o : Own w0 B l w) (hm : Asrt.arena b A ∈ l) (hI : A.Inv) (hs : A.ns.length ≤ 100000) (hp : A.has p) (hn : A.has n) (hcc : c ≠ 0 → A.has c) :
    Calls Tryz.prog 222 #[.agg #[.pointer (some ⟨b, 0, none⟩), .int .i64 p, .int .i64 n, .int .i64 c, .bool r]] w fun e w' => e = .returned (.bool (decide (A.rule p n c r 4))) ∧ Own w0 B l w' := by
  have o1 := o.alloc (.cells #[.pointer (some ⟨b, 0, none⟩), .int .i64 p, .int .i64 n, .int .i64 c, .bool r] 141)
  have HS := Lib.hid (hI.short (by omega))
  obtain ⟨pd, hpd⟩ : ∃ nd, A.get p = nd := ⟨_, rfl⟩
  obtain ⟨nd, hnd⟩ : ∃ nd, A.get n = nd := ⟨_, rfl⟩
  have HF : Hid (decide (A.rule p n c r 4) = (decide (pd.kind = 1) && decide (nd.kind = 5) || (!decide (pd.kind = 1) && decide (nd.kind = 3)))) := Lib.hid (by rw [← hnd, ← hpd, Bool.eq_iff_iff]; simp [Ar.rule])
  have HO := Lib.hid o1
  obtain ⟨m1, m2, m3, m4, m5⟩ := mv_cells (o1.box (g := w.heap.size) (o := mvO b p n c r) (by simp))
  have HKP := Lib.hid (fun x : Wld (w.alloc (.cells #[.pointer (some ⟨b, 0, none⟩), .int .i64 p, .int .i64 n, .int .i64 c, .bool r] 141)) => (Kind_own (b := b) (A := A) (o1.read x.2) (by simp [hm]) HS.out hp hpd).mono (fun e w' q => show e = .returned (.int .i64 pd.kind) ∧ Below x.val.heap.size x.val w' from ⟨q.1, q.2.2⟩))
  have HKN := Lib.hid (fun x : Wld (w.alloc (.cells #[.pointer (some ⟨b, 0, none⟩), .int .i64 p, .int .i64 n, .int .i64 c, .bool r] 141)) => (Kind_own (b := b) (A := A) (o1.read x.2) (by simp [hm]) HS.out hn hnd).mono (fun e w' q => show e = .returned (.int .i64 nd.kind) ∧ Below x.val.heap.size x.val w' from ⟨q.1, q.2.2⟩))
  clear o o1 hm hI hcc hnd hpd
  generalize decide (A.rule p n c r 4) = eb at *
  generalize pd.kind = kp at *
  generalize nd.kind = kn at *
  go_enter Tryz.func222, Tryz.ntmps222
  go_upto_region 1 with fail
  generalize hw1 : w.alloc _ = w1 at *
  generalize hg : w.heap.size = g at *
  clear hw1 hg
  have x1 := Wld.cell (w := w1) m1
  have x2 := Wld.cell (w := w1) m2
  have x3 := Wld.cell (w := w1) m3
  by_cases hk1 : kp = 1
  · have e0 : (kp == 1) = true := by simp [hk1]
    have HE : Hid (eb = (kn == 5)) := Lib.hid (by rw [HF.out, decide_eq_true hk1]; simp [Bool.beq_eq_decide_eq])
    clear hk1 HF
    by_cases hk5 : kn = 5
    · have e5 : (kn == 5) = true := by simp [hk5]
      rw [e5] at HE
      clear hk5
      refine wp_region_below_lit (by kernel_rfl) (by kernel_rfl) ?_
      repeat (go_big_quiet_step (first | (go_at_call 90; (with_reducible exact Wld.call (HKP.out _))) | (go_at_call 90; (with_reducible exact Wld.call (HKN.out _)))))
      refine wpQuiet_nil ?_
      rintro Wx ⟨⟨W9, hW9⟩, hWx⟩
      have hWx' : Wx = W9 := hWx
      clear hWx
      subst hWx'
      have HO9 := Lib.hid (HO.out.read hW9)
      clear x1 x2 x3 m1 m2 m3 m4 m5 hW9 HO HKP HKN
      go_wp2
      go_ret
      exact ⟨by rw [HE.out]; try rfl, HO9.out.drop⟩
    · have e5 : (kn == 5) = false := by simp [hk5]
      rw [e5] at HE
      clear hk5
      refine wp_region_below_lit (by kernel_rfl) (by kernel_rfl) ?_
      repeat (go_big_quiet_step (first | (go_at_call 90; (with_reducible exact Wld.call (HKP.out _))) | (go_at_call 90; (with_reducible exact Wld.call (HKN.out _)))))
      refine wpQuiet_nil ?_
      rintro Wx ⟨⟨W9, hW9⟩, hWx⟩
      have hWx' : Wx = W9 := hWx
      clear hWx
      subst hWx'
      have HO9 := Lib.hid (HO.out.read hW9)
      clear x1 x2 x3 m1 m2 m3 m4 m5 hW9 HO HKP HKN
      go_wp2
      go_ret
      exact ⟨by rw [HE.out]; try rfl, HO9.out.drop⟩
  · have e0 : (kp == 1) = false := by simp [hk1]
    have HE : Hid (eb = (kn == 3)) := Lib.hid (by rw [HF.out, decide_eq_false hk1]; simp [Bool.beq_eq_decide_eq])
    clear hk1 HF
    refine wp_region_below_lit (by kernel_rfl) (by kernel_rfl) ?_
    repeat (go_big_quiet_step (first | (go_at_call 90; (with_reducible exact Wld.call (HKP.out _))) | (go_at_call 90; (with_reducible exact Wld.call (HKN.out _)))))
    refine wpQuiet_nil ?_
    rintro Wx ⟨⟨W9, hW9⟩, hWx⟩
    have hWx' : Wx = W9 := hWx
    clear hWx
    subst hWx'
    have HO9 := Lib.hid (HO.out.read hW9)
    clear x1 x2 x3 m1 m2 m3 m4 m5 hW9 HO HKP HKN
    go_wp2
    go_ret
    exact ⟨by rw [HE.out]; try rfl, HO9.out.drop⟩

set_option maxRecDepth 100000 in
set_option maxHeartbeats 1000000 in
theorem Rule5_own {w0 w : World} {B b : Nat} {A : Ar} {l : List Asrt} {p n c : Int} {r : Bool} (o : Own w0 B l w) (hm : Asrt.arena b A ∈ l) (hI : A.Inv) (hs : A.ns.length ≤ 100000) (hp : A.has p) (hn : A.has n) (hcc : c ≠ 0 → A.has c) :
    Calls Tryz.prog 223 #[.agg #[.pointer (some ⟨b, 0, none⟩), .int .i64 p, .int .i64 n, .int .i64 c, .bool r]] w fun e w' => e = .returned (.bool (decide (A.rule p n c r 5))) ∧ Own w0 B l w' := by
  have o1 := o.alloc (.cells #[.pointer (some ⟨b, 0, none⟩), .int .i64 p, .int .i64 n, .int .i64 c, .bool r] 141)
  have HS := Lib.hid (hI.short (by omega))
  obtain ⟨pd, hpd⟩ : ∃ nd, A.get p = nd := ⟨_, rfl⟩
  have HK := Lib.hid (Kind_own (b := b) (A := A) o1 (by simp [hm]) HS.out hp hpd)
  have HF : Hid (decide (A.rule p n c r 5) = (decide (pd.kind = 1) && decide (A.crowded p n c r))) := Lib.hid (by rw [← hpd, Bool.eq_iff_iff]; simp [Ar.rule])
  have HM := Lib.hid hm
  have HI := Lib.hid hI
  have HCC := Lib.hid hcc
  have HPN := Lib.hid (And.intro hp hn)
  clear o o1 hm hI hcc hpd hp hn
  generalize decide (A.rule p n c r 5) = eb at *
  go_enter Tryz.func223, Tryz.ntmps223
  by_cases hk1 : pd.kind = 1
  · have e0 : (pd.kind == 1) = true := by simp [hk1]
    have HE : Hid (eb = decide (A.crowded p n c r)) := Lib.hid (by rw [HF.out, decide_eq_true hk1]; simp)
    clear hk1 HF
    go_wp2_with fail
    refine HK.out.mono ?_
    rintro e w1 ⟨rfl, o2, -⟩
    have HC := Lib.hid (Crowded_own (b := b) (A := A) (r := r) (n := n) (c := c) o2 (by simp [HM.out]) HI.out hs HPN.out.1 HPN.out.2 HCC.out)
    obtain ⟨m1, m2, m3, m4, m5⟩ := mv_cells (o2.box (g := w.heap.size) (o := mvO b p n c r) (by simp))
    clear o2 HK
    go_wp2_with fail
    refine HC.out.mono ?_
    rintro e w2 ⟨rfl, o3⟩
    have HO := Lib.hid o3
    clear o3 HC m1 m2 m3 m4 m5
    go_wp2
    go_ret
    exact ⟨by rw [HE.out]; try rfl, HO.out.drop⟩
  · have e0 : (pd.kind == 1) = false := by simp [hk1]
    have HE : Hid (eb = false) := Lib.hid (by rw [HF.out, decide_eq_false hk1]; rfl)
    clear hk1 HF
    go_wp2_with fail
    refine HK.out.mono ?_
    rintro e w1 ⟨rfl, o2, -⟩
    have HO := Lib.hid o2
    clear o2 HK
    go_wp2
    go_ret
    exact ⟨by rw [HE.out]; try rfl, HO.out.drop⟩

/-- The table of the rules, as its cells. -/
abbrev rulesC : Array Value := #[.func (.func 218) #[] #[], .int .i64 4, .func (.func 219) #[] #[], .int .i64 4, .func (.func 220) #[] #[], .int .i64 5, .func (.func 221) #[] #[], .int .i64 4, .func (.func 222) #[] #[], .int .i64 4, .func (.func 223) #[] #[], .int .i64 4]
theorem Rules_any (w : World) : Calls Tryz.prog 177 #[] w fun e w' => e = .returned (.slice (some ⟨w.heap.size, 0, none⟩) 6 6) ∧ w' = w.alloc (.cells rulesC 184) := by
  go_enter Tryz.func177, Tryz.ntmps177
  go_wp2
  go_ret
  exact ⟨rfl, rfl⟩

end Go.Proofs.YtpicinjcmjaogaaGreat
