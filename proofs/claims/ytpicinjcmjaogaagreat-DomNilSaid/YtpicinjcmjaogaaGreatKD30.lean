/-
  The law DomNil: the walk. (Printed by gend30.py.)
-/
import Derived.Test.YtpicinjcmjaogaaGreatKND
import Derived.Test.YtpicinjcmjaogaaGreatK40
namespace Go.Proofs.YtpicinjcmjaogaaGreat
open Go.RowKit Go.Shelf Classical
set_option linter.unusedVariables false

set_option maxRecDepth 100000 in
set_option maxHeartbeats 1000000 in
theorem Do5N_21 (a b2 c : Int) (flag : Bool) (space : Int) (name s t : ByteArray) (aa : Option Addr) (al ac : Nat) (w : World) : Calls Tryz.prog 74 #[.pointer none, .agg #[.int .i64 21, .int .i64 a, .int .i64 b2, .int .i64 c, .bool flag, .int .i64 space, .string name, .string s, .string t, .slice aa al ac]] w fun e w' => e = .returned (.tuple #[.int .i64 0, .int .i64 1]) ∧ Below w.heap.size w w' := by
  go_enter Tryz.func74, Tryz.ntmps74
  go_wp2_with fail
  refine (Insert5_nil a b2 c _).mono ?_
  rintro e w1 ⟨rfl, hB⟩
  have HB := Lib.hid ((below_alloc w (.cells #[.int .i64 21, .int .i64 a, .int .i64 b2, .int .i64 c, .bool flag, .int .i64 space, .string name, .string s, .string t, .slice aa al ac] 92)).trans (hB.mono (by simp)))
  clear hB
  go_wp2
  go_ret2
  exact ⟨by simp, HB.out⟩
set_option maxRecDepth 100000 in
set_option maxHeartbeats 1000000 in
theorem Do5N_22 (a b2 c : Int) (flag : Bool) (space : Int) (name s t : ByteArray) (aa : Option Addr) (al ac : Nat) (w : World) : Calls Tryz.prog 74 #[.pointer none, .agg #[.int .i64 22, .int .i64 a, .int .i64 b2, .int .i64 c, .bool flag, .int .i64 space, .string name, .string s, .string t, .slice aa al ac]] w fun e w' => e = .returned (.tuple #[.int .i64 0, .int .i64 1]) ∧ Below w.heap.size w w' := by
  go_enter Tryz.func74, Tryz.ntmps74
  go_wp2_with fail
  refine (Append5_nil a b2 _).mono ?_
  rintro e w1 ⟨rfl, hB⟩
  have HB := Lib.hid ((below_alloc w (.cells #[.int .i64 22, .int .i64 a, .int .i64 b2, .int .i64 c, .bool flag, .int .i64 space, .string name, .string s, .string t, .slice aa al ac] 92)).trans (hB.mono (by simp)))
  clear hB
  go_wp2
  go_ret2
  exact ⟨by simp, HB.out⟩
set_option maxRecDepth 100000 in
set_option maxHeartbeats 1000000 in
theorem Do5N_23 (a b2 c : Int) (flag : Bool) (space : Int) (name s t : ByteArray) (aa : Option Addr) (al ac : Nat) (w : World) : Calls Tryz.prog 74 #[.pointer none, .agg #[.int .i64 23, .int .i64 a, .int .i64 b2, .int .i64 c, .bool flag, .int .i64 space, .string name, .string s, .string t, .slice aa al ac]] w fun e w' => e = .returned (.tuple #[.int .i64 0, .int .i64 1]) ∧ Below w.heap.size w w' := by
  go_enter Tryz.func74, Tryz.ntmps74
  go_wp2_with fail
  refine (Replace5_nil a b2 c _).mono ?_
  rintro e w1 ⟨rfl, hB⟩
  have HB := Lib.hid ((below_alloc w (.cells #[.int .i64 23, .int .i64 a, .int .i64 b2, .int .i64 c, .bool flag, .int .i64 space, .string name, .string s, .string t, .slice aa al ac] 92)).trans (hB.mono (by simp)))
  clear hB
  go_wp2
  go_ret2
  exact ⟨by simp, HB.out⟩
set_option maxRecDepth 100000 in
set_option maxHeartbeats 1000000 in
theorem Do5N_24 (a b2 c : Int) (flag : Bool) (space : Int) (name s t : ByteArray) (aa : Option Addr) (al ac : Nat) (w : World) : Calls Tryz.prog 74 #[.pointer none, .agg #[.int .i64 24, .int .i64 a, .int .i64 b2, .int .i64 c, .bool flag, .int .i64 space, .string name, .string s, .string t, .slice aa al ac]] w fun e w' => e = .returned (.tuple #[.int .i64 0, .int .i64 1]) ∧ Below w.heap.size w w' := by
  go_enter Tryz.func74, Tryz.ntmps74
  go_wp2_with fail
  refine (Remove5_nil a b2 _).mono ?_
  rintro e w1 ⟨rfl, hB⟩
  have HB := Lib.hid ((below_alloc w (.cells #[.int .i64 24, .int .i64 a, .int .i64 b2, .int .i64 c, .bool flag, .int .i64 space, .string name, .string s, .string t, .slice aa al ac] 92)).trans (hB.mono (by simp)))
  clear hB
  go_wp2
  go_ret2
  exact ⟨by simp, HB.out⟩
set_option maxRecDepth 100000 in
set_option maxHeartbeats 1000000 in
theorem Do5N_25 (a b2 c : Int) (flag : Bool) (space : Int) (name s t : ByteArray) (aa : Option Addr) (al ac : Nat) (w : World) : Calls Tryz.prog 74 #[.pointer none, .agg #[.int .i64 25, .int .i64 a, .int .i64 b2, .int .i64 c, .bool flag, .int .i64 space, .string name, .string s, .string t, .slice aa al ac]] w fun e w' => e = .returned (.tuple #[.int .i64 0, .int .i64 1]) ∧ Below w.heap.size w w' := by
  go_enter Tryz.func74, Tryz.ntmps74
  go_wp2_with fail
  refine (Detach5_nil a _).mono ?_
  rintro e w1 ⟨rfl, hB⟩
  have HB := Lib.hid ((below_alloc w (.cells #[.int .i64 25, .int .i64 a, .int .i64 b2, .int .i64 c, .bool flag, .int .i64 space, .string name, .string s, .string t, .slice aa al ac] 92)).trans (hB.mono (by simp)))
  clear hB
  go_wp2
  go_ret2
  exact ⟨by simp, HB.out⟩
set_option maxRecDepth 100000 in
set_option maxHeartbeats 1000000 in
theorem Do5N_26 (a b2 c : Int) (flag : Bool) (space : Int) (name s t : ByteArray) (aa : Option Addr) (al ac : Nat) (w : World) : Calls Tryz.prog 74 #[.pointer none, .agg #[.int .i64 26, .int .i64 a, .int .i64 b2, .int .i64 c, .bool flag, .int .i64 space, .string name, .string s, .string t, .slice aa al ac]] w fun e w' => e = .returned (.tuple #[.int .i64 0, .int .i64 1]) ∧ Below w.heap.size w w' := by
  go_enter Tryz.func74, Tryz.ntmps74
  go_wp2_with fail
  refine (ReplaceAll5_nil a b2 _).mono ?_
  rintro e w1 ⟨rfl, hB⟩
  have HB := Lib.hid ((below_alloc w (.cells #[.int .i64 26, .int .i64 a, .int .i64 b2, .int .i64 c, .bool flag, .int .i64 space, .string name, .string s, .string t, .slice aa al ac] 92)).trans (hB.mono (by simp)))
  clear hB
  go_wp2
  go_ret2
  exact ⟨by simp, HB.out⟩
set_option maxRecDepth 100000 in
set_option maxHeartbeats 1000000 in
theorem Do5N_27 (a b2 c : Int) (flag : Bool) (space : Int) (name s t : ByteArray) (aa : Option Addr) (al ac : Nat) (w : World) : Calls Tryz.prog 74 #[.pointer none, .agg #[.int .i64 27, .int .i64 a, .int .i64 b2, .int .i64 c, .bool flag, .int .i64 space, .string name, .string s, .string t, .slice aa al ac]] w fun e w' => e = .returned (.tuple #[.int .i64 0, .int .i64 1]) ∧ Below w.heap.size w w' := by
  go_enter Tryz.func74, Tryz.ntmps74
  go_wp2_with fail
  refine (Adopt5_nil a b2 _).mono ?_
  rintro e w1 ⟨rfl, hB⟩
  have HB := Lib.hid ((below_alloc w (.cells #[.int .i64 27, .int .i64 a, .int .i64 b2, .int .i64 c, .bool flag, .int .i64 space, .string name, .string s, .string t, .slice aa al ac] 92)).trans (hB.mono (by simp)))
  clear hB
  go_wp2
  go_ret2
  exact ⟨by simp, HB.out⟩
set_option maxRecDepth 100000 in
set_option maxHeartbeats 1000000 in
theorem Do5N_28 (a b2 c : Int) (flag : Bool) (space : Int) (name s t : ByteArray) (aa : Option Addr) (al ac : Nat) (w : World) : Calls Tryz.prog 74 #[.pointer none, .agg #[.int .i64 28, .int .i64 a, .int .i64 b2, .int .i64 c, .bool flag, .int .i64 space, .string name, .string s, .string t, .slice aa al ac]] w fun e w' => e = .returned (.tuple #[.int .i64 0, .int .i64 1]) ∧ Below w.heap.size w w' := by
  go_enter Tryz.func74, Tryz.ntmps74
  go_wp2_with fail
  refine (CreateElement5_nil a name _).mono ?_
  rintro e w1 ⟨rfl, hB⟩
  have HB := Lib.hid ((below_alloc w (.cells #[.int .i64 28, .int .i64 a, .int .i64 b2, .int .i64 c, .bool flag, .int .i64 space, .string name, .string s, .string t, .slice aa al ac] 92)).trans (hB.mono (by simp)))
  clear hB
  go_wp2
  go_ret2
  exact ⟨by simp, HB.out⟩
set_option maxRecDepth 100000 in
set_option maxHeartbeats 1000000 in
theorem Do5N_29 (a b2 c : Int) (flag : Bool) (space : Int) (name s t : ByteArray) (aa : Option Addr) (al ac : Nat) (w : World) : Calls Tryz.prog 74 #[.pointer none, .agg #[.int .i64 29, .int .i64 a, .int .i64 b2, .int .i64 c, .bool flag, .int .i64 space, .string name, .string s, .string t, .slice aa al ac]] w fun e w' => e = .returned (.tuple #[.int .i64 0, .int .i64 1]) ∧ Below w.heap.size w w' := by
  go_enter Tryz.func74, Tryz.ntmps74
  go_wp2_with fail
  refine (SetAttribute5_nil a space name s _).mono ?_
  rintro e w1 ⟨rfl, hB⟩
  have HB := Lib.hid ((below_alloc w (.cells #[.int .i64 29, .int .i64 a, .int .i64 b2, .int .i64 c, .bool flag, .int .i64 space, .string name, .string s, .string t, .slice aa al ac] 92)).trans (hB.mono (by simp)))
  clear hB
  go_wp2
  go_ret2
  exact ⟨by simp, HB.out⟩
set_option maxRecDepth 100000 in
set_option maxHeartbeats 1000000 in
theorem Do5N_30 (a b2 c : Int) (flag : Bool) (space : Int) (name s t : ByteArray) (aa : Option Addr) (al ac : Nat) (w : World) : Calls Tryz.prog 74 #[.pointer none, .agg #[.int .i64 30, .int .i64 a, .int .i64 b2, .int .i64 c, .bool flag, .int .i64 space, .string name, .string s, .string t, .slice aa al ac]] w fun e w' => e = .returned (.tuple #[.int .i64 0, .int .i64 1]) ∧ Below w.heap.size w w' := by
  go_enter Tryz.func74, Tryz.ntmps74
  go_wp2_with fail
  refine (RemoveAttribute5_nil a space name _).mono ?_
  rintro e w1 ⟨rfl, hB⟩
  have HB := Lib.hid ((below_alloc w (.cells #[.int .i64 30, .int .i64 a, .int .i64 b2, .int .i64 c, .bool flag, .int .i64 space, .string name, .string s, .string t, .slice aa al ac] 92)).trans (hB.mono (by simp)))
  clear hB
  go_wp2_with fail
  refine (one_any _ _).mono ?_
  rintro e w2 ⟨rfl, rfl⟩
  go_wp2
  go_ret2
  exact ⟨by simp [one1], HB.out⟩
set_option maxRecDepth 100000 in
set_option maxHeartbeats 1000000 in
theorem Do5N_31 (a b2 c : Int) (flag : Bool) (space : Int) (name s t : ByteArray) (aa : Option Addr) (al ac : Nat) (w : World) : Calls Tryz.prog 74 #[.pointer none, .agg #[.int .i64 31, .int .i64 a, .int .i64 b2, .int .i64 c, .bool flag, .int .i64 space, .string name, .string s, .string t, .slice aa al ac]] w fun e w' => e = .returned (.tuple #[.int .i64 0, .int .i64 1]) ∧ Below w.heap.size w w' := by
  go_enter Tryz.func74, Tryz.ntmps74
  go_wp2_with fail
  refine (Clone5_nil a flag _).mono ?_
  rintro e w1 ⟨rfl, hB⟩
  have HB := Lib.hid ((below_alloc w (.cells #[.int .i64 31, .int .i64 a, .int .i64 b2, .int .i64 c, .bool flag, .int .i64 space, .string name, .string s, .string t, .slice aa al ac] 92)).trans (hB.mono (by simp)))
  clear hB
  go_wp2
  go_ret2
  exact ⟨by simp, HB.out⟩
set_option maxRecDepth 100000 in
set_option maxHeartbeats 1000000 in
theorem Do5N_32 (a b2 c : Int) (flag : Bool) (space : Int) (name s t : ByteArray) (aa : Option Addr) (al ac : Nat) (w : World) : Calls Tryz.prog 74 #[.pointer none, .agg #[.int .i64 32, .int .i64 a, .int .i64 b2, .int .i64 c, .bool flag, .int .i64 space, .string name, .string s, .string t, .slice aa al ac]] w fun e w' => e = .returned (.tuple #[.int .i64 0, .int .i64 1]) ∧ Below w.heap.size w w' := by
  go_enter Tryz.func74, Tryz.ntmps74
  go_wp2_with fail
  refine (Import5_nil none a b2 _).mono ?_
  rintro e w1 ⟨rfl, hB⟩
  have HB := Lib.hid ((below_alloc w (.cells #[.int .i64 32, .int .i64 a, .int .i64 b2, .int .i64 c, .bool flag, .int .i64 space, .string name, .string s, .string t, .slice aa al ac] 92)).trans (hB.mono (by simp)))
  clear hB
  go_wp2
  go_ret2
  exact ⟨by simp, HB.out⟩
set_option maxRecDepth 100000 in
set_option maxHeartbeats 1000000 in
theorem Do5N_33 (a b2 c : Int) (flag : Bool) (space : Int) (name s t : ByteArray) (aa : Option Addr) (al ac : Nat) (w : World) : Calls Tryz.prog 74 #[.pointer none, .agg #[.int .i64 33, .int .i64 a, .int .i64 b2, .int .i64 c, .bool flag, .int .i64 space, .string name, .string s, .string t, .slice aa al ac]] w fun e w' => e = .returned (.tuple #[.int .i64 0, .int .i64 1]) ∧ Below w.heap.size w w' := by
  go_enter Tryz.func74, Tryz.ntmps74
  go_wp2_with fail
  refine (SetTextContent5_nil a s _).mono ?_
  rintro e w1 ⟨rfl, hB⟩
  have HB := Lib.hid ((below_alloc w (.cells #[.int .i64 33, .int .i64 a, .int .i64 b2, .int .i64 c, .bool flag, .int .i64 space, .string name, .string s, .string t, .slice aa al ac] 92)).trans (hB.mono (by simp)))
  clear hB
  go_wp2
  go_ret2
  exact ⟨by simp, HB.out⟩
set_option maxRecDepth 100000 in
set_option maxHeartbeats 1000000 in
theorem Do5N_34 (a b2 c : Int) (flag : Bool) (space : Int) (name s t : ByteArray) (aa : Option Addr) (al ac : Nat) (w : World) : Calls Tryz.prog 74 #[.pointer none, .agg #[.int .i64 34, .int .i64 a, .int .i64 b2, .int .i64 c, .bool flag, .int .i64 space, .string name, .string s, .string t, .slice aa al ac]] w fun e w' => e = .returned (.tuple #[.int .i64 0, .int .i64 1]) ∧ Below w.heap.size w w' := by
  go_enter Tryz.func74, Tryz.ntmps74
  go_wp2_with fail
  refine (Normalize5_nil a _).mono ?_
  rintro e w1 ⟨rfl, hB⟩
  have HB := Lib.hid ((below_alloc w (.cells #[.int .i64 34, .int .i64 a, .int .i64 b2, .int .i64 c, .bool flag, .int .i64 space, .string name, .string s, .string t, .slice aa al ac] 92)).trans (hB.mono (by simp)))
  clear hB
  go_wp2
  go_ret2
  exact ⟨by simp, HB.out⟩
set_option maxRecDepth 100000 in
set_option maxHeartbeats 1000000 in
theorem Do5N_35 (a b2 c : Int) (flag : Bool) (space : Int) (name s t : ByteArray) (aa : Option Addr) (al ac : Nat) (w : World) : Calls Tryz.prog 74 #[.pointer none, .agg #[.int .i64 35, .int .i64 a, .int .i64 b2, .int .i64 c, .bool flag, .int .i64 space, .string name, .string s, .string t, .slice aa al ac]] w fun e w' => e = .returned (.tuple #[.int .i64 0, .int .i64 1]) ∧ Below w.heap.size w w' := by
  go_enter Tryz.func74, Tryz.ntmps74
  go_wp2_with fail
  refine (Split5_nil a b2 _).mono ?_
  rintro e w1 ⟨rfl, hB⟩
  have HB := Lib.hid ((below_alloc w (.cells #[.int .i64 35, .int .i64 a, .int .i64 b2, .int .i64 c, .bool flag, .int .i64 space, .string name, .string s, .string t, .slice aa al ac] 92)).trans (hB.mono (by simp)))
  clear hB
  go_wp2
  go_ret2
  exact ⟨by simp, HB.out⟩

set_option maxRecDepth 100000 in
set_option maxHeartbeats 1000000 in
theorem Do5N_0 (k a b2 c : Int) (flag : Bool) (space : Int) (name s t : ByteArray) (attrs : List AttrD) (av : Value) (w : World) (hv : RAttrs w av attrs) (hk : k < 21 ∨ 35 < k) : Calls Tryz.prog 74 #[.pointer none, .agg (OpD.cells ⟨k, a, b2, c, flag, space, name, s, t, attrs⟩ av).toArray] w fun e w' => (∃ e', e = .returned (.tuple #[.int .i64 0, .int .i64 e'])) ∧ Below w.heap.size w w' := by
  have HC := Lib.hid (fun (W : World) (hB : Below w.heap.size w W) => Do_nil ⟨k, a, b2, c, flag, space, name, s, t, attrs⟩ av W (RAttrs.below hv hB))
  obtain ⟨aa, ac, rfl, -⟩ := hv.form
  have hkj : ∀ j : Int, 21 ≤ j → j ≤ 35 → (k == j) = false := fun j h1 h2 => by simp; omega
  have h21 := hkj 21 (by omega) (by omega)
  have h22 := hkj 22 (by omega) (by omega)
  have h23 := hkj 23 (by omega) (by omega)
  have h24 := hkj 24 (by omega) (by omega)
  have h25 := hkj 25 (by omega) (by omega)
  have h26 := hkj 26 (by omega) (by omega)
  have h27 := hkj 27 (by omega) (by omega)
  have h28 := hkj 28 (by omega) (by omega)
  have h29 := hkj 29 (by omega) (by omega)
  have h30 := hkj 30 (by omega) (by omega)
  have h31 := hkj 31 (by omega) (by omega)
  have h32 := hkj 32 (by omega) (by omega)
  have h33 := hkj 33 (by omega) (by omega)
  have h34 := hkj 34 (by omega) (by omega)
  have h35 := hkj 35 (by omega) (by omega)
  have HB0 := Lib.hid (below_alloc w (.cells #[.int .i64 k, .int .i64 a, .int .i64 b2, .int .i64 c, .bool flag, .int .i64 space, .string name, .string s, .string t, .slice aa attrs.length ac] 92))
  clear hv hk hkj
  unfold OpD.cells at *
  go_enter Tryz.func74, Tryz.ntmps74
  go_wp2_with fail
  refine (HC.out _ HB0.out).mono ?_
  rintro e w1 ⟨rfl, hB⟩
  have HB := Lib.hid (HB0.out.trans (hB.mono HB0.out.size))
  clear hB
  dsimp only
  generalize (if 2 ≤ k ∧ k ≤ 13 then (1 : Int) else 0) = ec at *
  go_wp2
  go_ret2
  exact ⟨⟨ec, rfl⟩, HB.out⟩

theorem Do5N_any (x : OpD) (av : Value) (w : World) (hv : RAttrs w av x.attrs) : Calls Tryz.prog 74 #[.pointer none, .agg (x.cells av).toArray] w fun e w' => (∃ e', e = .returned (.tuple #[.int .i64 0, .int .i64 e']) ∧ (21 ≤ x.kind → x.kind ≤ 35 → e' = 1)) ∧ Below w.heap.size w w' := by
  obtain ⟨kind, a, b2, c, flag, space, name, s, t, attrs⟩ := x
  dsimp only at *
  by_cases hk : kind < 21 ∨ 35 < kind
  · refine (Do5N_0 kind a b2 c flag space name s t attrs av w hv hk).mono ?_
    rintro e w' ⟨⟨e', rfl⟩, hB⟩
    exact ⟨⟨e', rfl, fun h1 h2 => by omega⟩, hB⟩
  obtain ⟨aa, ac, rfl, -⟩ := hv.form
  have fin : ∀ (f : FuncId) (args : Array Value), Calls Tryz.prog f args w (fun e w' => e = .returned (.tuple #[.int .i64 0, .int .i64 1]) ∧ Below w.heap.size w w') → Calls Tryz.prog f args w (fun e w' => (∃ e', e = .returned (.tuple #[.int .i64 0, .int .i64 e']) ∧ (21 ≤ kind → kind ≤ 35 → e' = 1)) ∧ Below w.heap.size w w') := fun f args h => h.mono (fun e w' hh => ⟨⟨1, hh.1, fun _ _ => rfl⟩, hh.2⟩)
  by_cases e21 : kind = 21
  · subst e21; exact fin _ _ (Do5N_21 a b2 c flag space name s t aa attrs.length ac w)
  by_cases e22 : kind = 22
  · subst e22; exact fin _ _ (Do5N_22 a b2 c flag space name s t aa attrs.length ac w)
  by_cases e23 : kind = 23
  · subst e23; exact fin _ _ (Do5N_23 a b2 c flag space name s t aa attrs.length ac w)
  by_cases e24 : kind = 24
  · subst e24; exact fin _ _ (Do5N_24 a b2 c flag space name s t aa attrs.length ac w)
  by_cases e25 : kind = 25
  · subst e25; exact fin _ _ (Do5N_25 a b2 c flag space name s t aa attrs.length ac w)
  by_cases e26 : kind = 26
  · subst e26; exact fin _ _ (Do5N_26 a b2 c flag space name s t aa attrs.length ac w)
  by_cases e27 : kind = 27
  · subst e27; exact fin _ _ (Do5N_27 a b2 c flag space name s t aa attrs.length ac w)
  by_cases e28 : kind = 28
  · subst e28; exact fin _ _ (Do5N_28 a b2 c flag space name s t aa attrs.length ac w)
  by_cases e29 : kind = 29
  · subst e29; exact fin _ _ (Do5N_29 a b2 c flag space name s t aa attrs.length ac w)
  by_cases e30 : kind = 30
  · subst e30; exact fin _ _ (Do5N_30 a b2 c flag space name s t aa attrs.length ac w)
  by_cases e31 : kind = 31
  · subst e31; exact fin _ _ (Do5N_31 a b2 c flag space name s t aa attrs.length ac w)
  by_cases e32 : kind = 32
  · subst e32; exact fin _ _ (Do5N_32 a b2 c flag space name s t aa attrs.length ac w)
  by_cases e33 : kind = 33
  · subst e33; exact fin _ _ (Do5N_33 a b2 c flag space name s t aa attrs.length ac w)
  by_cases e34 : kind = 34
  · subst e34; exact fin _ _ (Do5N_34 a b2 c flag space name s t aa attrs.length ac w)
  by_cases e35 : kind = 35
  · subst e35; exact fin _ _ (Do5N_35 a b2 c flag space name s t aa attrs.length ac w)
  exact absurd hk (by omega)

theorem op_cells2 {W : World} {g : Nat} {x : OpD} {av : Value} {t : TypeId} (h : W.heap[g]? = some (.cells (x.cells av).toArray t (0, 0))) : W.cell? ⟨g, 0, none⟩ = some (.int .i64 x.kind) ∧ W.cell? ⟨g, 1, none⟩ = some (.int .i64 x.a) ∧ W.cell? ⟨g, 2, none⟩ = some (.int .i64 x.b) ∧ W.cell? ⟨g, 3, none⟩ = some (.int .i64 x.c) ∧ W.cell? ⟨g, 4, none⟩ = some (.bool x.flag) ∧ W.cell? ⟨g, 5, none⟩ = some (.int .i64 x.space) ∧ W.cell? ⟨g, 6, none⟩ = some (.string x.name) ∧ W.cell? ⟨g, 7, none⟩ = some (.string x.s) ∧ W.cell? ⟨g, 8, none⟩ = some (.string x.t) ∧ W.cell? ⟨g, 9, none⟩ = some av := by
  refine ⟨?_, ?_, ?_, ?_, ?_, ?_, ?_, ?_, ?_, ?_⟩ <;> (rw [cell_of_row W g _ _ _ _ h]; rfl)

set_option maxRecDepth 100000 in
set_option maxHeartbeats 4000000 in
theorem DomNil_any (x : OpD) (av : Value) (h : Int) (w : World) (hx : RAttrs w av x.attrs) :
    Calls Tryz.prog 15 #[.agg (x.cells av).toArray, .int .i64 h] w fun e w' => e = .returned (.bool true) ∧ Below w.heap.size w w' := by
  have HS := Lib.hid (fun W (hB : Below w.heap.size w W) => SmallOp_any x av W (RAttrs.below hx hB))
  have HDO := Lib.hid (fun W (hB : Below w.heap.size w W) => Do5N_any x av W (RAttrs.below hx hB))
  obtain ⟨aa, ac, rfl, -⟩ := hx.form
  have o1 : Own w w.heap.size [.box w.heap.size (.cells (x.cells (.slice aa x.attrs.length ac)).toArray 92 (0, 0))] _ := (Own.start w).alloc (.cells (x.cells (.slice aa x.attrs.length ac)).toArray 92)
  by_cases hs : smallOp x
  · have HD := Lib.hid (show decide (smallOp x) = true from decide_eq_true hs)
    clear hs hx
    unfold OpD.cells at o1 HS HDO ⊢
    go_enter Tryz.func15, Tryz.ntmps15
    go_wp2_with fail
    refine (HS.out _ o1.low).mono ?_
    rintro e w1 ⟨rfl, hB1⟩
    rw [HD.out]
    have o2 := o1.read hB1
    obtain ⟨c0, c1, c2, c3, c4, c5, c6, c7, c8, c9⟩ := op_cells2 (x := x) (av := .slice aa x.attrs.length ac) (t := 92) (o2.box (g := w.heap.size) (by simp [OpD.cells]))
    clear o1 hB1 HS HD
    generalize hgx : w.heap.size = gx at *
    have HGX := Lib.hid hgx
    clear hgx
    go_wp2_with fail
    refine (HDO.out _ o2.low).mono ?_
    rintro e w2 ⟨⟨e', rfl, he'⟩, hB2⟩
    clear c0 c1 c2 c3 c4 c5 c6 c7 c8 c9
    have o3 := o2.read hB2
    obtain ⟨c0, c1, c2, c3, c4, c5, c6, c7, c8, c9⟩ := op_cells2 (x := x) (av := .slice aa x.attrs.length ac) (t := 92) (o3.box (g := gx) (by simp [OpD.cells]))
    have HE := Lib.hid he'
    clear o2 hB2 HDO he'
    by_cases hk1 : 21 ≤ x.kind
    · by_cases hk2 : x.kind ≤ 35
      · have he1 : e' = 1 := HE.out hk1 hk2
        subst he1
        clear HE
        go_wp2_with fail
        refine (New_any _).mono ?_
        rintro e w4 ⟨rfl, hw4⟩
        have o4 := o3.newArena
        rw [← hw4] at o4
        clear hw4 o3
        generalize w2.heap.size = ga at *
        have HC := Lib.hid (o4.call (fun ρ hA => Document_any Ar.new ρ ga false _ hA (by decide)))
        obtain ⟨c0, c1, c2, c3, c4, c5, c6, c7, c8, c9⟩ := op_cells2 (x := x) (av := .slice aa x.attrs.length ac) (t := 92) (o4.box (g := gx) (by simp [OpD.cells]))
        clear o4
        go_wp2_with fail
        refine HC.out.mono ?_
        rintro e w5 ⟨rfl, o5⟩
        clear HC c0 c1 c2 c3 c4 c5 c6 c7 c8 c9
        go_wp2_with fail
        refine (Import5_nil _ _ _ _).mono ?_
        rintro e w6 ⟨rfl, hB6⟩
        have o6 := o5.read hB6
        obtain ⟨c0, c1, c2, c3, c4, c5, c6, c7, c8, c9⟩ := op_cells2 (x := x) (av := .slice aa x.attrs.length ac) (t := 92) (o6.box (g := gx) (by simp [OpD.cells]))
        clear o5 hB6
        go_wp2_with fail
        refine (Attribute5_nil _ _ _ _).mono ?_
        rintro e w7 ⟨rfl, hB7⟩
        have o7 := o6.read hB7
        clear o6 hB7 c0 c1 c2 c3 c4 c5 c6 c7 c8 c9
        go_wp2_with fail
        refine (TextContent5_nil _ _).mono ?_
        rintro e w8 ⟨rfl, hB8⟩
        have o8 := o7.read hB8
        obtain ⟨c0, c1, c2, c3, c4, c5, c6, c7, c8, c9⟩ := op_cells2 (x := x) (av := .slice aa x.attrs.length ac) (t := 92) (o8.box (g := gx) (by simp [OpD.cells]))
        clear o7 hB8
        go_wp2_with fail
        refine (Validate5_nil _ _ _ _).mono ?_
        rintro e w9 ⟨rfl, hB9⟩
        have o9 := o8.read hB9
        clear c0 c1 c2 c3 c4 c5 c6 c7 c8 c9
        obtain ⟨c0, c1, c2, c3, c4, c5, c6, c7, c8, c9⟩ := op_cells2 (x := x) (av := .slice aa x.attrs.length ac) (t := 92) (o9.box (g := gx) (by simp [OpD.cells]))
        clear o8 hB9
        go_wp2_with fail
        refine (ByName5_nil _ _ _).mono ?_
        rintro e w10 ⟨rfl, hB10⟩
        have o10 := o9.read hB10
        clear c0 c1 c2 c3 c4 c5 c6 c7 c8 c9
        obtain ⟨c0, c1, c2, c3, c4, c5, c6, c7, c8, c9⟩ := op_cells2 (x := x) (av := .slice aa x.attrs.length ac) (t := 92) (o10.box (g := gx) (by simp [OpD.cells]))
        clear o9 hB10
        go_wp2_with fail
        refine (ByID5_nil _ _ _).mono ?_
        rintro e w11 ⟨rfl, hB11⟩
        have o11 := o10.read hB11
        clear c0 c1 c2 c3 c4 c5 c6 c7 c8 c9
        obtain ⟨c0, c1, c2, c3, c4, c5, c6, c7, c8, c9⟩ := op_cells2 (x := x) (av := .slice aa x.attrs.length ac) (t := 92) (o11.box (g := gx) (by simp [OpD.cells]))
        clear o10 hB11
        go_wp2_with fail
        refine (Before5_nil _ _ _).mono ?_
        rintro e w12 ⟨rfl, hB12⟩
        have o12 := o11.read hB12
        clear o11 hB12 c0 c1 c2 c3 c4 c5 c6 c7 c8 c9
        go_wp2_with fail
        refine (known5_any w12).mono ?_
        rintro e w13 ⟨rfl, hB13⟩
        have HX := Lib.hid (o12.back hB13)
        clear hB13 o12
        go_wp2
        go_ret
        exact ⟨rfl, by rw [HGX.out]; exact HX.out⟩
      · clear HE
        go_wp2_with fail
        refine (New_any _).mono ?_
        rintro e w4 ⟨rfl, hw4⟩
        have o4 := o3.newArena
        rw [← hw4] at o4
        clear hw4 o3
        generalize w2.heap.size = ga at *
        have HC := Lib.hid (o4.call (fun ρ hA => Document_any Ar.new ρ ga false _ hA (by decide)))
        obtain ⟨c0, c1, c2, c3, c4, c5, c6, c7, c8, c9⟩ := op_cells2 (x := x) (av := .slice aa x.attrs.length ac) (t := 92) (o4.box (g := gx) (by simp [OpD.cells]))
        clear o4
        go_wp2_with fail
        refine HC.out.mono ?_
        rintro e w5 ⟨rfl, o5⟩
        clear HC c0 c1 c2 c3 c4 c5 c6 c7 c8 c9
        go_wp2_with fail
        refine (Import5_nil _ _ _ _).mono ?_
        rintro e w6 ⟨rfl, hB6⟩
        have o6 := o5.read hB6
        obtain ⟨c0, c1, c2, c3, c4, c5, c6, c7, c8, c9⟩ := op_cells2 (x := x) (av := .slice aa x.attrs.length ac) (t := 92) (o6.box (g := gx) (by simp [OpD.cells]))
        clear o5 hB6
        go_wp2_with fail
        refine (Attribute5_nil _ _ _ _).mono ?_
        rintro e w7 ⟨rfl, hB7⟩
        have o7 := o6.read hB7
        clear o6 hB7 c0 c1 c2 c3 c4 c5 c6 c7 c8 c9
        go_wp2_with fail
        refine (TextContent5_nil _ _).mono ?_
        rintro e w8 ⟨rfl, hB8⟩
        have o8 := o7.read hB8
        obtain ⟨c0, c1, c2, c3, c4, c5, c6, c7, c8, c9⟩ := op_cells2 (x := x) (av := .slice aa x.attrs.length ac) (t := 92) (o8.box (g := gx) (by simp [OpD.cells]))
        clear o7 hB8
        go_wp2_with fail
        refine (Validate5_nil _ _ _ _).mono ?_
        rintro e w9 ⟨rfl, hB9⟩
        have o9 := o8.read hB9
        clear c0 c1 c2 c3 c4 c5 c6 c7 c8 c9
        obtain ⟨c0, c1, c2, c3, c4, c5, c6, c7, c8, c9⟩ := op_cells2 (x := x) (av := .slice aa x.attrs.length ac) (t := 92) (o9.box (g := gx) (by simp [OpD.cells]))
        clear o8 hB9
        go_wp2_with fail
        refine (ByName5_nil _ _ _).mono ?_
        rintro e w10 ⟨rfl, hB10⟩
        have o10 := o9.read hB10
        clear c0 c1 c2 c3 c4 c5 c6 c7 c8 c9
        obtain ⟨c0, c1, c2, c3, c4, c5, c6, c7, c8, c9⟩ := op_cells2 (x := x) (av := .slice aa x.attrs.length ac) (t := 92) (o10.box (g := gx) (by simp [OpD.cells]))
        clear o9 hB10
        go_wp2_with fail
        refine (ByID5_nil _ _ _).mono ?_
        rintro e w11 ⟨rfl, hB11⟩
        have o11 := o10.read hB11
        clear c0 c1 c2 c3 c4 c5 c6 c7 c8 c9
        obtain ⟨c0, c1, c2, c3, c4, c5, c6, c7, c8, c9⟩ := op_cells2 (x := x) (av := .slice aa x.attrs.length ac) (t := 92) (o11.box (g := gx) (by simp [OpD.cells]))
        clear o10 hB11
        go_wp2_with fail
        refine (Before5_nil _ _ _).mono ?_
        rintro e w12 ⟨rfl, hB12⟩
        have o12 := o11.read hB12
        clear o11 hB12 c0 c1 c2 c3 c4 c5 c6 c7 c8 c9
        go_wp2_with fail
        refine (known5_any w12).mono ?_
        rintro e w13 ⟨rfl, hB13⟩
        have HX := Lib.hid (o12.back hB13)
        clear hB13 o12
        go_wp2
        go_ret
        exact ⟨rfl, by rw [HGX.out]; exact HX.out⟩
    · clear HE
      go_wp2_with fail
      refine (New_any _).mono ?_
      rintro e w4 ⟨rfl, hw4⟩
      have o4 := o3.newArena
      rw [← hw4] at o4
      clear hw4 o3
      generalize w2.heap.size = ga at *
      have HC := Lib.hid (o4.call (fun ρ hA => Document_any Ar.new ρ ga false _ hA (by decide)))
      obtain ⟨c0, c1, c2, c3, c4, c5, c6, c7, c8, c9⟩ := op_cells2 (x := x) (av := .slice aa x.attrs.length ac) (t := 92) (o4.box (g := gx) (by simp [OpD.cells]))
      clear o4
      go_wp2_with fail
      refine HC.out.mono ?_
      rintro e w5 ⟨rfl, o5⟩
      clear HC c0 c1 c2 c3 c4 c5 c6 c7 c8 c9
      go_wp2_with fail
      refine (Import5_nil _ _ _ _).mono ?_
      rintro e w6 ⟨rfl, hB6⟩
      have o6 := o5.read hB6
      obtain ⟨c0, c1, c2, c3, c4, c5, c6, c7, c8, c9⟩ := op_cells2 (x := x) (av := .slice aa x.attrs.length ac) (t := 92) (o6.box (g := gx) (by simp [OpD.cells]))
      clear o5 hB6
      go_wp2_with fail
      refine (Attribute5_nil _ _ _ _).mono ?_
      rintro e w7 ⟨rfl, hB7⟩
      have o7 := o6.read hB7
      clear o6 hB7 c0 c1 c2 c3 c4 c5 c6 c7 c8 c9
      go_wp2_with fail
      refine (TextContent5_nil _ _).mono ?_
      rintro e w8 ⟨rfl, hB8⟩
      have o8 := o7.read hB8
      obtain ⟨c0, c1, c2, c3, c4, c5, c6, c7, c8, c9⟩ := op_cells2 (x := x) (av := .slice aa x.attrs.length ac) (t := 92) (o8.box (g := gx) (by simp [OpD.cells]))
      clear o7 hB8
      go_wp2_with fail
      refine (Validate5_nil _ _ _ _).mono ?_
      rintro e w9 ⟨rfl, hB9⟩
      have o9 := o8.read hB9
      clear c0 c1 c2 c3 c4 c5 c6 c7 c8 c9
      obtain ⟨c0, c1, c2, c3, c4, c5, c6, c7, c8, c9⟩ := op_cells2 (x := x) (av := .slice aa x.attrs.length ac) (t := 92) (o9.box (g := gx) (by simp [OpD.cells]))
      clear o8 hB9
      go_wp2_with fail
      refine (ByName5_nil _ _ _).mono ?_
      rintro e w10 ⟨rfl, hB10⟩
      have o10 := o9.read hB10
      clear c0 c1 c2 c3 c4 c5 c6 c7 c8 c9
      obtain ⟨c0, c1, c2, c3, c4, c5, c6, c7, c8, c9⟩ := op_cells2 (x := x) (av := .slice aa x.attrs.length ac) (t := 92) (o10.box (g := gx) (by simp [OpD.cells]))
      clear o9 hB10
      go_wp2_with fail
      refine (ByID5_nil _ _ _).mono ?_
      rintro e w11 ⟨rfl, hB11⟩
      have o11 := o10.read hB11
      clear c0 c1 c2 c3 c4 c5 c6 c7 c8 c9
      obtain ⟨c0, c1, c2, c3, c4, c5, c6, c7, c8, c9⟩ := op_cells2 (x := x) (av := .slice aa x.attrs.length ac) (t := 92) (o11.box (g := gx) (by simp [OpD.cells]))
      clear o10 hB11
      go_wp2_with fail
      refine (Before5_nil _ _ _).mono ?_
      rintro e w12 ⟨rfl, hB12⟩
      have o12 := o11.read hB12
      clear o11 hB12 c0 c1 c2 c3 c4 c5 c6 c7 c8 c9
      go_wp2_with fail
      refine (known5_any w12).mono ?_
      rintro e w13 ⟨rfl, hB13⟩
      have HX := Lib.hid (o12.back hB13)
      clear hB13 o12
      go_wp2
      go_ret
      exact ⟨rfl, by rw [HGX.out]; exact HX.out⟩
  · have HD := Lib.hid (show decide (smallOp x) = false from decide_eq_false hs)
    clear hs hx HDO
    unfold OpD.cells at o1 HS ⊢
    go_enter Tryz.func15, Tryz.ntmps15
    go_wp2_with fail
    refine (HS.out _ o1.low).mono ?_
    rintro e w1 ⟨rfl, hB1⟩
    rw [HD.out]
    go_wp2_with fail
    refine (known5_any w1).mono ?_
    rintro e w3 ⟨rfl, hB3⟩
    have HX := Lib.hid ((o1.read hB1).back hB3)
    clear hB1 hB3 o1
    go_wp2
    go_ret
    exact ⟨rfl, HX.out⟩

end Go.Proofs.YtpicinjcmjaogaaGreat
