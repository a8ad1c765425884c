/-
  The program's arena: what a nil arena answers. (Printed by genni.py.)
-/
import Derived.Test.YtpicinjcmjaogaaGreatK22
namespace Go.Proofs.YtpicinjcmjaogaaGreat
open Go.RowKit Classical
set_option linter.unusedVariables false

theorem check_nil (v : Value) (w : World) : Calls Tryz.prog 117 #[.pointer none, v] w fun e w' => e = .returned (.int .i64 1) ∧ w = w' := by
  go_enter Tryz.func117, Tryz.ntmps117
  go_wp2
  go_ret
  exact ⟨rfl, rfl⟩
theorem has_nil (h : Int) (w : World) : Calls Tryz.prog 115 #[.pointer none, .int .i64 h] w fun e w' => e = .returned (.bool false) ∧ w = w' := by
  go_enter Tryz.func115, Tryz.ntmps115
  go_wp2
  go_ret
  exact ⟨rfl, rfl⟩
theorem document_nil (d : Int) (w : World) : Calls Tryz.prog 98 #[.pointer none, .int .i64 d] w fun e w' => e = .returned (.int .i64 1) ∧ Below w.heap.size w w' := by
  go_enter Tryz.func98, Tryz.ntmps98
  go_wp2_with fail
  refine (check_nil _ _).mono ?_
  rintro e w' ⟨rfl, rfl⟩
  go_wp2
  go_ret
  exact ⟨rfl, below_alloc _ _⟩
theorem Document_nil (q : Bool) (w : World) : Calls Tryz.prog 22 #[.pointer none, .bool q] w fun e w' => e = .returned (.int .i64 0) ∧ w = w' := by
  go_enter Tryz.func22, Tryz.ntmps22
  go_wp2
  go_ret
  exact ⟨rfl, rfl⟩
set_option maxRecDepth 100000 in
theorem create_nil (d : Int) (v : Array Value) (w : World) : Calls Tryz.prog 159 #[.pointer none, .int .i64 d, .agg v] w fun e w' => e = .returned (.tuple #[.int .i64 0, .int .i64 1]) ∧ Below w.heap.size w w' := by
  go_enter Tryz.func159, Tryz.ntmps159
  go_wp2_with fail
  refine (document_nil _ _).mono ?_
  rintro e w' ⟨rfl, hB⟩
  have HB := Lib.hid ((below_alloc w (.cells v 46)).trans (hB.mono (by simp)))
  clear hB
  go_wp2
  go_ret2
  exact ⟨by simp, HB.out⟩
set_option maxRecDepth 100000 in
theorem Doctype_nil (d : Int) (s1 s2 s3 : ByteArray) (w : World) : Calls Tryz.prog 83 #[.pointer none, .int .i64 d, .string s1, .string s2, .string s3] w fun e w' => e = .returned (.tuple #[.int .i64 0, .int .i64 1]) ∧ Below w.heap.size w w' := by
  go_enter Tryz.func83, Tryz.ntmps83
  go_wp2_with fail
  refine (create_nil _ _ _).mono ?_
  rintro e w' ⟨rfl, hB⟩
  have HB := Lib.hid hB
  clear hB
  go_wp2
  go_ret2
  exact ⟨by simp, HB.out⟩
set_option maxRecDepth 100000 in
theorem Text_nil (d : Int) (s : ByteArray) (w : World) : Calls Tryz.prog 82 #[.pointer none, .int .i64 d, .string s] w fun e w' => e = .returned (.tuple #[.int .i64 0, .int .i64 1]) ∧ Below w.heap.size w w' := by
  go_enter Tryz.func82, Tryz.ntmps82
  go_wp2_with fail
  refine (create_nil _ _ _).mono ?_
  rintro e w' ⟨rfl, hB⟩
  have HB := Lib.hid hB
  clear hB
  go_wp2
  go_ret2
  exact ⟨by simp, HB.out⟩
set_option maxRecDepth 100000 in
theorem Comment_nil (d : Int) (s : ByteArray) (w : World) : Calls Tryz.prog 201 #[.pointer none, .int .i64 d, .string s] w fun e w' => e = .returned (.tuple #[.int .i64 0, .int .i64 1]) ∧ Below w.heap.size w w' := by
  go_enter Tryz.func201, Tryz.ntmps201
  go_wp2_with fail
  refine (create_nil _ _ _).mono ?_
  rintro e w' ⟨rfl, hB⟩
  have HB := Lib.hid hB
  clear hB
  go_wp2
  go_ret2
  exact ⟨by simp, HB.out⟩
set_option maxRecDepth 100000 in
theorem Fragment_nil (d : Int) (w : World) : Calls Tryz.prog 84 #[.pointer none, .int .i64 d] w fun e w' => e = .returned (.tuple #[.int .i64 0, .int .i64 1]) ∧ Below w.heap.size w w' := by
  go_enter Tryz.func84, Tryz.ntmps84
  go_wp2_with fail
  refine (create_nil _ _ _).mono ?_
  rintro e w' ⟨rfl, hB⟩
  have HB := Lib.hid hB
  clear hB
  go_wp2
  go_ret2
  exact ⟨by simp, HB.out⟩
set_option maxRecDepth 100000 in
theorem Element_nil (d s : Int) (n : ByteArray) (v : Value) (w : World) : Calls Tryz.prog 27 #[.pointer none, .int .i64 d, .int .i64 s, .string n, v] w fun e w' => e = .returned (.tuple #[.int .i64 0, .int .i64 1]) ∧ Below w.heap.size w w' := by
  go_enter Tryz.func27, Tryz.ntmps27
  go_wp2_with fail
  refine (document_nil _ _).mono ?_
  rintro e w' ⟨rfl, hB⟩
  have HB := Lib.hid hB
  clear hB
  go_wp2
  go_ret2
  exact ⟨by simp, HB.out⟩
set_option maxRecDepth 100000 in
theorem Inert_nil (d : Int) (w : World) : Calls Tryz.prog 50 #[.pointer none, .int .i64 d] w fun e w' => e = .returned (.tuple #[.int .i64 0, .int .i64 1]) ∧ Below w.heap.size w w' := by
  go_enter Tryz.func50, Tryz.ntmps50
  go_wp2_with fail
  refine (document_nil _ _).mono ?_
  rintro e w' ⟨rfl, hB⟩
  have HB := Lib.hid hB
  clear hB
  go_wp2
  go_ret2
  exact ⟨by simp, HB.out⟩
set_option maxRecDepth 100000 in
theorem SetQuirks_nil (d : Int) (q : Bool) (w : World) : Calls Tryz.prog 206 #[.pointer none, .int .i64 d, .bool q] w fun e w' => e = .returned (.int .i64 1) ∧ Below w.heap.size w w' := by
  go_enter Tryz.func206, Tryz.ntmps206
  go_wp2_with fail
  refine (document_nil _ _).mono ?_
  rintro e w' ⟨rfl, hB⟩
  have HB := Lib.hid hB
  clear hB
  go_wp2
  go_ret
  exact ⟨rfl, HB.out⟩
set_option maxRecDepth 100000 in
theorem Put_nil (a b c : Int) (w : World) : Calls Tryz.prog 125 #[.pointer none, .int .i64 a, .int .i64 b, .int .i64 c] w fun e w' => e = .returned (.int .i64 1) ∧ Below w.heap.size w w' := by
  go_enter Tryz.func125, Tryz.ntmps125
  go_wp2_with fail
  refine (check_nil _ _).mono ?_
  rintro e w' ⟨rfl, rfl⟩
  go_wp2
  go_ret
  exact ⟨rfl, below_alloc _ _⟩
set_option maxRecDepth 100000 in
theorem Cut_nil (a : Int) (w : World) : Calls Tryz.prog 121 #[.pointer none, .int .i64 a] w fun e w' => e = .returned (.int .i64 1) ∧ Below w.heap.size w w' := by
  go_enter Tryz.func121, Tryz.ntmps121
  go_wp2_with fail
  refine (check_nil _ _).mono ?_
  rintro e w' ⟨rfl, rfl⟩
  go_wp2
  go_ret
  exact ⟨rfl, below_alloc _ _⟩
set_option maxRecDepth 100000 in
theorem SetData_nil (a : Int) (s : ByteArray) (w : World) : Calls Tryz.prog 124 #[.pointer none, .int .i64 a, .string s] w fun e w' => e = .returned (.int .i64 1) ∧ Below w.heap.size w w' := by
  go_enter Tryz.func124, Tryz.ntmps124
  go_wp2_with fail
  refine (check_nil _ _).mono ?_
  rintro e w' ⟨rfl, rfl⟩
  go_wp2
  go_ret
  exact ⟨rfl, below_alloc _ _⟩
set_option maxRecDepth 100000 in
theorem SetAttrs_nil (a : Int) (v : Value) (w : World) : Calls Tryz.prog 110 #[.pointer none, .int .i64 a, v] w fun e w' => e = .returned (.int .i64 1) ∧ Below w.heap.size w w' := by
  go_enter Tryz.func110, Tryz.ntmps110
  go_wp2_with fail
  refine (check_nil _ _).mono ?_
  rintro e w' ⟨rfl, rfl⟩
  go_wp2
  go_ret
  exact ⟨rfl, below_alloc _ _⟩
set_option maxRecDepth 100000 in
theorem SetDoc_nil (a b : Int) (w : World) : Calls Tryz.prog 207 #[.pointer none, .int .i64 a, .int .i64 b] w fun e w' => e = .returned (.int .i64 1) ∧ Below w.heap.size w w' := by
  go_enter Tryz.func207, Tryz.ntmps207
  go_wp2_with fail
  refine (check_nil _ _).mono ?_
  rintro e w' ⟨rfl, rfl⟩
  go_wp2
  go_ret
  exact ⟨rfl, below_alloc _ _⟩
set_option maxRecDepth 100000 in
set_option maxHeartbeats 1000000 in
theorem Do_nil_1 (a b2 c : Int) (flag : Bool) (space : Int) (name s t : ByteArray) (va : Option Addr) (vn vc : Nat) (w : World) :
    Calls Tryz.prog 152 #[.pointer none, .agg #[.int .i64 1, .int .i64 a, .int .i64 b2, .int .i64 c, .bool flag, .int .i64 space, .string name, .string s, .string t, .slice va vn vc]] w fun e w' => e = .returned (.tuple #[.int .i64 0, .int .i64 0]) ∧ Below w.heap.size w w' := by
  go_enter Tryz.func152, Tryz.ntmps152
  go_wp2_with fail
  refine (Document_nil flag _).mono ?_
  rintro e w' ⟨rfl, hB⟩
  have HB := Lib.hid hB
  clear hB
  go_wp2
  go_ret2
  exact ⟨by simp, by rw [← HB.out]; exact below_alloc _ _⟩
set_option maxRecDepth 100000 in
set_option maxHeartbeats 1000000 in
theorem Do_nil_2 (a b2 c : Int) (flag : Bool) (space : Int) (name s t : ByteArray) (va : Option Addr) (vn vc : Nat) (w : World) :
    Calls Tryz.prog 152 #[.pointer none, .agg #[.int .i64 2, .int .i64 a, .int .i64 b2, .int .i64 c, .bool flag, .int .i64 space, .string name, .string s, .string t, .slice va vn vc]] w fun e w' => e = .returned (.tuple #[.int .i64 0, .int .i64 1]) ∧ Below w.heap.size w w' := by
  go_enter Tryz.func152, Tryz.ntmps152
  go_wp2_with fail
  refine (Doctype_nil a name s t _).mono ?_
  rintro e w' ⟨rfl, hB⟩
  have HB := Lib.hid hB
  clear hB
  go_wp2
  go_ret2
  exact ⟨by simp, (below_alloc w _).trans (HB.out.mono (by simp))⟩
set_option maxRecDepth 100000 in
set_option maxHeartbeats 1000000 in
theorem Do_nil_3 (a b2 c : Int) (flag : Bool) (space : Int) (name s t : ByteArray) (va : Option Addr) (vn vc : Nat) (w : World) :
    Calls Tryz.prog 152 #[.pointer none, .agg #[.int .i64 3, .int .i64 a, .int .i64 b2, .int .i64 c, .bool flag, .int .i64 space, .string name, .string s, .string t, .slice va vn vc]] w fun e w' => e = .returned (.tuple #[.int .i64 0, .int .i64 1]) ∧ Below w.heap.size w w' := by
  go_enter Tryz.func152, Tryz.ntmps152
  go_wp2_with fail
  refine (Element_nil a space name _ _).mono ?_
  rintro e w' ⟨rfl, hB⟩
  have HB := Lib.hid hB
  clear hB
  go_wp2
  go_ret2
  exact ⟨by simp, (below_alloc w _).trans (HB.out.mono (by simp))⟩
set_option maxRecDepth 100000 in
set_option maxHeartbeats 1000000 in
theorem Do_nil_4 (a b2 c : Int) (flag : Bool) (space : Int) (name s t : ByteArray) (va : Option Addr) (vn vc : Nat) (w : World) :
    Calls Tryz.prog 152 #[.pointer none, .agg #[.int .i64 4, .int .i64 a, .int .i64 b2, .int .i64 c, .bool flag, .int .i64 space, .string name, .string s, .string t, .slice va vn vc]] w fun e w' => e = .returned (.tuple #[.int .i64 0, .int .i64 1]) ∧ Below w.heap.size w w' := by
  go_enter Tryz.func152, Tryz.ntmps152
  go_wp2_with fail
  refine (Text_nil a s _).mono ?_
  rintro e w' ⟨rfl, hB⟩
  have HB := Lib.hid hB
  clear hB
  go_wp2
  go_ret2
  exact ⟨by simp, (below_alloc w _).trans (HB.out.mono (by simp))⟩
set_option maxRecDepth 100000 in
set_option maxHeartbeats 1000000 in
theorem Do_nil_5 (a b2 c : Int) (flag : Bool) (space : Int) (name s t : ByteArray) (va : Option Addr) (vn vc : Nat) (w : World) :
    Calls Tryz.prog 152 #[.pointer none, .agg #[.int .i64 5, .int .i64 a, .int .i64 b2, .int .i64 c, .bool flag, .int .i64 space, .string name, .string s, .string t, .slice va vn vc]] w fun e w' => e = .returned (.tuple #[.int .i64 0, .int .i64 1]) ∧ Below w.heap.size w w' := by
  go_enter Tryz.func152, Tryz.ntmps152
  go_wp2_with fail
  refine (Comment_nil a s _).mono ?_
  rintro e w' ⟨rfl, hB⟩
  have HB := Lib.hid hB
  clear hB
  go_wp2
  go_ret2
  exact ⟨by simp, (below_alloc w _).trans (HB.out.mono (by simp))⟩
set_option maxRecDepth 100000 in
set_option maxHeartbeats 1000000 in
theorem Do_nil_6 (a b2 c : Int) (flag : Bool) (space : Int) (name s t : ByteArray) (va : Option Addr) (vn vc : Nat) (w : World) :
    Calls Tryz.prog 152 #[.pointer none, .agg #[.int .i64 6, .int .i64 a, .int .i64 b2, .int .i64 c, .bool flag, .int .i64 space, .string name, .string s, .string t, .slice va vn vc]] w fun e w' => e = .returned (.tuple #[.int .i64 0, .int .i64 1]) ∧ Below w.heap.size w w' := by
  go_enter Tryz.func152, Tryz.ntmps152
  go_wp2_with fail
  refine (Fragment_nil a _).mono ?_
  rintro e w' ⟨rfl, hB⟩
  have HB := Lib.hid hB
  clear hB
  go_wp2
  go_ret2
  exact ⟨by simp, (below_alloc w _).trans (HB.out.mono (by simp))⟩
set_option maxRecDepth 100000 in
set_option maxHeartbeats 1000000 in
theorem Do_nil_7 (a b2 c : Int) (flag : Bool) (space : Int) (name s t : ByteArray) (va : Option Addr) (vn vc : Nat) (w : World) :
    Calls Tryz.prog 152 #[.pointer none, .agg #[.int .i64 7, .int .i64 a, .int .i64 b2, .int .i64 c, .bool flag, .int .i64 space, .string name, .string s, .string t, .slice va vn vc]] w fun e w' => e = .returned (.tuple #[.int .i64 0, .int .i64 1]) ∧ Below w.heap.size w w' := by
  go_enter Tryz.func152, Tryz.ntmps152
  go_wp2_with fail
  refine (Inert_nil a _).mono ?_
  rintro e w' ⟨rfl, hB⟩
  have HB := Lib.hid hB
  clear hB
  go_wp2
  go_ret2
  exact ⟨by simp, (below_alloc w _).trans (HB.out.mono (by simp))⟩
set_option maxRecDepth 100000 in
set_option maxHeartbeats 1000000 in
theorem Do_nil_8 (a b2 c : Int) (flag : Bool) (space : Int) (name s t : ByteArray) (va : Option Addr) (vn vc : Nat) (w : World) :
    Calls Tryz.prog 152 #[.pointer none, .agg #[.int .i64 8, .int .i64 a, .int .i64 b2, .int .i64 c, .bool flag, .int .i64 space, .string name, .string s, .string t, .slice va vn vc]] w fun e w' => e = .returned (.tuple #[.int .i64 0, .int .i64 1]) ∧ Below w.heap.size w w' := by
  go_enter Tryz.func152, Tryz.ntmps152
  go_wp2_with fail
  refine (Put_nil a b2 c _).mono ?_
  rintro e w' ⟨rfl, hB⟩
  have HB := Lib.hid hB
  clear hB
  go_wp2
  go_ret2
  exact ⟨by simp, (below_alloc w _).trans (HB.out.mono (by simp))⟩
set_option maxRecDepth 100000 in
set_option maxHeartbeats 1000000 in
theorem Do_nil_9 (a b2 c : Int) (flag : Bool) (space : Int) (name s t : ByteArray) (va : Option Addr) (vn vc : Nat) (w : World) :
    Calls Tryz.prog 152 #[.pointer none, .agg #[.int .i64 9, .int .i64 a, .int .i64 b2, .int .i64 c, .bool flag, .int .i64 space, .string name, .string s, .string t, .slice va vn vc]] w fun e w' => e = .returned (.tuple #[.int .i64 0, .int .i64 1]) ∧ Below w.heap.size w w' := by
  go_enter Tryz.func152, Tryz.ntmps152
  go_wp2_with fail
  refine (Cut_nil a _).mono ?_
  rintro e w' ⟨rfl, hB⟩
  have HB := Lib.hid hB
  clear hB
  go_wp2
  go_ret2
  exact ⟨by simp, (below_alloc w _).trans (HB.out.mono (by simp))⟩
set_option maxRecDepth 100000 in
set_option maxHeartbeats 1000000 in
theorem Do_nil_10 (a b2 c : Int) (flag : Bool) (space : Int) (name s t : ByteArray) (va : Option Addr) (vn vc : Nat) (w : World) :
    Calls Tryz.prog 152 #[.pointer none, .agg #[.int .i64 10, .int .i64 a, .int .i64 b2, .int .i64 c, .bool flag, .int .i64 space, .string name, .string s, .string t, .slice va vn vc]] w fun e w' => e = .returned (.tuple #[.int .i64 0, .int .i64 1]) ∧ Below w.heap.size w w' := by
  go_enter Tryz.func152, Tryz.ntmps152
  go_wp2_with fail
  refine (SetData_nil a s _).mono ?_
  rintro e w' ⟨rfl, hB⟩
  have HB := Lib.hid hB
  clear hB
  go_wp2
  go_ret2
  exact ⟨by simp, (below_alloc w _).trans (HB.out.mono (by simp))⟩
set_option maxRecDepth 100000 in
set_option maxHeartbeats 1000000 in
theorem Do_nil_11 (a b2 c : Int) (flag : Bool) (space : Int) (name s t : ByteArray) (va : Option Addr) (vn vc : Nat) (w : World) :
    Calls Tryz.prog 152 #[.pointer none, .agg #[.int .i64 11, .int .i64 a, .int .i64 b2, .int .i64 c, .bool flag, .int .i64 space, .string name, .string s, .string t, .slice va vn vc]] w fun e w' => e = .returned (.tuple #[.int .i64 0, .int .i64 1]) ∧ Below w.heap.size w w' := by
  go_enter Tryz.func152, Tryz.ntmps152
  go_wp2_with fail
  refine (SetAttrs_nil a _ _).mono ?_
  rintro e w' ⟨rfl, hB⟩
  have HB := Lib.hid hB
  clear hB
  go_wp2
  go_ret2
  exact ⟨by simp, (below_alloc w _).trans (HB.out.mono (by simp))⟩
set_option maxRecDepth 100000 in
set_option maxHeartbeats 1000000 in
theorem Do_nil_12 (a b2 c : Int) (flag : Bool) (space : Int) (name s t : ByteArray) (va : Option Addr) (vn vc : Nat) (w : World) :
    Calls Tryz.prog 152 #[.pointer none, .agg #[.int .i64 12, .int .i64 a, .int .i64 b2, .int .i64 c, .bool flag, .int .i64 space, .string name, .string s, .string t, .slice va vn vc]] w fun e w' => e = .returned (.tuple #[.int .i64 0, .int .i64 1]) ∧ Below w.heap.size w w' := by
  go_enter Tryz.func152, Tryz.ntmps152
  go_wp2_with fail
  refine (SetQuirks_nil a flag _).mono ?_
  rintro e w' ⟨rfl, hB⟩
  have HB := Lib.hid hB
  clear hB
  go_wp2
  go_ret2
  exact ⟨by simp, (below_alloc w _).trans (HB.out.mono (by simp))⟩
set_option maxRecDepth 100000 in
set_option maxHeartbeats 1000000 in
theorem Do_nil_13 (a b2 c : Int) (flag : Bool) (space : Int) (name s t : ByteArray) (va : Option Addr) (vn vc : Nat) (w : World) :
    Calls Tryz.prog 152 #[.pointer none, .agg #[.int .i64 13, .int .i64 a, .int .i64 b2, .int .i64 c, .bool flag, .int .i64 space, .string name, .string s, .string t, .slice va vn vc]] w fun e w' => e = .returned (.tuple #[.int .i64 0, .int .i64 1]) ∧ Below w.heap.size w w' := by
  go_enter Tryz.func152, Tryz.ntmps152
  go_wp2_with fail
  refine (SetDoc_nil a b2 _).mono ?_
  rintro e w' ⟨rfl, hB⟩
  have HB := Lib.hid hB
  clear hB
  go_wp2
  go_ret2
  exact ⟨by simp, (below_alloc w _).trans (HB.out.mono (by simp))⟩
set_option maxRecDepth 100000 in
set_option maxHeartbeats 1000000 in
theorem Do_nil_0 (k a b2 c : Int) (flag : Bool) (space : Int) (name s t : ByteArray) (va : Option Addr) (vn vc : Nat) (w : World) (hk : k < 1 ∨ 13 < k) :
    Calls Tryz.prog 152 #[.pointer none, .agg #[.int .i64 k, .int .i64 a, .int .i64 b2, .int .i64 c, .bool flag, .int .i64 space, .string name, .string s, .string t, .slice va vn vc]] w fun e w' => e = .returned (.tuple #[.int .i64 0, .int .i64 0]) ∧ Below w.heap.size w w' := by
  have e1 : (k == 1) = false := by simp; omega
  have e2 : (k == 2) = false := by simp; omega
  have e3 : (k == 3) = false := by simp; omega
  have e4 : (k == 4) = false := by simp; omega
  have e5 : (k == 5) = false := by simp; omega
  have e6 : (k == 6) = false := by simp; omega
  have e7 : (k == 7) = false := by simp; omega
  have e8 : (k == 8) = false := by simp; omega
  have e9 : (k == 9) = false := by simp; omega
  have e10 : (k == 10) = false := by simp; omega
  have e11 : (k == 11) = false := by simp; omega
  have e12 : (k == 12) = false := by simp; omega
  have e13 : (k == 13) = false := by simp; omega
  clear hk
  go_enter Tryz.func152, Tryz.ntmps152
  go_wp2
  go_ret2
  exact ⟨by simp, below_alloc w _⟩
theorem Do_nil (x : OpD) (av : Value) (w : World) (hv : RAttrs w av x.attrs) :
    Calls Tryz.prog 152 #[.pointer none, .agg (x.cells av).toArray] w fun e w' => e = .returned (.tuple #[.int .i64 0, .int .i64 (if 2 ≤ x.kind ∧ x.kind ≤ 13 then 1 else 0)]) ∧ Below w.heap.size w w' := by
  obtain ⟨va, vc, rfl, -⟩ := hv.form
  obtain ⟨k, a, b2, c, flag, space, name, s, t, attrs⟩ := x
  by_cases hk : k < 1 ∨ 13 < k
  · have := Do_nil_0 k a b2 c flag space name s t va attrs.length vc w hk
    rw [if_neg (by dsimp only; omega)]
    exact this
  · obtain rfl | rfl | rfl | rfl | rfl | rfl | rfl | rfl | rfl | rfl | rfl | rfl | rfl : k = 1 ∨ k = 2 ∨ k = 3 ∨ k = 4 ∨ k = 5 ∨ k = 6 ∨ k = 7 ∨ k = 8 ∨ k = 9 ∨ k = 10 ∨ k = 11 ∨ k = 12 ∨ k = 13 := by omega
    · exact Do_nil_1 a b2 c flag space name s t va attrs.length vc w
    · exact Do_nil_2 a b2 c flag space name s t va attrs.length vc w
    · exact Do_nil_3 a b2 c flag space name s t va attrs.length vc w
    · exact Do_nil_4 a b2 c flag space name s t va attrs.length vc w
    · exact Do_nil_5 a b2 c flag space name s t va attrs.length vc w
    · exact Do_nil_6 a b2 c flag space name s t va attrs.length vc w
    · exact Do_nil_7 a b2 c flag space name s t va attrs.length vc w
    · exact Do_nil_8 a b2 c flag space name s t va attrs.length vc w
    · exact Do_nil_9 a b2 c flag space name s t va attrs.length vc w
    · exact Do_nil_10 a b2 c flag space name s t va attrs.length vc w
    · exact Do_nil_11 a b2 c flag space name s t va attrs.length vc w
    · exact Do_nil_12 a b2 c flag space name s t va attrs.length vc w
    · exact Do_nil_13 a b2 c flag space name s t va attrs.length vc w
set_option maxRecDepth 100000 in
theorem Len_nil  (w : World) : Calls Tryz.prog 40 #[.pointer none] w fun e w' => e = .returned (.int .i64 0) ∧ w = w' := by
  go_enter Tryz.func40, Tryz.ntmps40
  go_wp2
  go_ret
  exact ⟨rfl, rfl⟩
set_option maxRecDepth 100000 in
theorem Nodes_nil  (w : World) : Calls Tryz.prog 43 #[.pointer none] w fun e w' => e = .returned (.slice none 0 0) ∧ w = w' := by
  go_enter Tryz.func43, Tryz.ntmps43
  go_wp2
  go_ret
  exact ⟨rfl, rfl⟩
set_option maxRecDepth 100000 in
theorem Kids_nil (h : Int) (w : World) : Calls Tryz.prog 33 #[.pointer none, .int .i64 h] w fun e w' => e = .returned (.slice none 0 0) ∧ w = w' := by
  go_enter Tryz.func33, Tryz.ntmps33
  go_wp2_with fail
  refine (has_nil _ _).mono ?_
  rintro e w' ⟨rfl, rfl⟩
  go_wp2
  go_ret
  exact ⟨rfl, rfl⟩
set_option maxRecDepth 100000 in
theorem Parent_nil (h : Int) (w : World) : Calls Tryz.prog 37 #[.pointer none, .int .i64 h] w fun e w' => e = .returned (.int .i64 0) ∧ w = w' := by
  go_enter Tryz.func37, Tryz.ntmps37
  go_wp2_with fail
  refine (has_nil _ _).mono ?_
  rintro e w' ⟨rfl, rfl⟩
  go_wp2
  go_ret
  exact ⟨rfl, rfl⟩
set_option maxRecDepth 100000 in
theorem Index_nil (h : Int) (w : World) : Calls Tryz.prog 41 #[.pointer none, .int .i64 h] w fun e w' => e = .returned (.int .i64 (-1)) ∧ w = w' := by
  go_enter Tryz.func41, Tryz.ntmps41
  go_wp2_with fail
  refine (Parent_nil _ _).mono ?_
  rintro e w' ⟨rfl, rfl⟩
  go_wp2
  go_ret
  exact ⟨rfl, rfl⟩
set_option maxRecDepth 100000 in
set_option maxHeartbeats 1000000 in
theorem Node_nil (h : Int) (w : World) : Calls Tryz.prog 34 #[.pointer none, .int .i64 h] w fun e w' => e = .returned (.tuple #[.agg (zeroNd.cells (.slice none 0 0) (.slice none 0 0)).toArray, .int .i64 1]) ∧ Below w.heap.size w w' := by
  have hB1 : Below w.heap.size w ((w.alloc (.cells zcells 46)).alloc (.cells #[.int .i64 h] 3)) := ((Below.refl _ _).alloc (Nat.le_refl _) _).alloc (by simp) _
  have hz : ((w.alloc (.cells zcells 46)).alloc (.cells #[.int .i64 h] 3)).heap[w.heap.size]? = some (.cells zcells 46 (0, 0)) := (heap_old_alloc _ _ _ (by simp)).trans (heap_alloc_new w _)
  have hs1 : w.heap.size < ((w.alloc (.cells zcells 46)).alloc (.cells #[.int .i64 h] 3)).heap.size := by simp; omega
  generalize hW1 : (w.alloc (.cells zcells 46)).alloc (.cells #[.int .i64 h] 3) = W1 at *
  have HW1 := Lib.hid hW1
  clear hW1
  have hone := cellsOneCell zeroNd (.slice none 0 0) (.slice none 0 0) rfl rfl
  have HT := Lib.hid (And.intro hone (box_there zeroNd (.slice none 0 0) (.slice none 0 0) hz rfl))
  have HB := Lib.hid (box_written zeroNd (.slice none 0 0) (.slice none 0 0) hz rfl)
  have hU := (Upd.refl (fun k => k = w.heap.size) W1).setCells (b := w.heap.size) (.inr rfl) 0 (zeroNd.cells (.slice none 0 0) (.slice none 0 0))
  have hBB : Below w.heap.size w (W1.setCells w.heap.size 0 (zeroNd.cells (.slice none 0 0) (.slice none 0 0))) :=
    hB1.trans (hU.toBelow' (fun k hk e => by omega) (by omega))
  have HE := Lib.hid hBB
  clear hone hz hU hBB hB1 hs1
  go_enter Tryz.func34, Tryz.ntmps34
  go_wp2_with fail
  refine (check_nil _ _).mono ?_
  rintro e w' ⟨rfl, rfl⟩
  rw [show (w.alloc _).alloc _ = W1 from HW1.out]
  go_wp2_with (refine wpList_store_mid rfl 46 (.tmp 4) (.tmp 13) rfl w.heap.size 0 (zeroNd.cells (.slice none 0 0) (.slice none 0 0)).toArray rfl rfl HT.out.2 (sizeNode _ _ _) (all_oneCell_toArray HT.out.1) ?_)
  refine bodyPost_ret (results_cell_tmp rfl _ _ w.heap.size _ rfl (run_loadVar_row _ _ 46 _ _ (0, 0) _ HB.out Tryz.underlying46 rfl (sizeNode _ _ _))) rfl ?_
  exact ⟨rfl, HE.out⟩
set_option maxRecDepth 100000 in
theorem Root_nil (h : Int) (w : World) : Calls Tryz.prog 80 #[.pointer none, .int .i64 h] w fun e w' => e = .returned (.int .i64 0) ∧ Below w.heap.size w w' := by
  go_enter Tryz.func80, Tryz.ntmps80
  go_wp2_with fail
  refine (has_nil _ _).mono ?_
  rintro e w' ⟨rfl, rfl⟩
  go_wp2
  go_ret
  exact ⟨rfl, below_alloc _ _⟩
set_option maxRecDepth 100000 in
theorem Contains_nil (h k : Int) (w : World) : Calls Tryz.prog 52 #[.pointer none, .int .i64 h, .int .i64 k] w fun e w' => e = .returned (.bool false) ∧ Below w.heap.size w w' := by
  go_enter Tryz.func52, Tryz.ntmps52
  go_wp2_with fail
  refine (has_nil _ _).mono ?_
  rintro e w' ⟨rfl, rfl⟩
  go_wp2
  refine bodyPost_ret (v := .bool false) (by simp [results, Tryz.f52, go_sem]) rfl ⟨rfl, ?_⟩
  first | exact below_alloc2 _ _ _ | exact (below_alloc2 _ _ _).setCell (by simp) _ | (trace_state; sorry)
set_option maxRecDepth 100000 in
theorem Copy_nil  (w : World) : Calls Tryz.prog 77 #[.pointer none] w fun e w' => e = .returned (.pointer none) ∧ w = w' := by
  go_enter Tryz.func77, Tryz.ntmps77
  go_wp2
  go_ret
  exact ⟨rfl, rfl⟩
set_option maxRecDepth 100000 in
theorem Same_no (p q : Option Addr) (h k : Int) (w : World) (hh : ∀ W : World, Below w.heap.size w W → Calls Tryz.prog 115 #[.pointer p, .int .i64 h] W fun e w' => e = .returned (.bool false) ∧ W = w') :
    Calls Tryz.prog 72 #[.pointer p, .int .i64 h, .pointer q, .int .i64 k] w fun e w' => e = .returned (.bool false) ∧ w = w' := by
  have HH := Lib.hid hh
  clear hh
  go_enter Tryz.func72, Tryz.ntmps72
  go_wp2_with fail
  refine (HH.out _ (Below.refl _ _)).mono ?_
  rintro e w' ⟨rfl, rfl⟩
  go_wp2
  go_ret
  exact ⟨rfl, rfl⟩
set_option maxRecDepth 100000 in
theorem Equal_nil1 (w : World) :
    Calls Tryz.prog 78 #[.pointer none, .pointer none] w fun e w' => e = .returned (.bool true) ∧ w = w' := by
  go_enter Tryz.func78, Tryz.ntmps78
  go_wp2_with fail
  refine (Len_nil _).mono ?_
  rintro e w' ⟨rfl, rfl⟩
  go_wp2_with fail
  refine (Len_nil _).mono ?_
  rintro e w' ⟨rfl, rfl⟩
  go_wp2
  go_ret
  exact ⟨rfl, rfl⟩
set_option maxRecDepth 100000 in
theorem Equal_nil2 (b : Nat) (w : World) (h1 : Calls Tryz.prog 40 #[.pointer (some ⟨b, 0, none⟩)] w fun e w' => e = .returned (.int .i64 0) ∧ w = w') :
    Calls Tryz.prog 78 #[.pointer none, .pointer (some ⟨b, 0, none⟩)] w fun e w' => e = .returned (.bool true) ∧ w = w' := by
  have H1 := Lib.hid h1
  clear h1
  go_enter Tryz.func78, Tryz.ntmps78
  go_wp2_with fail
  refine (Len_nil _).mono ?_
  rintro e w' ⟨rfl, rfl⟩
  go_wp2_with fail
  refine H1.out.mono ?_
  rintro e w' ⟨rfl, rfl⟩
  go_wp2
  go_ret
  exact ⟨rfl, rfl⟩
set_option maxRecDepth 100000 in
theorem Equal_nil3 (b : Nat) (w : World) (h1 : Calls Tryz.prog 40 #[.pointer (some ⟨b, 0, none⟩)] w fun e w' => e = .returned (.int .i64 0) ∧ w = w') :
    Calls Tryz.prog 78 #[.pointer (some ⟨b, 0, none⟩), .pointer none] w fun e w' => e = .returned (.bool true) ∧ w = w' := by
  have H1 := Lib.hid h1
  clear h1
  go_enter Tryz.func78, Tryz.ntmps78
  go_wp2_with fail
  refine H1.out.mono ?_
  rintro e w' ⟨rfl, rfl⟩
  go_wp2_with fail
  refine (Len_nil _).mono ?_
  rintro e w' ⟨rfl, rfl⟩
  go_wp2
  go_ret
  exact ⟨rfl, rfl⟩

end Go.Proofs.YtpicinjcmjaogaaGreat
