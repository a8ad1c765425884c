/-
  Parts: D21.
-/
import Derived.Test.YtpicinjcmjaogaaGreatK35

/- The operations of layer 5: Do. (Printed by gend21.py.) -/
namespace Go.Proofs.YtpicinjcmjaogaaGreat
open Go.RowKit Go.Shelf
set_option linter.unusedVariables false

attribute [local go_sem] Oper.semAt_some

theorem Own.boxed {w0 w : World} {B b : Nat} {A : Ar} {L : List Asrt} (o : Own w0 B (.arena b A :: L) w) (ob : Obj) : Own w0 B (.arena b A :: .box w.heap.size ob :: L) (w.alloc ob) := (o.alloc ob).swap
theorem Own.unbox {w0 w : World} {B b g : Nat} {A : Ar} {ob : Obj} {L : List Asrt} (o : Own w0 B (.arena b A :: .box g ob :: L) w) : Own w0 B (.arena b A :: L) w := o.swap.drop

set_option maxRecDepth 100000 in
set_option maxHeartbeats 1000000 in
theorem one_any (f : Bool) (w : World) : Calls Tryz.prog 56 #[.bool f] w fun e w' => e = .returned (.int .i64 (one1 f)) ∧ w' = w := by
  cases f with
  | true =>
    go_enter Tryz.func56, Tryz.ntmps56
    go_wp2
    go_ret
    exact ⟨rfl, rfl⟩
  | false =>
    go_enter Tryz.func56, Tryz.ntmps56
    go_wp2
    go_ret
    exact ⟨rfl, rfl⟩

set_option maxRecDepth 100000 in
set_option maxHeartbeats 1000000 in
theorem Do5_21 {w0 w : World} {B b : Nat} {A : Ar} {L : List Asrt} (o : Own w0 B (.arena b A :: L) w) (hI : A.Inv) (hsz : A.ns.length + 10 ≤ 100000) (a b2 c : Int) (flag : Bool) (space : Int) (name s t : ByteArray) (attrs : List AttrD) (aa : Option Addr) (al ac : Nat) (hn : name.size ≤ 1000000) :
    Calls Tryz.prog 74 #[.pointer (some ⟨b, 0, none⟩), .agg (OpD.cells ⟨21, a, b2, c, flag, space, name, s, t, attrs⟩ (.slice aa al ac)).toArray] w fun e w' =>
      e = .returned (pairV (A.step5 ⟨21, a, b2, c, flag, space, name, s, t, attrs⟩).1) ∧ Own w0 B (.arena b (A.step5 ⟨21, a, b2, c, flag, space, name, s, t, attrs⟩).2 :: L) w' := by
  have hst : A.step5 ⟨21, a, b2, c, flag, space, name, s, t, attrs⟩ = ((0, (A.insertCall a b2 c).1), (A.insertCall a b2 c).2) := rfl
  rw [hst]
  clear hst
  unfold OpD.cells pairV at *
  have HC := Lib.hid (InsertD_own (p := a) (n := b2) (c := c) (o.boxed (.cells #[.int .i64 21, .int .i64 a, .int .i64 b2, .int .i64 c, .bool flag, .int .i64 space, .string name, .string s, .string t, .slice aa al ac] 92)) hI (by omega))
  clear o
  go_enter Tryz.func74, Tryz.ntmps74
  go_wp2_with fail
  refine HC.out.mono ?_
  rintro e w1 ⟨rfl, o1⟩
  have HO := Lib.hid o1.unbox
  clear o1 HC
  go_wp2
  go_ret2
  exact ⟨rfl, HO.out⟩

set_option maxRecDepth 100000 in
set_option maxHeartbeats 1000000 in
theorem Do5_22 {w0 w : World} {B b : Nat} {A : Ar} {L : List Asrt} (o : Own w0 B (.arena b A :: L) w) (hI : A.Inv) (hsz : A.ns.length + 10 ≤ 100000) (a b2 c : Int) (flag : Bool) (space : Int) (name s t : ByteArray) (attrs : List AttrD) (aa : Option Addr) (al ac : Nat) (hn : name.size ≤ 1000000) :
    Calls Tryz.prog 74 #[.pointer (some ⟨b, 0, none⟩), .agg (OpD.cells ⟨22, a, b2, c, flag, space, name, s, t, attrs⟩ (.slice aa al ac)).toArray] w fun e w' =>
      e = .returned (pairV (A.step5 ⟨22, a, b2, c, flag, space, name, s, t, attrs⟩).1) ∧ Own w0 B (.arena b (A.step5 ⟨22, a, b2, c, flag, space, name, s, t, attrs⟩).2 :: L) w' := by
  have hst : A.step5 ⟨22, a, b2, c, flag, space, name, s, t, attrs⟩ = ((0, (A.insertCall a b2 0).1), (A.insertCall a b2 0).2) := rfl
  rw [hst]
  clear hst
  unfold OpD.cells pairV at *
  have HC := Lib.hid (AppendD_own (p := a) (n := b2) (o.boxed (.cells #[.int .i64 22, .int .i64 a, .int .i64 b2, .int .i64 c, .bool flag, .int .i64 space, .string name, .string s, .string t, .slice aa al ac] 92)) hI (by omega))
  clear o
  go_enter Tryz.func74, Tryz.ntmps74
  go_wp2_with fail
  refine HC.out.mono ?_
  rintro e w1 ⟨rfl, o1⟩
  have HO := Lib.hid o1.unbox
  clear o1 HC
  go_wp2
  go_ret2
  exact ⟨rfl, HO.out⟩

set_option maxRecDepth 100000 in
set_option maxHeartbeats 1000000 in
theorem Do5_23 {w0 w : World} {B b : Nat} {A : Ar} {L : List Asrt} (o : Own w0 B (.arena b A :: L) w) (hI : A.Inv) (hsz : A.ns.length + 10 ≤ 100000) (a b2 c : Int) (flag : Bool) (space : Int) (name s t : ByteArray) (attrs : List AttrD) (aa : Option Addr) (al ac : Nat) (hn : name.size ≤ 1000000) :
    Calls Tryz.prog 74 #[.pointer (some ⟨b, 0, none⟩), .agg (OpD.cells ⟨23, a, b2, c, flag, space, name, s, t, attrs⟩ (.slice aa al ac)).toArray] w fun e w' =>
      e = .returned (pairV (A.step5 ⟨23, a, b2, c, flag, space, name, s, t, attrs⟩).1) ∧ Own w0 B (.arena b (A.step5 ⟨23, a, b2, c, flag, space, name, s, t, attrs⟩).2 :: L) w' := by
  have hst : A.step5 ⟨23, a, b2, c, flag, space, name, s, t, attrs⟩ = ((0, (A.replaceCall a b2 c).1), (A.replaceCall a b2 c).2) := rfl
  rw [hst]
  clear hst
  unfold OpD.cells pairV at *
  have HC := Lib.hid (ReplaceD_own (p := a) (n := b2) (c := c) (o.boxed (.cells #[.int .i64 23, .int .i64 a, .int .i64 b2, .int .i64 c, .bool flag, .int .i64 space, .string name, .string s, .string t, .slice aa al ac] 92)) hI (by omega))
  clear o
  go_enter Tryz.func74, Tryz.ntmps74
  go_wp2_with fail
  refine HC.out.mono ?_
  rintro e w1 ⟨rfl, o1⟩
  have HO := Lib.hid o1.unbox
  clear o1 HC
  go_wp2
  go_ret2
  exact ⟨rfl, HO.out⟩

set_option maxRecDepth 100000 in
set_option maxHeartbeats 1000000 in
theorem Do5_24 {w0 w : World} {B b : Nat} {A : Ar} {L : List Asrt} (o : Own w0 B (.arena b A :: L) w) (hI : A.Inv) (hsz : A.ns.length + 10 ≤ 100000) (a b2 c : Int) (flag : Bool) (space : Int) (name s t : ByteArray) (attrs : List AttrD) (aa : Option Addr) (al ac : Nat) (hn : name.size ≤ 1000000) :
    Calls Tryz.prog 74 #[.pointer (some ⟨b, 0, none⟩), .agg (OpD.cells ⟨24, a, b2, c, flag, space, name, s, t, attrs⟩ (.slice aa al ac)).toArray] w fun e w' =>
      e = .returned (pairV (A.step5 ⟨24, a, b2, c, flag, space, name, s, t, attrs⟩).1) ∧ Own w0 B (.arena b (A.step5 ⟨24, a, b2, c, flag, space, name, s, t, attrs⟩).2 :: L) w' := by
  have hst : A.step5 ⟨24, a, b2, c, flag, space, name, s, t, attrs⟩ = ((0, (A.removeCall a b2).1), (A.removeCall a b2).2) := rfl
  rw [hst]
  clear hst
  unfold OpD.cells pairV at *
  have HC := Lib.hid (RemoveD_own (p := a) (c := b2) (o.boxed (.cells #[.int .i64 24, .int .i64 a, .int .i64 b2, .int .i64 c, .bool flag, .int .i64 space, .string name, .string s, .string t, .slice aa al ac] 92)) hI (by omega))
  clear o
  go_enter Tryz.func74, Tryz.ntmps74
  go_wp2_with fail
  refine HC.out.mono ?_
  rintro e w1 ⟨rfl, o1⟩
  have HO := Lib.hid o1.unbox
  clear o1 HC
  go_wp2
  go_ret2
  exact ⟨rfl, HO.out⟩

set_option maxRecDepth 100000 in
set_option maxHeartbeats 1000000 in
theorem Do5_25 {w0 w : World} {B b : Nat} {A : Ar} {L : List Asrt} (o : Own w0 B (.arena b A :: L) w) (hI : A.Inv) (hsz : A.ns.length + 10 ≤ 100000) (a b2 c : Int) (flag : Bool) (space : Int) (name s t : ByteArray) (attrs : List AttrD) (aa : Option Addr) (al ac : Nat) (hn : name.size ≤ 1000000) :
    Calls Tryz.prog 74 #[.pointer (some ⟨b, 0, none⟩), .agg (OpD.cells ⟨25, a, b2, c, flag, space, name, s, t, attrs⟩ (.slice aa al ac)).toArray] w fun e w' =>
      e = .returned (pairV (A.step5 ⟨25, a, b2, c, flag, space, name, s, t, attrs⟩).1) ∧ Own w0 B (.arena b (A.step5 ⟨25, a, b2, c, flag, space, name, s, t, attrs⟩).2 :: L) w' := by
  have hst : A.step5 ⟨25, a, b2, c, flag, space, name, s, t, attrs⟩ = ((0, (A.cutCall a).1), (A.cutCall a).2) := rfl
  rw [hst]
  clear hst
  unfold OpD.cells pairV at *
  have HC := Lib.hid (DetachD_own (h := a) (o.boxed (.cells #[.int .i64 25, .int .i64 a, .int .i64 b2, .int .i64 c, .bool flag, .int .i64 space, .string name, .string s, .string t, .slice aa al ac] 92)) hI (by omega))
  clear o
  go_enter Tryz.func74, Tryz.ntmps74
  go_wp2_with fail
  refine HC.out.mono ?_
  rintro e w1 ⟨rfl, o1⟩
  have HO := Lib.hid o1.unbox
  clear o1 HC
  go_wp2
  go_ret2
  exact ⟨rfl, HO.out⟩

set_option maxRecDepth 100000 in
set_option maxHeartbeats 1000000 in
theorem Do5_26 {w0 w : World} {B b : Nat} {A : Ar} {L : List Asrt} (o : Own w0 B (.arena b A :: L) w) (hI : A.Inv) (hsz : A.ns.length + 10 ≤ 100000) (a b2 c : Int) (flag : Bool) (space : Int) (name s t : ByteArray) (attrs : List AttrD) (aa : Option Addr) (al ac : Nat) (hn : name.size ≤ 1000000) :
    Calls Tryz.prog 74 #[.pointer (some ⟨b, 0, none⟩), .agg (OpD.cells ⟨26, a, b2, c, flag, space, name, s, t, attrs⟩ (.slice aa al ac)).toArray] w fun e w' =>
      e = .returned (pairV (A.step5 ⟨26, a, b2, c, flag, space, name, s, t, attrs⟩).1) ∧ Own w0 B (.arena b (A.step5 ⟨26, a, b2, c, flag, space, name, s, t, attrs⟩).2 :: L) w' := by
  have hst : A.step5 ⟨26, a, b2, c, flag, space, name, s, t, attrs⟩ = ((0, (A.replaceAllCall a b2).1), (A.replaceAllCall a b2).2) := rfl
  rw [hst]
  clear hst
  unfold OpD.cells pairV at *
  have HC := Lib.hid (ReplaceAllD_own (p := a) (n := b2) (o.boxed (.cells #[.int .i64 26, .int .i64 a, .int .i64 b2, .int .i64 c, .bool flag, .int .i64 space, .string name, .string s, .string t, .slice aa al ac] 92)) hI (by omega))
  clear o
  go_enter Tryz.func74, Tryz.ntmps74
  go_wp2_with fail
  refine HC.out.mono ?_
  rintro e w1 ⟨rfl, o1⟩
  have HO := Lib.hid o1.unbox
  clear o1 HC
  go_wp2
  go_ret2
  exact ⟨rfl, HO.out⟩

set_option maxRecDepth 100000 in
set_option maxHeartbeats 1000000 in
theorem Do5_27 {w0 w : World} {B b : Nat} {A : Ar} {L : List Asrt} (o : Own w0 B (.arena b A :: L) w) (hI : A.Inv) (hsz : A.ns.length + 10 ≤ 100000) (a b2 c : Int) (flag : Bool) (space : Int) (name s t : ByteArray) (attrs : List AttrD) (aa : Option Addr) (al ac : Nat) (hn : name.size ≤ 1000000) :
    Calls Tryz.prog 74 #[.pointer (some ⟨b, 0, none⟩), .agg (OpD.cells ⟨27, a, b2, c, flag, space, name, s, t, attrs⟩ (.slice aa al ac)).toArray] w fun e w' =>
      e = .returned (pairV (A.step5 ⟨27, a, b2, c, flag, space, name, s, t, attrs⟩).1) ∧ Own w0 B (.arena b (A.step5 ⟨27, a, b2, c, flag, space, name, s, t, attrs⟩).2 :: L) w' := by
  have hst : A.step5 ⟨27, a, b2, c, flag, space, name, s, t, attrs⟩ = ((0, (A.adoptCall a b2).1), (A.adoptCall a b2).2) := rfl
  rw [hst]
  clear hst
  unfold OpD.cells pairV at *
  have HC := Lib.hid (AdoptD_own (n := a) (d := b2) (o.boxed (.cells #[.int .i64 27, .int .i64 a, .int .i64 b2, .int .i64 c, .bool flag, .int .i64 space, .string name, .string s, .string t, .slice aa al ac] 92)) hI (by omega))
  clear o
  go_enter Tryz.func74, Tryz.ntmps74
  go_wp2_with fail
  refine HC.out.mono ?_
  rintro e w1 ⟨rfl, o1⟩
  have HO := Lib.hid o1.unbox
  clear o1 HC
  go_wp2
  go_ret2
  exact ⟨rfl, HO.out⟩

set_option maxRecDepth 100000 in
set_option maxHeartbeats 1000000 in
theorem Do5_28 {w0 w : World} {B b : Nat} {A : Ar} {L : List Asrt} (o : Own w0 B (.arena b A :: L) w) (hI : A.Inv) (hsz : A.ns.length + 10 ≤ 100000) (a b2 c : Int) (flag : Bool) (space : Int) (name s t : ByteArray) (attrs : List AttrD) (aa : Option Addr) (al ac : Nat) (hn : name.size ≤ 1000000) :
    Calls Tryz.prog 74 #[.pointer (some ⟨b, 0, none⟩), .agg (OpD.cells ⟨28, a, b2, c, flag, space, name, s, t, attrs⟩ (.slice aa al ac)).toArray] w fun e w' =>
      e = .returned (pairV (A.step5 ⟨28, a, b2, c, flag, space, name, s, t, attrs⟩).1) ∧ Own w0 B (.arena b (A.step5 ⟨28, a, b2, c, flag, space, name, s, t, attrs⟩).2 :: L) w' := by
  have hst : A.step5 ⟨28, a, b2, c, flag, space, name, s, t, attrs⟩ = A.createElement a name := rfl
  rw [hst]
  clear hst
  unfold OpD.cells pairV at *
  have HC := Lib.hid (CreateElement_own (d := a) (name := name) (o.boxed (.cells #[.int .i64 28, .int .i64 a, .int .i64 b2, .int .i64 c, .bool flag, .int .i64 space, .string name, .string s, .string t, .slice aa al ac] 92)) hI (by omega) hn)
  clear o
  unfold pairV at HC
  go_enter Tryz.func74, Tryz.ntmps74
  go_wp2_with fail
  refine HC.out.mono ?_
  rintro e w1 ⟨rfl, o1⟩
  have HO := Lib.hid o1.unbox
  clear o1 HC
  go_wp2
  go_ret2
  exact ⟨rfl, HO.out⟩

set_option maxRecDepth 100000 in
set_option maxHeartbeats 1000000 in
theorem Do5_29 {w0 w : World} {B b : Nat} {A : Ar} {L : List Asrt} (o : Own w0 B (.arena b A :: L) w) (hI : A.Inv) (hsz : A.ns.length + 10 ≤ 100000) (a b2 c : Int) (flag : Bool) (space : Int) (name s t : ByteArray) (attrs : List AttrD) (aa : Option Addr) (al ac : Nat) (hn : name.size ≤ 1000000) :
    Calls Tryz.prog 74 #[.pointer (some ⟨b, 0, none⟩), .agg (OpD.cells ⟨29, a, b2, c, flag, space, name, s, t, attrs⟩ (.slice aa al ac)).toArray] w fun e w' =>
      e = .returned (pairV (A.step5 ⟨29, a, b2, c, flag, space, name, s, t, attrs⟩).1) ∧ Own w0 B (.arena b (A.step5 ⟨29, a, b2, c, flag, space, name, s, t, attrs⟩).2 :: L) w' := by
  have hst : A.step5 ⟨29, a, b2, c, flag, space, name, s, t, attrs⟩ = ((0, (A.setAttr a space name s).1), (A.setAttr a space name s).2) := rfl
  rw [hst]
  clear hst
  unfold OpD.cells pairV at *
  have HC := Lib.hid (SetAttributeD_own (el := a) (s := space) (name := name) (val := s) (o.boxed (.cells #[.int .i64 29, .int .i64 a, .int .i64 b2, .int .i64 c, .bool flag, .int .i64 space, .string name, .string s, .string t, .slice aa al ac] 92)) hI (by omega) hn)
  clear o
  go_enter Tryz.func74, Tryz.ntmps74
  go_wp2_with fail
  refine HC.out.mono ?_
  rintro e w1 ⟨rfl, o1⟩
  have HO := Lib.hid o1.unbox
  clear o1 HC
  go_wp2
  go_ret2
  exact ⟨rfl, HO.out⟩

set_option maxRecDepth 100000 in
set_option maxHeartbeats 1000000 in
theorem Do5_30 {w0 w : World} {B b : Nat} {A : Ar} {L : List Asrt} (o : Own w0 B (.arena b A :: L) w) (hI : A.Inv) (hsz : A.ns.length + 10 ≤ 100000) (a b2 c : Int) (flag : Bool) (space : Int) (name s t : ByteArray) (attrs : List AttrD) (aa : Option Addr) (al ac : Nat) (hn : name.size ≤ 1000000) :
    Calls Tryz.prog 74 #[.pointer (some ⟨b, 0, none⟩), .agg (OpD.cells ⟨30, a, b2, c, flag, space, name, s, t, attrs⟩ (.slice aa al ac)).toArray] w fun e w' =>
      e = .returned (pairV (A.step5 ⟨30, a, b2, c, flag, space, name, s, t, attrs⟩).1) ∧ Own w0 B (.arena b (A.step5 ⟨30, a, b2, c, flag, space, name, s, t, attrs⟩).2 :: L) w' := by
  have hst : A.step5 ⟨30, a, b2, c, flag, space, name, s, t, attrs⟩ = ((one1 (A.removeAttr a space name).1.1, (A.removeAttr a space name).1.2), (A.removeAttr a space name).2) := rfl
  rw [hst]
  clear hst
  unfold OpD.cells pairV at *
  have HC := Lib.hid (RemoveAttributeD_own (el := a) (s := space) (name := name) (o.boxed (.cells #[.int .i64 30, .int .i64 a, .int .i64 b2, .int .i64 c, .bool flag, .int .i64 space, .string name, .string s, .string t, .slice aa al ac] 92)) hI (by omega) hn)
  clear o
  go_enter Tryz.func74, Tryz.ntmps74
  go_wp2_with fail
  refine HC.out.mono ?_
  rintro e w1 ⟨rfl, o1⟩
  have HO := Lib.hid o1.unbox
  clear o1 HC
  go_wp2_with fail
  refine (one_any _ _).mono ?_
  rintro e w2 ⟨rfl, rfl⟩
  go_wp2
  go_ret2
  exact ⟨rfl, HO.out⟩

set_option maxRecDepth 100000 in
set_option maxHeartbeats 1000000 in
theorem Do5_31 {w0 w : World} {B b : Nat} {A : Ar} {L : List Asrt} (o : Own w0 B (.arena b A :: L) w) (hI : A.Inv) (hsz : 2 * A.ns.length + 10 ≤ 300000) (a b2 c : Int) (flag : Bool) (space : Int) (name s t : ByteArray) (attrs : List AttrD) (aa : Option Addr) (al ac : Nat) (hn : name.size ≤ 1000000) :
    Calls Tryz.prog 74 #[.pointer (some ⟨b, 0, none⟩), .agg (OpD.cells ⟨31, a, b2, c, flag, space, name, s, t, attrs⟩ (.slice aa al ac)).toArray] w fun e w' =>
      e = .returned (pairV (A.step5 ⟨31, a, b2, c, flag, space, name, s, t, attrs⟩).1) ∧ Own w0 B (.arena b (A.step5 ⟨31, a, b2, c, flag, space, name, s, t, attrs⟩).2 :: L) w' := by
  have hst : A.step5 ⟨31, a, b2, c, flag, space, name, s, t, attrs⟩ = A.cloneCall a flag := rfl
  rw [hst]
  clear hst
  unfold OpD.cells pairV at *
  have HC := Lib.hid (CloneD_own (h := a) (deep := flag) (o.boxed (.cells #[.int .i64 31, .int .i64 a, .int .i64 b2, .int .i64 c, .bool flag, .int .i64 space, .string name, .string s, .string t, .slice aa al ac] 92)) hI hsz)
  clear o
  unfold pairV at HC
  go_enter Tryz.func74, Tryz.ntmps74
  go_wp2_with fail
  refine HC.out.mono ?_
  rintro e w1 ⟨rfl, o1⟩
  have HO := Lib.hid o1.unbox
  clear o1 HC
  go_wp2
  go_ret2
  exact ⟨rfl, HO.out⟩

set_option maxRecDepth 100000 in
set_option maxHeartbeats 1000000 in
theorem Do5_32 {w0 w : World} {B b : Nat} {A : Ar} {L : List Asrt} (o : Own w0 B (.arena b A :: L) w) (hI : A.Inv) (hsz : 2 * A.ns.length + 10 ≤ 300000) (a b2 c : Int) (flag : Bool) (space : Int) (name s t : ByteArray) (attrs : List AttrD) (aa : Option Addr) (al ac : Nat) (hn : name.size ≤ 1000000) :
    Calls Tryz.prog 74 #[.pointer (some ⟨b, 0, none⟩), .agg (OpD.cells ⟨32, a, b2, c, flag, space, name, s, t, attrs⟩ (.slice aa al ac)).toArray] w fun e w' =>
      e = .returned (pairV (A.step5 ⟨32, a, b2, c, flag, space, name, s, t, attrs⟩).1) ∧ Own w0 B (.arena b (A.step5 ⟨32, a, b2, c, flag, space, name, s, t, attrs⟩).2 :: L) w' := by
  have hst : A.step5 ⟨32, a, b2, c, flag, space, name, s, t, attrs⟩ = A.importCall A a b2 := rfl
  rw [hst]
  clear hst
  unfold OpD.cells pairV at *
  have HC := Lib.hid (ImportD_own (bf := b) (C := A) (d := a) (h := b2) (o.boxed (.cells #[.int .i64 32, .int .i64 a, .int .i64 b2, .int .i64 c, .bool flag, .int .i64 space, .string name, .string s, .string t, .slice aa al ac] 92)) hI hI (.inl ⟨rfl, rfl⟩) (by omega))
  clear o
  unfold pairV at HC
  go_enter Tryz.func74, Tryz.ntmps74
  go_wp2_with fail
  refine HC.out.mono ?_
  rintro e w1 ⟨rfl, o1⟩
  have HO := Lib.hid o1.unbox
  clear o1 HC
  go_wp2
  go_ret2
  exact ⟨rfl, HO.out⟩

set_option maxRecDepth 100000 in
set_option maxHeartbeats 1000000 in
theorem Do5_33 {w0 w : World} {B b : Nat} {A : Ar} {L : List Asrt} (o : Own w0 B (.arena b A :: L) w) (hI : A.Inv) (hsz : A.ns.length + 10 ≤ 100000) (a b2 c : Int) (flag : Bool) (space : Int) (name s t : ByteArray) (attrs : List AttrD) (aa : Option Addr) (al ac : Nat) (hn : name.size ≤ 1000000) :
    Calls Tryz.prog 74 #[.pointer (some ⟨b, 0, none⟩), .agg (OpD.cells ⟨33, a, b2, c, flag, space, name, s, t, attrs⟩ (.slice aa al ac)).toArray] w fun e w' =>
      e = .returned (pairV (A.step5 ⟨33, a, b2, c, flag, space, name, s, t, attrs⟩).1) ∧ Own w0 B (.arena b (A.step5 ⟨33, a, b2, c, flag, space, name, s, t, attrs⟩).2 :: L) w' := by
  have hst : A.step5 ⟨33, a, b2, c, flag, space, name, s, t, attrs⟩ = ((0, (A.setText a s).1), (A.setText a s).2) := rfl
  rw [hst]
  clear hst
  unfold OpD.cells pairV at *
  have HC := Lib.hid (SetTextContentD_own (h := a) (s := s) (o.boxed (.cells #[.int .i64 33, .int .i64 a, .int .i64 b2, .int .i64 c, .bool flag, .int .i64 space, .string name, .string s, .string t, .slice aa al ac] 92)) hI (by omega))
  clear o
  go_enter Tryz.func74, Tryz.ntmps74
  go_wp2_with fail
  refine HC.out.mono ?_
  rintro e w1 ⟨rfl, o1⟩
  have HO := Lib.hid o1.unbox
  clear o1 HC
  go_wp2
  go_ret2
  exact ⟨rfl, HO.out⟩

set_option maxRecDepth 100000 in
set_option maxHeartbeats 1000000 in
theorem Do5_34 {w0 w : World} {B b : Nat} {A : Ar} {L : List Asrt} (o : Own w0 B (.arena b A :: L) w) (hI : A.Inv) (hsz : A.ns.length + 10 ≤ 100000) (a b2 c : Int) (flag : Bool) (space : Int) (name s t : ByteArray) (attrs : List AttrD) (aa : Option Addr) (al ac : Nat) (hn : name.size ≤ 1000000) (hm : ∀ y, A.has y → A.kidsTx y ≤ 9223372036854775807) :
    Calls Tryz.prog 74 #[.pointer (some ⟨b, 0, none⟩), .agg (OpD.cells ⟨34, a, b2, c, flag, space, name, s, t, attrs⟩ (.slice aa al ac)).toArray] w fun e w' =>
      e = .returned (pairV (A.step5 ⟨34, a, b2, c, flag, space, name, s, t, attrs⟩).1) ∧ Own w0 B (.arena b (A.step5 ⟨34, a, b2, c, flag, space, name, s, t, attrs⟩).2 :: L) w' := by
  have hst : A.step5 ⟨34, a, b2, c, flag, space, name, s, t, attrs⟩ = ((0, (A.normalize a).1), (A.normalize a).2) := rfl
  rw [hst]
  clear hst
  unfold OpD.cells pairV at *
  have HC := Lib.hid (NormalizeD_own (h := a) (o.boxed (.cells #[.int .i64 34, .int .i64 a, .int .i64 b2, .int .i64 c, .bool flag, .int .i64 space, .string name, .string s, .string t, .slice aa al ac] 92)) hI (by omega) hm)
  clear o
  go_enter Tryz.func74, Tryz.ntmps74
  go_wp2_with fail
  refine HC.out.mono ?_
  rintro e w1 ⟨rfl, o1⟩
  have HO := Lib.hid o1.unbox
  clear o1 HC
  go_wp2
  go_ret2
  exact ⟨rfl, HO.out⟩

set_option maxRecDepth 100000 in
set_option maxHeartbeats 1000000 in
theorem Do5_35 {w0 w : World} {B b : Nat} {A : Ar} {L : List Asrt} (o : Own w0 B (.arena b A :: L) w) (hI : A.Inv) (hsz : A.ns.length + 10 ≤ 100000) (a b2 c : Int) (flag : Bool) (space : Int) (name s t : ByteArray) (attrs : List AttrD) (aa : Option Addr) (al ac : Nat) (hn : name.size ≤ 1000000) :
    Calls Tryz.prog 74 #[.pointer (some ⟨b, 0, none⟩), .agg (OpD.cells ⟨35, a, b2, c, flag, space, name, s, t, attrs⟩ (.slice aa al ac)).toArray] w fun e w' =>
      e = .returned (pairV (A.step5 ⟨35, a, b2, c, flag, space, name, s, t, attrs⟩).1) ∧ Own w0 B (.arena b (A.step5 ⟨35, a, b2, c, flag, space, name, s, t, attrs⟩).2 :: L) w' := by
  have hst : A.step5 ⟨35, a, b2, c, flag, space, name, s, t, attrs⟩ = A.split a b2 := rfl
  rw [hst]
  clear hst
  unfold OpD.cells pairV at *
  have HC := Lib.hid (SplitD_own (h := a) (at' := b2) (o.boxed (.cells #[.int .i64 35, .int .i64 a, .int .i64 b2, .int .i64 c, .bool flag, .int .i64 space, .string name, .string s, .string t, .slice aa al ac] 92)) hI (by omega))
  clear o
  unfold pairV at HC
  go_enter Tryz.func74, Tryz.ntmps74
  go_wp2_with fail
  refine HC.out.mono ?_
  rintro e w1 ⟨rfl, o1⟩
  have HO := Lib.hid o1.unbox
  clear o1 HC
  go_wp2
  go_ret2
  exact ⟨rfl, HO.out⟩

set_option maxRecDepth 100000 in
set_option maxHeartbeats 1000000 in
theorem Do5_none {w0 w : World} {B b : Nat} {A : Ar} {L : List Asrt} (o : Own w0 B (.arena b A :: L) w) (hI : A.Inv) (hsz : A.ns.length + 10 ≤ 100000) (kind a b2 c : Int) (flag : Bool) (space : Int) (name s t : ByteArray) (attrs : List AttrD) (av : Value) (hv : RAttrs w av attrs) (hl : attrs.length ≤ 1000000) (hk : ∀ j : Int, 21 ≤ j → j ≤ 35 → kind ≠ j) :
    Calls Tryz.prog 74 #[.pointer (some ⟨b, 0, none⟩), .agg (OpD.cells ⟨kind, a, b2, c, flag, space, name, s, t, attrs⟩ av).toArray] w fun e w' =>
      e = .returned (pairV (A.step5 ⟨kind, a, b2, c, flag, space, name, s, t, attrs⟩).1) ∧ Own w0 B (.arena b (A.step5 ⟨kind, a, b2, c, flag, space, name, s, t, attrs⟩).2 :: L) w' := by
  obtain ⟨aa, ac, rfl, -⟩ := hv.form
  have hst : A.step5 ⟨kind, a, b2, c, flag, space, name, s, t, attrs⟩ = A.step ⟨kind, a, b2, c, flag, space, name, s, t, attrs⟩ := by
    unfold Ar.step5
    dsimp only

    rw [if_neg (hk 21 (by omega) (by omega))]
    rw [if_neg (hk 22 (by omega) (by omega))]
    rw [if_neg (hk 23 (by omega) (by omega))]
    rw [if_neg (hk 24 (by omega) (by omega))]
    rw [if_neg (hk 25 (by omega) (by omega))]
    rw [if_neg (hk 26 (by omega) (by omega))]
    rw [if_neg (hk 27 (by omega) (by omega))]
    rw [if_neg (hk 28 (by omega) (by omega))]
    rw [if_neg (hk 29 (by omega) (by omega))]
    rw [if_neg (hk 30 (by omega) (by omega))]
    rw [if_neg (hk 31 (by omega) (by omega))]
    rw [if_neg (hk 32 (by omega) (by omega))]
    rw [if_neg (hk 33 (by omega) (by omega))]
    rw [if_neg (hk 34 (by omega) (by omega))]
    rw [if_neg (hk 35 (by omega) (by omega))]
  rw [hst]
  clear hst
  have e21 : (kind == 21) = false := by simp [hk 21 (by omega) (by omega)]
  have e22 : (kind == 22) = false := by simp [hk 22 (by omega) (by omega)]
  have e23 : (kind == 23) = false := by simp [hk 23 (by omega) (by omega)]
  have e24 : (kind == 24) = false := by simp [hk 24 (by omega) (by omega)]
  have e25 : (kind == 25) = false := by simp [hk 25 (by omega) (by omega)]
  have e26 : (kind == 26) = false := by simp [hk 26 (by omega) (by omega)]
  have e27 : (kind == 27) = false := by simp [hk 27 (by omega) (by omega)]
  have e28 : (kind == 28) = false := by simp [hk 28 (by omega) (by omega)]
  have e29 : (kind == 29) = false := by simp [hk 29 (by omega) (by omega)]
  have e30 : (kind == 30) = false := by simp [hk 30 (by omega) (by omega)]
  have e31 : (kind == 31) = false := by simp [hk 31 (by omega) (by omega)]
  have e32 : (kind == 32) = false := by simp [hk 32 (by omega) (by omega)]
  have e33 : (kind == 33) = false := by simp [hk 33 (by omega) (by omega)]
  have e34 : (kind == 34) = false := by simp [hk 34 (by omega) (by omega)]
  have e35 : (kind == 35) = false := by simp [hk 35 (by omega) (by omega)]
  have hB := below_alloc w (.cells (OpD.cells ⟨kind, a, b2, c, flag, space, name, s, t, attrs⟩ (.slice aa attrs.length ac)).toArray 92)
  have HC := Lib.hid ((o.boxed (.cells (OpD.cells ⟨kind, a, b2, c, flag, space, name, s, t, attrs⟩ (.slice aa attrs.length ac)).toArray 92)).call (fun ρ hA => Do_any A ρ b ⟨kind, a, b2, c, flag, space, name, s, t, attrs⟩ (.slice aa attrs.length ac) _ hA hI.wf (hv.below hB) (by omega) hl))
  clear o hI hv hB hk
  unfold OpD.cells pairV at *
  go_enter Tryz.func74, Tryz.ntmps74
  go_wp2_with fail
  refine HC.out.mono ?_
  rintro e w1 ⟨rfl, o1⟩
  have HO := Lib.hid o1.unbox
  clear o1 HC
  go_wp2
  go_ret2
  exact ⟨rfl, HO.out⟩

/-- **Do.** -/
theorem Do5_own {w0 w : World} {B b : Nat} {A : Ar} {L : List Asrt} {x : OpD} {av : Value} (o : Own w0 B (.arena b A :: L) w) (hI : A.Inv) (hsz : A.ns.length + 10 ≤ 100000) (hn : x.name.size ≤ 1000000) (hv : RAttrs w av x.attrs) (hl : x.attrs.length ≤ 1000000) (hm : x.kind = 34 → ∀ y, A.has y → A.kidsTx y ≤ 9223372036854775807) :
    Calls Tryz.prog 74 #[.pointer (some ⟨b, 0, none⟩), .agg (x.cells av).toArray] w fun e w' => e = .returned (pairV (A.step5 x).1) ∧ Own w0 B (.arena b (A.step5 x).2 :: L) w' := by
  obtain ⟨kind, a, b2, c, flag, space, name, s, t, attrs⟩ := x
  dsimp only at *
  by_cases hk : ∀ j : Int, 21 ≤ j → j ≤ 35 → kind ≠ j
  · exact Do5_none o hI hsz kind a b2 c flag space name s t attrs av hv hl hk
  obtain ⟨aa, ac, rfl, -⟩ := hv.form
  by_cases e21 : kind = 21
  · subst e21; exact Do5_21 o hI hsz a b2 c flag space name s t attrs aa attrs.length ac hn
  by_cases e22 : kind = 22
  · subst e22; exact Do5_22 o hI hsz a b2 c flag space name s t attrs aa attrs.length ac hn
  by_cases e23 : kind = 23
  · subst e23; exact Do5_23 o hI hsz a b2 c flag space name s t attrs aa attrs.length ac hn
  by_cases e24 : kind = 24
  · subst e24; exact Do5_24 o hI hsz a b2 c flag space name s t attrs aa attrs.length ac hn
  by_cases e25 : kind = 25
  · subst e25; exact Do5_25 o hI hsz a b2 c flag space name s t attrs aa attrs.length ac hn
  by_cases e26 : kind = 26
  · subst e26; exact Do5_26 o hI hsz a b2 c flag space name s t attrs aa attrs.length ac hn
  by_cases e27 : kind = 27
  · subst e27; exact Do5_27 o hI hsz a b2 c flag space name s t attrs aa attrs.length ac hn
  by_cases e28 : kind = 28
  · subst e28; exact Do5_28 o hI hsz a b2 c flag space name s t attrs aa attrs.length ac hn
  by_cases e29 : kind = 29
  · subst e29; exact Do5_29 o hI hsz a b2 c flag space name s t attrs aa attrs.length ac hn
  by_cases e30 : kind = 30
  · subst e30; exact Do5_30 o hI hsz a b2 c flag space name s t attrs aa attrs.length ac hn
  by_cases e31 : kind = 31
  · subst e31; exact Do5_31 o hI (by omega) a b2 c flag space name s t attrs aa attrs.length ac hn
  by_cases e32 : kind = 32
  · subst e32; exact Do5_32 o hI (by omega) a b2 c flag space name s t attrs aa attrs.length ac hn
  by_cases e33 : kind = 33
  · subst e33; exact Do5_33 o hI hsz a b2 c flag space name s t attrs aa attrs.length ac hn
  by_cases e34 : kind = 34
  · subst e34; exact Do5_34 o hI hsz a b2 c flag space name s t attrs aa attrs.length ac hn (hm rfl)
  by_cases e35 : kind = 35
  · subst e35; exact Do5_35 o hI hsz a b2 c flag space name s t attrs aa attrs.length ac hn
  exact absurd (fun j h1 h2 e => by omega) hk

end Go.Proofs.YtpicinjcmjaogaaGreat
