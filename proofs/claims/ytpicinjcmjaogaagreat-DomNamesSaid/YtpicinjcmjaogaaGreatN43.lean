/-
  Parts: D24.
-/
import Derived.Test.YtpicinjcmjaogaaGreatN35

/- The chapter's first examples: known. (Printed by gend24.py.) -/
namespace Go.Proofs.YtpicinjcmjaogaaGreat
open Go.RowKit Go.Shelf
set_option linter.unusedVariables false

attribute [local go_sem] Oper.semAt_some

def dk0 : Ar := Ar.new
def dk1 : Ar := dk0.document false
def dk2 : Ar := (dk1.element 1 1 ⟨#[104, 116, 109, 108]⟩ []).2
def dk3 : Ar := (dk2.element 1 1 ⟨#[112]⟩ []).2
def dk4 : Ar := (dk3.make 1 (textNd ⟨#[97, 98]⟩)).2
def dk5 : Ar := (dk4.make 1 (docTypeNd ⟨#[104, 116, 109, 108]⟩ ⟨#[]⟩ ⟨#[]⟩)).2
def dk6 : Ar := (dk5.make 1 fragNd).2
def dk7 : Ar := (dk6.insertCall 6 3 0).2
def dk8 : Ar := (dk7.insertCall 6 4 0).2
def dk9 : Ar := (dk8.insertCall 1 2 0).2
def dk10 : Ar := (dk9.insertCall 1 3 0).2
def dk11 : Ar := (dk10.insertCall 1 4 0).2
def dk12 : Ar := (dk11.insertCall 1 5 0).2
def dk13 : Ar := (dk12.insertCall 1 5 2).2
def dk14 : Ar := (dk13.insertCall 2 6 0).2
def dk15 : Ar := (dk14.split 4 1).2
def dk16 : Ar := (dk15.normalize 2).2
theorem dk_i6 : (dk6.insertCall 6 3 0).1 = 0 := by decide +kernel
theorem dk_i7 : (dk7.insertCall 6 4 0).1 = 0 := by decide +kernel
theorem dk_i8 : (dk8.insertCall 1 2 0).1 = 0 := by decide +kernel
theorem dk_i9 : (dk9.insertCall 1 3 0).1 = 4 := by decide +kernel
theorem dk_i10 : (dk10.insertCall 1 4 0).1 = 4 := by decide +kernel
theorem dk_i11 : (dk11.insertCall 1 5 0).1 = 4 := by decide +kernel
theorem dk_i12 : (dk12.insertCall 1 5 2).1 = 0 := by decide +kernel
theorem dk_i13 : (dk13.insertCall 2 6 0).1 = 0 := by decide +kernel
theorem dk_k14 : dk14.kidsOf 2 = [3, 4] := by decide +kernel
theorem dk_f14 : dk14.kidsOf 6 = [] := by decide +kernel
theorem dk_s14 : (dk14.split 4 1).1 = (7, 0) := by decide +kernel
theorem dk_k15 : dk15.kidsOf 2 = [3, 4, 7] := by decide +kernel
theorem dk_t15 : dk15.textContent 2 = (⟨#[97, 98]⟩, 0) := by decide +kernel
theorem dk_n15 : (dk15.normalize 2).1 = 0 := by decide +kernel
theorem dk_k16 : dk16.kidsOf 2 = [3, 4] := by decide +kernel
theorem dk_m15 : dk15.mass ≤ 9223372036854775807 := by decide +kernel
theorem dk_o15 : (dk15.textOf (dk15.below 2)).length ≤ 140737488355328 := by decide +kernel
theorem step_ok {A : Ar} {t : Nat} (h : A.Inv ∧ A.Thin t) (x : OpD) (hx : x.attrs.length ≤ 20) (h1 : 20 ≤ t) (h2 : t ≤ 900) : (A.step5 x).2.Inv ∧ (A.step5 x).2.Thin (t + 1) :=
  ⟨(step5_facts h.1 (h.2.mono h2) x hx).1, thin_step5 h.2 x (Nat.le_trans hx h1)⟩
theorem ins_ok {A : Ar} {t : Nat} (h : A.Inv ∧ A.Thin t) (a b c : Int) (h1 : 20 ≤ t) (h2 : t ≤ 900) : (A.insertCall a b c).2.Inv ∧ (A.insertCall a b c).2.Thin (t + 1) := step_ok h ⟨21, a, b, c, false, 0, ByteArray.empty, ByteArray.empty, ByteArray.empty, []⟩ (Nat.zero_le _) h1 h2
theorem split_ok {A : Ar} {t : Nat} (h : A.Inv ∧ A.Thin t) (a b : Int) (h1 : 20 ≤ t) (h2 : t ≤ 900) : (A.split a b).2.Inv ∧ (A.split a b).2.Thin (t + 1) := step_ok h ⟨35, a, b, 0, false, 0, ByteArray.empty, ByteArray.empty, ByteArray.empty, []⟩ (Nat.zero_le _) h1 h2
theorem norm_ok {A : Ar} {t : Nat} (h : A.Inv ∧ A.Thin t) (a : Int) (h1 : 20 ≤ t) (h2 : t ≤ 900) : (A.normalize a).2.Inv ∧ (A.normalize a).2.Thin (t + 1) := step_ok h ⟨34, a, 0, 0, false, 0, ByteArray.empty, ByteArray.empty, ByteArray.empty, []⟩ (Nat.zero_le _) h1 h2
theorem Kids_ownE {w0 w : World} {B b : Nat} {A : Ar} {l : List Asrt} {h : Int} (o : Own w0 B l w) (hm : Asrt.arena b A ∈ l) (hS : A.Short) {y : List Int} (hy : A.kidsOf h = y) :
    Calls Tryz.prog 33 #[.pointer (some ⟨b, 0, none⟩), .int .i64 h] w fun e w' => ∃ a c, e = .returned (.slice a y.length c) ∧ Own w0 B (.ints (.slice a y.length c) y :: l) w' := by
  subst hy; exact Kids_own o hm hS
theorem dk_inv0 : dk0.Inv ∧ dk0.Thin 20 := ⟨inv_new, thin_new _⟩
theorem dk_inv1 : dk1.Inv ∧ dk1.Thin 21 := step_ok dk_inv0 ⟨1, 0, 0, 0, false, 0, ByteArray.empty, ByteArray.empty, ByteArray.empty, []⟩ (by decide) (by decide) (by decide)
theorem dk_inv2 : dk2.Inv ∧ dk2.Thin 22 := step_ok dk_inv1 ⟨3, 1, 0, 0, false, 1, ⟨#[104, 116, 109, 108]⟩, ByteArray.empty, ByteArray.empty, []⟩ (by decide) (by decide) (by decide)
theorem dk_inv3 : dk3.Inv ∧ dk3.Thin 23 := step_ok dk_inv2 ⟨3, 1, 0, 0, false, 1, ⟨#[112]⟩, ByteArray.empty, ByteArray.empty, []⟩ (by decide) (by decide) (by decide)
theorem dk_inv4 : dk4.Inv ∧ dk4.Thin 24 := step_ok dk_inv3 ⟨4, 1, 0, 0, false, 0, ByteArray.empty, ⟨#[97, 98]⟩, ByteArray.empty, []⟩ (by decide) (by decide) (by decide)
theorem dk_inv5 : dk5.Inv ∧ dk5.Thin 25 := step_ok dk_inv4 ⟨2, 1, 0, 0, false, 0, ⟨#[104, 116, 109, 108]⟩, ⟨#[]⟩, ⟨#[]⟩, []⟩ (by decide) (by decide) (by decide)
theorem dk_inv6 : dk6.Inv ∧ dk6.Thin 26 := step_ok dk_inv5 ⟨6, 1, 0, 0, false, 0, ByteArray.empty, ByteArray.empty, ByteArray.empty, []⟩ (by decide) (by decide) (by decide)
theorem dk_inv7 : dk7.Inv ∧ dk7.Thin 27 := ins_ok dk_inv6 6 3 0 (by decide) (by decide)
theorem dk_inv8 : dk8.Inv ∧ dk8.Thin 28 := ins_ok dk_inv7 6 4 0 (by decide) (by decide)
theorem dk_inv9 : dk9.Inv ∧ dk9.Thin 29 := ins_ok dk_inv8 1 2 0 (by decide) (by decide)
theorem dk_inv10 : dk10.Inv ∧ dk10.Thin 30 := ins_ok dk_inv9 1 3 0 (by decide) (by decide)
theorem dk_inv11 : dk11.Inv ∧ dk11.Thin 31 := ins_ok dk_inv10 1 4 0 (by decide) (by decide)
theorem dk_inv12 : dk12.Inv ∧ dk12.Thin 32 := ins_ok dk_inv11 1 5 0 (by decide) (by decide)
theorem dk_inv13 : dk13.Inv ∧ dk13.Thin 33 := ins_ok dk_inv12 1 5 2 (by decide) (by decide)
theorem dk_inv14 : dk14.Inv ∧ dk14.Thin 34 := ins_ok dk_inv13 2 6 0 (by decide) (by decide)
theorem dk_inv15 : dk15.Inv ∧ dk15.Thin 35 := split_ok dk_inv14 4 1 (by decide) (by decide)
theorem dk_inv16 : dk16.Inv ∧ dk16.Thin 36 := norm_ok dk_inv15 2 (by decide) (by decide)
theorem dk_len0 : dk0.ns.length ≤ 20 := by decide +kernel
theorem dk_len1 : dk1.ns.length ≤ 20 := by decide +kernel
theorem dk_len2 : dk2.ns.length ≤ 20 := by decide +kernel
theorem dk_len3 : dk3.ns.length ≤ 20 := by decide +kernel
theorem dk_len4 : dk4.ns.length ≤ 20 := by decide +kernel
theorem dk_len5 : dk5.ns.length ≤ 20 := by decide +kernel
theorem dk_len6 : dk6.ns.length ≤ 20 := by decide +kernel
theorem dk_len7 : dk7.ns.length ≤ 20 := by decide +kernel
theorem dk_len8 : dk8.ns.length ≤ 20 := by decide +kernel
theorem dk_len9 : dk9.ns.length ≤ 20 := by decide +kernel
theorem dk_len10 : dk10.ns.length ≤ 20 := by decide +kernel
theorem dk_len11 : dk11.ns.length ≤ 20 := by decide +kernel
theorem dk_len12 : dk12.ns.length ≤ 20 := by decide +kernel
theorem dk_len13 : dk13.ns.length ≤ 20 := by decide +kernel
theorem dk_len14 : dk14.ns.length ≤ 20 := by decide +kernel
theorem dk_len15 : dk15.ns.length ≤ 20 := by decide +kernel
theorem dk_len16 : dk16.ns.length ≤ 20 := by decide +kernel
theorem dk_sh14 : dk14.Short := dk_inv14.1.short (Nat.le_trans dk_len14 (by decide))
theorem dk_sh15 : dk15.Short := dk_inv15.1.short (Nat.le_trans dk_len15 (by decide))
theorem dk_sh16 : dk16.Short := dk_inv16.1.short (Nat.le_trans dk_len16 (by decide))

set_option maxRecDepth 100000 in
set_option maxHeartbeats 4000000 in
theorem known5_any (w : World) : Calls Tryz.prog 19 #[] w fun e w' => e = .returned (.bool true) ∧ Below w.heap.size w w' := by
  have HN := Lib.hid (New_any w)
  go_enter Tryz.func19, Tryz.ntmps19
  go_wp2_with fail
  refine HN.out.mono ?_
  rintro e w0 ⟨rfl, hw1⟩
  have o := (Own.start w).newArena
  rw [← hw1] at o
  clear hw1 HN
  have o : Own w w.heap.size [.arena w.heap.size dk0] w0 := o
  obtain ⟨g, hg⟩ : ∃ g, w.heap.size = g := ⟨_, rfl⟩
  rw [show (Asrt.arena w.heap.size dk0) = Asrt.arena g dk0 by rw [hg]] at o
  rw [show (Value.pointer (some (⟨w.heap.size, 0, none⟩ : Addr))) = Value.pointer (some ⟨g, 0, none⟩) by rw [hg]]
  clear hg
  have HC := Lib.hid (o.call (fun ρ hA => Document_any dk0 ρ g false _ hA (Nat.le_trans dk_len0 (by decide))))
  clear o
  go_wp2_with fail
  refine HC.out.mono ?_
  rintro e w1 ⟨rfl, o1⟩
  clear HC
  have o : Own w w.heap.size [.arena g dk1] w1 := o1
  clear o1
  generalize w1 = w0 at *

  have HC := Lib.hid (o.call (fun ρ hA => Element_any dk1 ρ g 1 1 ⟨#[104, 116, 109, 108]⟩ (.slice none 0 0) [] _ hA (atts_reads (b := 0) (l := []) (World.ownsRow_nil _ 0 132 3)) (Nat.le_trans (Nat.add_le_add_right dk_len1 _) (by decide)) (by decide)))
  clear o
  go_wp2_with fail
  refine HC.out.mono ?_
  rintro e w1 ⟨rfl, o1⟩
  clear HC
  have o : Own w w.heap.size [.arena g dk2] w1 := o1
  clear o1
  generalize w1 = w0 at *

  have HC := Lib.hid (o.call (fun ρ hA => Element_any dk2 ρ g 1 1 ⟨#[112]⟩ (.slice none 0 0) [] _ hA (atts_reads (b := 0) (l := []) (World.ownsRow_nil _ 0 132 3)) (Nat.le_trans (Nat.add_le_add_right dk_len2 _) (by decide)) (by decide)))
  clear o
  go_wp2_with fail
  refine HC.out.mono ?_
  rintro e w1 ⟨rfl, o1⟩
  clear HC
  have o : Own w w.heap.size [.arena g dk3] w1 := o1
  clear o1
  generalize w1 = w0 at *

  have HC := Lib.hid (o.call (fun ρ hA => Text_any dk3 ρ g 1 ⟨#[97, 98]⟩ _ hA (Nat.le_trans dk_len3 (by decide))))
  clear o
  go_wp2_with fail
  refine HC.out.mono ?_
  rintro e w1 ⟨rfl, o1⟩
  clear HC
  have o : Own w w.heap.size [.arena g dk4] w1 := o1
  clear o1
  generalize w1 = w0 at *

  have HC := Lib.hid (o.call (fun ρ hA => Doctype_any dk4 ρ g 1 ⟨#[104, 116, 109, 108]⟩ ⟨#[]⟩ ⟨#[]⟩ _ hA (Nat.le_trans dk_len4 (by decide))))
  clear o
  go_wp2_with fail
  refine HC.out.mono ?_
  rintro e w1 ⟨rfl, o1⟩
  clear HC
  have o : Own w w.heap.size [.arena g dk5] w1 := o1
  clear o1
  generalize w1 = w0 at *

  have HC := Lib.hid (o.call (fun ρ hA => Fragment_any dk5 ρ g 1 _ hA (Nat.le_trans dk_len5 (by decide))))
  clear o
  go_wp2_with fail
  refine HC.out.mono ?_
  rintro e w1 ⟨rfl, o1⟩
  clear HC
  have o : Own w w.heap.size [.arena g dk6] w1 := o1
  clear o1
  generalize w1 = w0 at *

  have HC := Lib.hid (AppendD_own (p := 6) (n := 3) o dk_inv6.1 (Nat.le_trans (Nat.add_le_add_right dk_len6 _) (by decide)))
  rw [dk_i6] at HC
  clear o
  go_wp2_with fail
  refine HC.out.mono ?_
  rintro e w1 ⟨rfl, o1⟩
  clear HC
  have o : Own w w.heap.size [.arena g dk7] w1 := o1
  clear o1
  generalize w1 = w0 at *

  have HC := Lib.hid (AppendD_own (p := 6) (n := 4) o dk_inv7.1 (Nat.le_trans (Nat.add_le_add_right dk_len7 _) (by decide)))
  rw [dk_i7] at HC
  clear o
  go_wp2_with fail
  refine HC.out.mono ?_
  rintro e w1 ⟨rfl, o1⟩
  clear HC
  have o : Own w w.heap.size [.arena g dk8] w1 := o1
  clear o1
  generalize w1 = w0 at *

  have HC := Lib.hid (AppendD_own (p := 1) (n := 2) o dk_inv8.1 (Nat.le_trans (Nat.add_le_add_right dk_len8 _) (by decide)))
  rw [dk_i8] at HC
  clear o
  go_wp2_with fail
  refine HC.out.mono ?_
  rintro e w1 ⟨rfl, o1⟩
  clear HC
  have o : Own w w.heap.size [.arena g dk9] w1 := o1
  clear o1
  generalize w1 = w0 at *

  have HC := Lib.hid (AppendD_own (p := 1) (n := 3) o dk_inv9.1 (Nat.le_trans (Nat.add_le_add_right dk_len9 _) (by decide)))
  rw [dk_i9] at HC
  clear o
  go_wp2_with fail
  refine HC.out.mono ?_
  rintro e w1 ⟨rfl, o1⟩
  clear HC
  have o : Own w w.heap.size [.arena g dk10] w1 := o1
  clear o1
  generalize w1 = w0 at *

  have HC := Lib.hid (AppendD_own (p := 1) (n := 4) o dk_inv10.1 (Nat.le_trans (Nat.add_le_add_right dk_len10 _) (by decide)))
  rw [dk_i10] at HC
  clear o
  go_wp2_with fail
  refine HC.out.mono ?_
  rintro e w1 ⟨rfl, o1⟩
  clear HC
  have o : Own w w.heap.size [.arena g dk11] w1 := o1
  clear o1
  generalize w1 = w0 at *

  have HC := Lib.hid (AppendD_own (p := 1) (n := 5) o dk_inv11.1 (Nat.le_trans (Nat.add_le_add_right dk_len11 _) (by decide)))
  rw [dk_i11] at HC
  clear o
  go_wp2_with fail
  refine HC.out.mono ?_
  rintro e w1 ⟨rfl, o1⟩
  clear HC
  have o : Own w w.heap.size [.arena g dk12] w1 := o1
  clear o1
  generalize w1 = w0 at *

  have HC := Lib.hid (InsertD_own (p := 1) (n := 5) (c := 2) o dk_inv12.1 (Nat.le_trans (Nat.add_le_add_right dk_len12 _) (by decide)))
  rw [dk_i12] at HC
  clear o
  go_wp2_with fail
  refine HC.out.mono ?_
  rintro e w1 ⟨rfl, o1⟩
  clear HC
  have o : Own w w.heap.size [.arena g dk13] w1 := o1
  clear o1
  generalize w1 = w0 at *

  have HC := Lib.hid (AppendD_own (p := 2) (n := 6) o dk_inv13.1 (Nat.le_trans (Nat.add_le_add_right dk_len13 _) (by decide)))
  rw [dk_i13] at HC
  clear o
  go_wp2_with fail
  refine HC.out.mono ?_
  rintro e w1 ⟨rfl, o1⟩
  clear HC
  have o : Own w w.heap.size [.arena g dk14] w1 := o1
  clear o1
  generalize w1 = w0 at *

  have HC := Lib.hid (Kids_ownE (b := g) (A := dk14) (h := 2) o (by simp) dk_sh14 dk_k14)
  clear o
  go_wp2_with fail
  refine HC.out.mono ?_
  rintro e w1 ⟨ka, kc, rfl, o1⟩
  clear HC
  simp only [List.length_cons, List.length_nil, Nat.zero_add, Nat.reduceAdd] at o1 ⊢
  have o2 := o1.alloc (.cells #[.int .i64 3, .int .i64 4] 3)
  have HC := Lib.hid (SameInts_any (.slice ka 2 kc) (.slice (some ⟨w1.heap.size, 0, none⟩) 2 2) [3, 4] [3, 4] _ (o2.ints (by simp)) (RInts_newL w1 [3, 4] 3 (by decide)))
  rw [show decide (([3, 4] : List Int) = [3, 4]) = true from by decide] at HC
  have HO := Lib.hid o2
  clear o1 o2
  go_wp2_with fail
  refine HC.out.mono ?_
  rintro e w2 ⟨rfl, hB⟩
  clear HC
  have o : Own w w.heap.size [.arena g dk14] w2 := (HO.out.read hB).drop.drop
  clear HO hB
  generalize w2 = w0 at *

  have HC := Lib.hid (Kids_ownE (b := g) (A := dk14) (h := 6) o (by simp) dk_sh14 dk_f14)
  clear o
  go_wp2_with fail
  refine HC.out.mono ?_
  rintro e w1 ⟨ka, kc, rfl, o1⟩
  clear HC
  simp only [List.length_nil] at o1 ⊢
  have o : Own w w.heap.size [.arena g dk14] w1 := o1.drop
  clear o1
  generalize w1 = w0 at *

  have HC := Lib.hid (SplitD_own (h := 4) (at' := 1) o dk_inv14.1 (Nat.le_trans (Nat.add_le_add_right dk_len14 _) (by decide)))
  rw [dk_s14, show pairV (7, 0) = .tuple #[.int .i64 7, .int .i64 0] from rfl] at HC
  clear o
  go_wp2_with fail
  refine HC.out.mono ?_
  rintro e w1 ⟨rfl, o1⟩
  clear HC
  have o : Own w w.heap.size [.arena g dk15] w1 := o1
  clear o1
  generalize w1 = w0 at *

  have HC := Lib.hid (TextContent_own (h := 2) o dk_inv15.1 (Nat.le_trans dk_len15 (by decide)) dk_o15)
  rw [dk_t15] at HC
  clear o
  go_wp2_with fail
  refine HC.out.mono ?_
  rintro e w1 ⟨rfl, o1⟩
  clear HC
  have o : Own w w.heap.size [.arena g dk15] w1 := o1
  clear o1
  generalize w1 = w0 at *

  have HC := Lib.hid (Kids_ownE (b := g) (A := dk15) (h := 2) o (by simp) dk_sh15 dk_k15)
  clear o
  go_wp2_with fail
  refine HC.out.mono ?_
  rintro e w1 ⟨ka, kc, rfl, o1⟩
  clear HC
  simp only [List.length_cons, List.length_nil, Nat.zero_add, Nat.reduceAdd] at o1 ⊢
  have o2 := o1.alloc (.cells #[.int .i64 3, .int .i64 4, .int .i64 7] 3)
  have HC := Lib.hid (SameInts_any (.slice ka 3 kc) (.slice (some ⟨w1.heap.size, 0, none⟩) 3 3) [3, 4, 7] [3, 4, 7] _ (o2.ints (by simp)) (RInts_newL w1 [3, 4, 7] 3 (by decide)))
  rw [show decide (([3, 4, 7] : List Int) = [3, 4, 7]) = true from by decide] at HC
  have HO := Lib.hid o2
  clear o1 o2
  go_wp2_with fail
  refine HC.out.mono ?_
  rintro e w2 ⟨rfl, hB⟩
  clear HC
  have o : Own w w.heap.size [.arena g dk15] w2 := (HO.out.read hB).drop.drop
  clear HO hB
  generalize w2 = w0 at *

  have HC := Lib.hid (NormalizeD_own (h := 2) o dk_inv15.1 (Nat.le_trans dk_len15 (by decide)) (fun y hy => Nat.le_trans (kidsTx_le dk_inv15.1 hy) dk_m15))
  rw [dk_n15] at HC
  clear o
  go_wp2_with fail
  refine HC.out.mono ?_
  rintro e w1 ⟨rfl, o1⟩
  clear HC
  have o : Own w w.heap.size [.arena g dk16] w1 := o1
  clear o1
  generalize w1 = w0 at *

  have HC := Lib.hid (Kids_ownE (b := g) (A := dk16) (h := 2) o (by simp) dk_sh16 dk_k16)
  clear o
  go_wp2_with fail
  refine HC.out.mono ?_
  rintro e w1 ⟨ka, kc, rfl, o1⟩
  clear HC
  simp only [List.length_cons, List.length_nil, Nat.zero_add, Nat.reduceAdd] at o1 ⊢
  have o2 := o1.alloc (.cells #[.int .i64 3, .int .i64 4] 3)
  have HC := Lib.hid (SameInts_any (.slice ka 2 kc) (.slice (some ⟨w1.heap.size, 0, none⟩) 2 2) [3, 4] [3, 4] _ (o2.ints (by simp)) (RInts_newL w1 [3, 4] 3 (by decide)))
  rw [show decide (([3, 4] : List Int) = [3, 4]) = true from by decide] at HC
  have HO := Lib.hid o2
  clear o1 o2
  go_wp2_with fail
  refine HC.out.mono ?_
  rintro e w2 ⟨rfl, hB⟩
  clear HC
  have o : Own w w.heap.size [.arena g dk16] w2 := (HO.out.read hB).drop.drop
  clear HO hB
  generalize w2 = w0 at *

  have HO := Lib.hid o
  clear o
  go_wp2
  go_ret
  exact ⟨rfl, HO.out.low⟩

end Go.Proofs.YtpicinjcmjaogaaGreat
