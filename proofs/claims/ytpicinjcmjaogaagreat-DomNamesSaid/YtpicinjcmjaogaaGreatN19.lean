/-
  Parts: D5.
-/
import Derived.Test.YtpicinjcmjaogaaGreatN18

/- Contracts of dom: insert. -/
namespace Go.Proofs.YtpicinjcmjaogaaGreat
open Go.RowKit Go.Shelf
set_option linter.unusedVariables false

theorem adopt_call {A : Ar} {x d : Int} (hI : A.Inv) (hx : A.has x) (hd : A.has d) (hk : (A.get d).kind = 1) (hcap : A.cap d ≤ 100000) {w0 w : World} {B b : Nat} {L : List Asrt} (o : Own w0 B (.arena b A :: L) w) :
    Calls Tryz.prog 180 #[.pointer (some ⟨b, 0, none⟩), .int .i64 x, .int .i64 d] w fun e w' => e = .returned (.tuple #[]) ∧ Own w0 B (.arena b (A.adopt x d) :: L) w' :=
  adopt_own A.ns.length A x d hI hx hd hk (by
    have := walk_len (A := A.cut x) (Ar.InvX.cut hI hx) x
    rw [Ar.cut_ns] at this; exact this) hcap w0 w B b L o

theorem fold_take {β : Type} {l : List Int} {k : Nat} {x : Int} (f : β → Int → β) (a : β) (hx : l[k]? = some x) : (l.take (k + 1)).foldl f a = f ((l.take k).foldl f a) x := by
  have hk := (List.getElem?_eq_some_iff.1 hx).1
  rw [List.take_succ_eq_append_getElem hk, (List.getElem?_eq_some_iff.1 hx).2, List.foldl_append]; rfl
theorem nodesOf_len {A : Ar} {h : Int} (hI : A.Inv) (hh : A.has h) : (A.nodesOf h).length ≤ A.ns.length := by
  unfold Ar.nodesOf
  split
  · exact Ar.kids_len hI.wf hh
  · have := hh.1; have := hh.2; unfold Ar.n at this; simp; omega

set_option maxRecDepth 100000 in
set_option maxHeartbeats 2000000 in
theorem insert_own {A : Ar} {p n c : Int} (hI : A.Inv) (hp : A.has p) (hn : A.has n) (hs : A.ns.length + 1 ≤ 100000) {w0 w : World} {B b : Nat} {L : List Asrt} (o : Own w0 B (.arena b A :: L) w) :
    Calls Tryz.prog 122 #[.pointer (some ⟨b, 0, none⟩), .int .i64 p, .int .i64 n, .int .i64 c] w fun e w' => e = .returned (.tuple #[]) ∧ Own w0 B (.arena b (A.insertAt p n c) :: L) w' := by
  obtain ⟨d1, d2⟩ := hI.docK p hp
  obtain ⟨nd, hnd⟩ : ∃ nd, A.get p = nd := ⟨_, rfl⟩
  have HS := Lib.hid (hI.short (by omega))
  have HD := Lib.hid (Document_own (b := b) (A := A) o (by simp) HS.out hp hnd)
  have hle := nodesOf_len hI hn
  have hcap : A.cap nd.doc ≤ 100000 := Nat.le_trans (Ar.cap_le A nd.doc) hs
  have HST : Hid (∀ k, k ≤ (A.nodesOf n).length → ((A.nodesOf n).take k |>.foldl (putStep nd.doc p c) A).Inv ∧ ((A.nodesOf n).take k |>.foldl (putStep nd.doc p c) A).cap nd.doc = A.cap nd.doc ∧
      (∀ y, A.has y → ((A.nodesOf n).take k |>.foldl (putStep nd.doc p c) A).has y ∧ (((A.nodesOf n).take k |>.foldl (putStep nd.doc p c) A).get y).kind = (A.get y).kind)) := Lib.hid (fun k hk =>
    putSteps_facts (by rw [← hnd]; exact d1) (by rw [← hnd]; exact d2) hI (fun x hx => nodesOf_has hI hn x (List.mem_of_mem_take hx)))
  have HNH := Lib.hid (nodesOf_has hI hn)
  have HDD : Hid (A.has nd.doc ∧ (A.get nd.doc).kind = 1) := Lib.hid (by rw [← hnd]; exact ⟨d1, d2⟩)
  have HIN : Hid (A.insertAt p n c = (A.nodesOf n).foldl (putStep nd.doc p c) A) := Lib.hid (by unfold Ar.insertAt; rw [hnd])
  have HNN := Lib.hid hn
  clear o hI hp hn hnd d1 d2
  go_enter Tryz.func122, Tryz.ntmps122
  go_wp2_with fail
  refine HD.out.mono ?_
  rintro e w1 ⟨rfl, o1, -⟩
  clear HD
  have HN := Lib.hid (Nodes_dom (b := b) (A := A) o1 (by simp) HS.out HNN.out)
  clear o1
  go_wp2_with fail
  refine HN.out.mono ?_
  rintro e w2 ⟨va, vc, rfl, o2⟩
  clear HN
  generalize A.nodesOf n = l at *
  have HO2 := Lib.hid o2.swap
  clear o2
  go_wp2
  go_loopw [18] (fun i wr => ∃ k : Nat, k ≤ l.length ∧ i = .int .i64 k ∧ Hid (Own w0 B (.arena b ((l.take k).foldl (putStep nd.doc p c) A) :: .ints (.slice va l.length vc) l :: L) wr)) (fun i _ => l.length - (intOf i).toNat)
  case atStart => exact ⟨0, Nat.zero_le _, rfl, HO2⟩
  case round =>
    obtain ⟨k, hk, rfl, hT⟩ := hrel
    by_cases hlt : k < l.length
    · obtain ⟨x, hx⟩ : ∃ x, l[k]? = some x := ⟨_, List.getElem?_eq_getElem hlt⟩
      have hri : RInts wr (.slice va l.length vc) l := hT.out.ints (by simp)
      obtain ⟨b1, o1, rfl, -, hcs⟩ := hri.cells (by omega)
      have c1 := hcs k x hx
      obtain ⟨f1, f2, f3⟩ := HST.out k (by omega)
      have HX := Lib.hid (fold_take (putStep nd.doc p c) A hx)
      obtain ⟨x1, x2⟩ := f3 x (HNH.out x (List.mem_of_getElem? hx))
      obtain ⟨y1, y2⟩ := f3 nd.doc HDD.out.1
      generalize (l.take k).foldl (putStep nd.doc p c) A = A1 at *
      have HC := Lib.hid (adopt_call f1 x1 y1 (y2.trans HDD.out.2) (by rw [f2]; exact hcap) hT.out)
      obtain ⟨g1, g2, g3⟩ := adopt_facts f1 x1 y1 (y2.trans HDD.out.2)
      have hsz : (A1.adopt x nd.doc).ns.length ≤ 1000000 := by have := Ar.cap_ge (A1.adopt x nd.doc) nd.doc; omega
      have HP := Lib.hid (fun W (q : Own w0 B (.arena b (A1.adopt x nd.doc) :: .ints (.slice (some ⟨b1, o1, none⟩) l.length vc) l :: L) W) => q.call (fun ρ hA => Put_any _ ρ b p x c W hA g1.wf hsz))
      have hps : Hid (((A1.adopt x nd.doc).put p x c).2 = putStep nd.doc p c A1 x) := Lib.hid rfl
      clear hri hcs hx f1 f2 f3 x1 x2 y1 y2 g1 g2 g3 hT hsz
      go_wp2_with fail
      refine HC.out.mono ?_
      rintro e w3 ⟨rfl, o3⟩
      have HP3 := Lib.hid (HP.out _ o3)
      clear o3 HC HP
      go_wp2_with fail
      refine HP3.out.mono ?_
      rintro e w4 ⟨rfl, o4⟩
      rw [hps.out, ← HX.out] at o4
      have HO4 := Lib.hid o4
      clear o4 HP3 c1
      go_wp2
      go_roundw
      case rel => exact ⟨k + 1, hlt, by go_num, HO4⟩
      case measure => simp [intOf]; omega
    · have hkl : l.take k = l := List.take_of_length_le (by omega)
      have o4 := hT.out
      rw [hkl, ← HIN.out] at o4
      have HO4 := Lib.hid o4
      clear o4 hT hkl
      go_wp2
      go_end0
      exact ⟨rfl, HO4.out.swap.drop⟩

end Go.Proofs.YtpicinjcmjaogaaGreat
