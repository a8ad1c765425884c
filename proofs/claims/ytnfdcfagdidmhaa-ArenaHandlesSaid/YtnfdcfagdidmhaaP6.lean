/-
  Contracts of the program's arena: the calls that create nodes other than elements; the calls that set a field.
-/
import Derived.Test.YtnfdcfagdidmhaaP5
namespace Go.Proofs.Ytnfdcfagdidmhaa
open Go.RowKit

theorem newNd_bound {A : Ar} (n : Nd) : (A.add n).has (A.n + 1) := by simp [Ar.has, Ar.n, Ar.add]; omega
theorem add_get {A : Ar} (n : Nd) : (A.add n).get (A.n + 1) = n := by simp [Ar.get, Ar.add, Ar.n]

theorem add_mod {A : Ar} (n : Nd) (f : Nd → Nd) : (A.add n).mod (A.n + 1) f = A.add (f n) := by
  have h : (A.n + 1).toNat - 1 = A.ns.length := by unfold Ar.n; omega
  simp only [Ar.mod, Ar.add, h]
  congr 1
  apply List.ext_getElem?
  intro i
  rw [List.getElem?_modify, List.getElem?_append, List.getElem?_append]
  by_cases hi : i < A.ns.length
  · have hne : A.ns.length ≠ i := by omega
    rw [if_pos hi, if_pos hi]; simp [hne]
  · rw [if_neg hi, if_neg hi]
    by_cases hi2 : i = A.ns.length
    · subst hi2; simp
    · have : i - A.ns.length ≠ 0 := by omega
      rw [List.getElem?_singleton, List.getElem?_singleton]; simp [this]
theorem hav_nil (w : World) (ρ : Nat → Nat) (r : Nat) : ROwn w ρ r 55 3 (.slice none (List.length (α := AttrD) []) 0) (List.length (α := AttrD) []) (([] : List AttrD).flatMap attrCells) := ⟨World.ownsRow_nil _ _ _ _, fun g hg => by simp [Value.ownBlock] at hg⟩

set_option maxRecDepth 100000 in
set_option maxHeartbeats 400000 in
theorem Document_any (A : Ar) (ρ : Nat → Nat) (b : Nat) (q : Bool) (w : World) (hA : AMem w ρ b A) (hsmall : A.ns.length ≤ 1000000) :
    Calls Try.prog 64 #[.pointer (some ⟨b, 0, none⟩), .bool q] w (AddR (A.document q) ρ b w (.int .i64 (A.n + 1))) := by
  have hc := add_any A ρ b { zeroNd with kind := 1, quirks := q } none 0 w hA hsmall rfl (hav_nil _ _ _)
  have HC := Lib.hid hc
  clear hc
  go_enter Try.func64, Try.ntmps64
  go_wp2_with fail
  refine HC.out.mono ?_
  rintro e w1 ⟨rfl, ρ', hA1, hT⟩
  obtain ⟨a1, c1, mv1, h01, -, hf1, hlt1, hm1, hN1⟩ := hA1.head
  obtain ⟨nb, rfl, hr1, hnb, hfn, hNx⟩ := hN1 (by simp [Ar.add])
  obtain ⟨kv, av, F, -, -⟩ := hNx _ (newNd_bound _)
  have hlen : ((A.add { zeroNd with kind := 1, quirks := q }).ns.length : Int) = A.n + 1 := by simp [Ar.add, Ar.n]
  have hp : 1 ≤ A.n + 1 := by unfold Ar.n; omega
  have HL := Lib.hid hlen
  clear hlen
  go_wp2_with fail
  refine (at_any b nb _ c1 (A.n + 1) _ h01 hp (by rw [HL.out]; exact Int.le_refl _) hm1).mono ?_
  rintro e w2 ⟨rfl, rfl⟩
  have c3 := F.c3
  have f3 := hfn (((A.n + 1).toNat - 1) * 13 + 3)
  generalize ho : ((A.n + 1).toNat - 1) * 13 = o at *
  have HO := Lib.hid ho
  clear ho
  go_wp2
  go_ret
  refine ⟨rfl, ρ', ?_, hT.trans ⟨(Upd.refl _ _).setCell (.inr (by dsimp only; omega)) _, fun _ _ => rfl⟩⟩
  have := hA1.store (x := A.n + 1) (f := fun n => { n with doc := A.n + 1 }) (j := 3) (v := .int .i64 (A.n + 1)) (newNd_bound _) h01 (Upd.refl _ _) (fun _ _ => rfl) hA1.1 (by omega)
    (fun kv av hk ha _ _ => ⟨kv, av, rfl, hk, ha⟩)
  rw [HO.out] at this
  rw [add_mod] at this
  exact this

theorem ret2_int {a b c d : Int} (h : a = c) (h' : b = d) : Ending.returned (.tuple #[.int .i64 a, .int .i64 b]) = .returned (.tuple #[.int .i64 c, .int .i64 d]) := by rw [h, h']

/-- The result of a call that hands back a handle and an error. -/
def pairV (r : Int × Int) : Value := .tuple #[.int .i64 r.1, .int .i64 r.2]

set_option maxRecDepth 100000 in
set_option maxHeartbeats 400000 in
theorem create_any (A : Ar) (ρ : Nat → Nat) (b : Nat) (d : Int) (n : Nd) (w : World) (hA : AMem w ρ b A) (hsmall : A.ns.length ≤ 1000000) (hk : n.kids = []) (ha : n.attrs = []) :
    Calls Try.prog 124 #[.pointer (some ⟨b, 0, none⟩), .int .i64 d, .agg (n.cells (.slice none 0 0) (.slice none 0 0)).toArray] w (AddR (A.make d n).2 ρ b w (pairV (A.make d n).1)) := by
  obtain ⟨nkind, nparent, nkids, ndoc, nspace, nname, nattrs, ndata, npub, nsys, nquirks, ncontents, nhost⟩ := n
  dsimp only at hk ha
  subst hk
  subst ha
  generalize hnn : (⟨nkind, nparent, [], ndoc, nspace, nname, [], ndata, npub, nsys, nquirks, ncontents, nhost⟩ : Nd) = n
  have hfin : A.make d n = if A.ofDoc d ≠ 0 then ((0, A.ofDoc d), A) else ((A.n + 1, 0), A.add { n with doc := d }) := rfl
  have HF := Lib.hid hfin
  clear hfin
  have hd := document_any A ρ b d (w.alloc (.cells (n.cells (.slice none 0 0) (.slice none 0 0)).toArray 36)) (hA.below (below_alloc _ _))
  have HD := Lib.hid hd
  clear hd
  have hbox : ∀ j v, (n.cells (.slice none 0 0) (.slice none 0 0))[j]? = some v → (w.alloc (.cells (n.cells (.slice none 0 0) (.slice none 0 0)).toArray 36)).cell? ⟨w.heap.size, j, none⟩ = some v := fun j v hv => cell_new' rfl (by simpa using hv)
  have b0 := hbox 0 _ rfl; have b1 := hbox 1 _ rfl; have b2 := hbox 2 _ rfl; have b3 := hbox 3 _ rfl; have b4 := hbox 4 _ rfl; have b5 := hbox 5 _ rfl; have b6 := hbox 6 _ rfl
  have b7 := hbox 7 _ rfl; have b8 := hbox 8 _ rfl; have b9 := hbox 9 _ rfl; have b10 := hbox 10 _ rfl; have b11 := hbox 11 _ rfl; have b12 := hbox 12 _ rfl
  have bf : ∀ j, (w.alloc (.cells (n.cells (.slice none 0 0) (.slice none 0 0)).toArray 36)).frozen? ⟨w.heap.size, j, none⟩ = false := fun j => frozen_of_row _ _ j _ _ (heap_alloc_new w _)
  have bf3 := bf 3
  clear hbox bf
  have hA0 := hA.below (below_alloc w (.cells (n.cells (.slice none 0 0) (.slice none 0 0)).toArray 36))
  have hB0 := below_alloc w (.cells (n.cells (.slice none 0 0) (.slice none 0 0)).toArray 36)
  have hsz0 : (w.alloc (.cells (n.cells (.slice none 0 0) (.slice none 0 0)).toArray 36)).heap.size = w.heap.size + 1 := by simp
  unfold Nd.cells at *
  go_enter Try.func124, Try.ntmps124
  go_wp2_with fail
  generalize hw0 : w.alloc _ = w0 at *
  refine HD.out.mono ?_
  rintro e w1 ⟨rfl, hB⟩
  have hHW := Lib.hid hw0
  have hHS := Lib.hid hsz0
  clear hw0 hsz0
  by_cases he : A.ofDoc d = 0
  · have he1 : (A.ofDoc d != 0) = false := by simp [he]
    have HE := Lib.hid he
    rw [he]
    clear he
    have c0 := Below.old hB b0; have c1 := Below.old hB b1; have c2 := Below.old hB b2; have c3 := Below.old hB b3; have c4 := Below.old hB b4; have c5 := Below.old hB b5; have c6 := Below.old hB b6
    have c7 := Below.old hB b7; have c8 := Below.old hB b8; have c9 := Below.old hB b9; have c10 := Below.old hB b10; have c11 := Below.old hB b11; have c12 := Below.old hB b12
    have cf3 : w1.frozen? ⟨w.heap.size, 3, none⟩ = false := (Below.frozen hB (by have := hHS.out; dsimp only; omega)).trans bf3
    clear b0 b1 b2 b3 b4 b5 b6 b7 b8 b9 b10 b11 b12 bf3 he1
    go_wp2_with fail
    have hb1 : w.heap.size ≠ b := by have := hA.head; obtain ⟨_, _, _, _, _, _, hl, _⟩ := this; omega
    have hU1 : Upd (fun k => k = w.heap.size) w1 (w1.setCell ⟨w.heap.size, 3, none⟩ (.int .i64 d)) := (Upd.refl (fun k => k = w.heap.size) w1).setCell (p := ⟨w.heap.size, 3, none⟩) (.inr rfl) _
    have hA2 : AMem (w1.setCell ⟨w.heap.size, 3, none⟩ (.int .i64 d)) ρ b A := (hA0.below hB).upd hU1 (fun k hk e => by have := hA.1 k hk; omega)
    have hT2 : Turn ρ ρ w (w1.setCell ⟨w.heap.size, 3, none⟩ (.int .i64 d)) := by
      refine Turn.below (Below.trans (hB0.trans (hB.mono (by have := hHS.out; omega))) ?_)
      exact (Below.refl _ _).setCell (by dsimp only; omega) _
    subst hnn
    have hadd := add_any A ρ b ⟨nkind, nparent, [], d, nspace, nname, [], ndata, npub, nsys, nquirks, ncontents, nhost⟩ none 0 _ hA2 hsmall rfl (hav_nil _ _ _)
    refine hadd.mono ?_
    rintro e w3 ⟨rfl, ρ', hA3, hT3⟩
    go_wp2
    go_ret2
    have hz : A.make d ⟨nkind, nparent, [], ndoc, nspace, nname, [], ndata, npub, nsys, nquirks, ncontents, nhost⟩ = ((A.n + 1, 0), A.add ⟨nkind, nparent, [], d, nspace, nname, [], ndata, npub, nsys, nquirks, ncontents, nhost⟩) := by
      rw [HF.out, if_neg (fun h => h HE.out)]
    rw [hz]
    exact ⟨rfl, ρ', hA3, hT2.trans hT3⟩
  · have he1 : (A.ofDoc d != 0) = true := by simp [he]
    go_wp2
    go_ret2
    have hz : A.make d n = ((0, A.ofDoc d), A) := by rw [HF.out, if_pos he]
    rw [hz]
    exact ⟨rfl, ρ, hA0.below hB, Turn.below (hB0.trans (hB.mono (by have := hHS.out; omega)))⟩

def docTypeNd (name pub sys : ByteArray) : Nd := { zeroNd with kind := 3, name := name, pub := pub, sys := sys }
def textNd (s : ByteArray) : Nd := { zeroNd with kind := 5, data := s }
def commentNd (s : ByteArray) : Nd := { zeroNd with kind := 6, data := s }
def fragNd : Nd := { zeroNd with kind := 2 }

theorem Doctype_any (A : Ar) (ρ : Nat → Nat) (b : Nat) (d : Int) (name pub sys : ByteArray) (w : World) (hA : AMem w ρ b A) (hsmall : A.ns.length ≤ 1000000) :
    Calls Try.prog 77 #[.pointer (some ⟨b, 0, none⟩), .int .i64 d, .string name, .string pub, .string sys] w (AddR (A.make d (docTypeNd name pub sys)).2 ρ b w (pairV (A.make d (docTypeNd name pub sys)).1)) := by
  have HC := Lib.hid (create_any A ρ b d (docTypeNd name pub sys) w hA hsmall rfl rfl)
  go_enter Try.func77, Try.ntmps77
  go_wp2_with fail
  refine HC.out.mono ?_
  rintro e w1 ⟨rfl, hR⟩
  unfold pairV
  go_wp2
  go_ret2
  exact ⟨rfl, hR⟩
theorem Text_any (A : Ar) (ρ : Nat → Nat) (b : Nat) (d : Int) (s : ByteArray) (w : World) (hA : AMem w ρ b A) (hsmall : A.ns.length ≤ 1000000) :
    Calls Try.prog 78 #[.pointer (some ⟨b, 0, none⟩), .int .i64 d, .string s] w (AddR (A.make d (textNd s)).2 ρ b w (pairV (A.make d (textNd s)).1)) := by
  have HC := Lib.hid (create_any A ρ b d (textNd s) w hA hsmall rfl rfl)
  go_enter Try.func78, Try.ntmps78
  go_wp2_with fail
  refine HC.out.mono ?_
  rintro e w1 ⟨rfl, hR⟩
  unfold pairV
  go_wp2
  go_ret2
  exact ⟨rfl, hR⟩
theorem Comment_any (A : Ar) (ρ : Nat → Nat) (b : Nat) (d : Int) (s : ByteArray) (w : World) (hA : AMem w ρ b A) (hsmall : A.ns.length ≤ 1000000) :
    Calls Try.prog 79 #[.pointer (some ⟨b, 0, none⟩), .int .i64 d, .string s] w (AddR (A.make d (commentNd s)).2 ρ b w (pairV (A.make d (commentNd s)).1)) := by
  have HC := Lib.hid (create_any A ρ b d (commentNd s) w hA hsmall rfl rfl)
  go_enter Try.func79, Try.ntmps79
  go_wp2_with fail
  refine HC.out.mono ?_
  rintro e w1 ⟨rfl, hR⟩
  unfold pairV
  go_wp2
  go_ret2
  exact ⟨rfl, hR⟩
theorem Fragment_any (A : Ar) (ρ : Nat → Nat) (b : Nat) (d : Int) (w : World) (hA : AMem w ρ b A) (hsmall : A.ns.length ≤ 1000000) :
    Calls Try.prog 80 #[.pointer (some ⟨b, 0, none⟩), .int .i64 d] w (AddR (A.make d fragNd).2 ρ b w (pairV (A.make d fragNd).1)) := by
  have HC := Lib.hid (create_any A ρ b d fragNd w hA hsmall rfl rfl)
  go_enter Try.func80, Try.ntmps80
  go_wp2_with fail
  refine HC.out.mono ?_
  rintro e w1 ⟨rfl, hR⟩
  unfold pairV
  go_wp2
  go_ret2
  exact ⟨rfl, hR⟩

end Go.Proofs.Ytnfdcfagdidmhaa
