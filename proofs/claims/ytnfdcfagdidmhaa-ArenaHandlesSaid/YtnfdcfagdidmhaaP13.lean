/-
  Contracts of the program's arena: Put, where it puts; Cut.
-/
import Derived.Test.YtnfdcfagdidmhaaP12
namespace Go.Proofs.Ytnfdcfagdidmhaa
open Go.RowKit

/-- What a walk reads of a node, the header being known. -/
theorem AMem.at {w : World} {ρ : Nat → Nat} {b nb m c : Nat} {A : Ar} (hA : AMem w ρ b A) (hc : w.cell? ⟨b, 0, none⟩ = some (.slice (some ⟨nb, 0, none⟩) m c)) {x : Int} (hx : A.has x) :
    m = A.ns.length ∧ ρ nb = 2 ∧ nb < w.heap.size ∧ (∀ j, w.frozen? ⟨nb, j, none⟩ = false) ∧ ∃ kv av, NodeF w nb ((x.toNat - 1) * 13) (A.get x) kv av ∧ ROwn w ρ (2 * (x.toNat - 1) + 4) 3 1 kv (A.get x).kids.length ((A.get x).kids.map intv) ∧ ROwn w ρ (2 * (x.toNat - 1) + 5) 55 3 av (A.get x).attrs.length ((A.get x).attrs.flatMap attrCells) := by
  obtain ⟨a, c', mv, h0, -, -, -, -, hN⟩ := hA.head
  have h1 := hx.1; have h2 := hx.2; unfold Ar.n at h2
  obtain ⟨nb', rfl, hr, hnb, hfn, hNx⟩ := hN (by omega)
  rw [hc] at h0
  simp at h0
  obtain ⟨rfl, rfl, rfl⟩ := h0
  exact ⟨rfl, hr, hnb, hfn, hNx x hx⟩

set_option maxRecDepth 100000 in
set_option maxHeartbeats 2000000 in
/-- 'Put' behind the cut: the children are written, and the parent. -/
theorem put_end {w2 w3 : World} {ρ2 ρ3 : Nat → Nat} {b nb c : Nat} {A2 : Ar} {parent node : Int} {l' : List Int} {g cc : Nat} (hA2 : AMem w2 ρ2 b A2) (hp : A2.has parent) (hn : A2.has node)
    (hc : w2.cell? ⟨b, 0, none⟩ = some (.slice (some ⟨nb, 0, none⟩) A2.ns.length c))
    (hU : Upd (fun k => ρ2 k = 2 * (parent.toNat - 1) + 4) w2 w3) (hr : ∀ k, k < w2.heap.size → ρ3 k = ρ2 k) (hb : ∀ k, ρ3 k ≠ 0 → k < w3.heap.size)
    (hown : ROwn w3 ρ3 (2 * (parent.toNat - 1) + 4) 3 1 (.slice (some ⟨g, 0, none⟩) l'.length cc) l'.length (l'.map intv)) :
    AMem ((w3.setCell ⟨nb, (parent.toNat - 1) * 13 + 2, none⟩ (.slice (some ⟨g, 0, none⟩) l'.length cc)).setCell ⟨nb, (node.toNat - 1) * 13 + 1, none⟩ (.int .i64 parent)) ρ3 b
      ((A2.mod parent (fun x => { x with kids := l' })).mod node (fun x => { x with parent := parent })) ∧
    Turn ρ2 ρ3 w2 ((w3.setCell ⟨nb, (parent.toNat - 1) * 13 + 2, none⟩ (.slice (some ⟨g, 0, none⟩) l'.length cc)).setCell ⟨nb, (node.toNat - 1) * 13 + 1, none⟩ (.int .i64 parent)) := by
  obtain ⟨-, hrnb, hnbl, -, -⟩ := hA2.at hc hp
  have hbn : b ≠ nb := by intro e; subst e; have := hA2.2.1; omega
  have hr3 : ρ3 nb = 2 := (hr nb hnbl).trans hrnb
  have HE1 : AMem (w3.setCell ⟨nb, (parent.toNat - 1) * 13 + 2, none⟩ (.slice (some ⟨g, 0, none⟩) l'.length cc)) ρ3 b (A2.mod parent (fun x => { x with kids := l' })) := by
    refine hA2.store hp hc (hU.mono (fun k _ hk => .inl hk)) hr hb (j := 2) (by omega) (fun kv av hk ha _ _ => ⟨_, av, rfl, hown, (ha.role hr).upd hU (fun k hk hf => ?_)⟩)
    have : k < w2.heap.size := hA2.1 k (by omega)
    rw [hr k this] at hk; omega
  have hT1 : Turn ρ2 ρ3 w2 w3 := ⟨hU.mono (fun k _ hk => by omega), hr⟩
  have hc3 : (w3.setCell ⟨nb, (parent.toNat - 1) * 13 + 2, none⟩ (.slice (some ⟨g, 0, none⟩) l'.length cc)).cell? ⟨b, 0, none⟩ = some (.slice (some ⟨nb, 0, none⟩) A2.ns.length c) := by
    rw [World.cell?_setCell_other w3 ⟨nb, (parent.toNat - 1) * 13 + 2, none⟩ ⟨b, 0, none⟩ _ (fun e => hbn (congrArg Addr.block e).symm)]
    exact hU.cell hc (by have := hA2.2.1; dsimp only; omega)
  exact ⟨HE1.field (nb := nb) (c := c) ((Ar.mod_has _ _ _ _).2 hn) (by rw [hc3]; simp [Ar.mod]) rfl (j := 1) (by omega) (fun _ _ => rfl) rfl rfl,
    (hT1.trans (Turn.set (by dsimp only; omega) _)).trans (Turn.set (by dsimp only; omega) _)⟩

theorem place_eq {A : Ar} {parent node before : Int} {K ins : List Int} (hp' : (A.cut node).has parent) (hK : ((A.cut node).get parent).kids = K) (hput : putIn K node before = ins) :
    ((A.cut node).mod parent (fun x => { x with kids := ins })).mod node (fun x => { x with parent := parent }) = A.place parent node before := by
  subst hput
  unfold Ar.place
  congr 1
  unfold Ar.mod
  congr 1
  have hget := Ar.get_some hp'
  apply List.ext_getElem?
  intro k
  rw [List.getElem?_modify, List.getElem?_modify]
  by_cases hk : parent.toNat - 1 = k
  · subst hk
    rw [hget]
    simp [hK]
  · simp [hk]

set_option maxRecDepth 100000 in
set_option maxHeartbeats 4000000 in
/-- 'Put' puts a node last. -/
theorem Put_last (A : Ar) (ρ : Nat → Nat) (b : Nat) (parent node before : Int) (w : World) (hA : AMem w ρ b A) (hW : A.WF) (h : A.has parent ∧ A.has node ∧ (before ≠ 0 → A.has before)) (hk : (A.get parent).kind = 1 ∨ (A.get parent).kind = 2 ∨ (A.get parent).kind = 4) (hsmall : A.ns.length ≤ 1000000) (hkn : ¬ ((A.get node).kind = 1 ∨ (A.get node).kind = 2)) (path : List Int) (hpath : A.Way (upStep A true) parent path) (hc0 : node ∉ path) (hb0 : before = 0) :
    Calls Try.prog 49 #[.pointer (some ⟨b, 0, none⟩), .int .i64 parent, .int .i64 node, .int .i64 before] w (AddR (A.place parent node before) ρ b w (.int .i64 0)) := by
  have hc : decide (node ∈ path) = false := by simp [hc0]
  obtain ⟨pf1, -, -, pf4⟩ := Ar.put_facts (before := before) hW h.1 h.2.1 (fun e => absurd hb0 e)
  have PF4 := Lib.hid (pf4 hb0)
  clear pf4
  obtain ⟨a, c, mv, h0, h1, hf, hlt, hm, hN⟩ := hA.head
  obtain ⟨hp, hn, hb⟩ := h
  have hp1 := hp.1; have hp2 := hp.2; have hn1 := hn.1; have hn2 := hn.2; unfold Ar.n at hp2 hn2
  obtain ⟨nb, rfl, hr, hnb, hfn, hNx⟩ := hN (by omega)
  obtain ⟨kvp, avp, Fp, hKp, -⟩ := hNx parent hp
  obtain ⟨kvn, avn, Fn, -, -⟩ := hNx node hn
  have hB0 := below_alloc w (.cells #[.int .i64 parent, .int .i64 node] 3)
  have hA0 := hA.below hB0
  have h0' := Below.old hB0 h0
  have cp0 := Below.old hB0 Fp.c0
  have cn0 := Below.old hB0 Fn.c0
  have hck : checkL A [parent, node] = 0 := by simp [checkL, hp, hn]
  have hs0 : (w.alloc (.cells #[.int .i64 parent, .int .i64 node] 3)).heap.size = w.heap.size + 1 := by simp
  generalize hw0 : w.alloc _ = w0 at *
  generalize hop : (parent.toNat - 1) * 13 = op at *
  generalize hon : (node.toNat - 1) * 13 = on at *
  have HW0 := Lib.hid hw0
  have HOP := Lib.hid hop
  have HON := Lib.hid hon
  have HS0 := Lib.hid hs0
  clear hw0 hop hon hs0
  have n1 : ((A.get node).kind == 1) = false := by simp; exact fun e => hkn (.inl e)
  have n2 : ((A.get node).kind == 2) = false := by simp; exact fun e => hkn (.inr e)
  have e1 : (before != 0) = false := by simp [hb0]
  clear Fp Fn hNx hN hfn hkn hc0 hb hb0 hKp
  rcases hk with hk | hk | hk
  all_goals
    rw [hk] at cp0
    clear hk
    go_enter Try.func49, Try.ntmps49
    go_wp2_with fail
    rw [HW0.out]
    refine (check_any A b _ c _ [parent, node] _ h0' (by rw [← HW0.out]; exact RInts_new2 _ _ _ _)).mono ?_
    rintro e w' ⟨rfl, rfl⟩
    rw [hck]
    go_wp2_with fail
    refine (at_any b nb _ c parent _ h0' hp1 hp2 hm).mono ?_
    rintro e w2 ⟨rfl, rfl⟩
    go_wp2_with fail
    refine (at_any b nb _ c node _ h0' hn1 hn2 hm).mono ?_
    rintro e w2 ⟨rfl, rfl⟩
    rw [HOP.out, HON.out]
    go_wp2_with fail
    refine (Contains_any A ρ b node parent path _ hA0 hn hp hpath).mono ?_
    rintro e w1 ⟨rfl, hB1⟩
    rw [hc]
    have hA1 := hA0.below hB1
    have g0 := Below.old hB1 h0'
    go_wp2_with fail
    refine (cut_any A ρ b node _ hA1 hn (hW.link node hn)).mono ?_
    rintro e w2 ⟨⟨rfl, ρ2, hA2, hT2⟩, hhd⟩
    rw [g0] at hhd
    have hp' : (A.cut node).has parent := (Ar.cut_has _ _ _).2 hp
    have hn' : (A.cut node).has node := (Ar.cut_has _ _ _).2 hn
    obtain ⟨-, hr2, hnb2, hfn2, kv2, av2, F2, hK2, -⟩ := hA2.at hhd hp'
    obtain ⟨-, -, -, -, kv3, av3, F3, -, -⟩ := hA2.at hhd hn'
    have c2 := F2.c2
    have c31 := F3.c1
    rw [HOP.out] at c2
    rw [HON.out] at c31
    have fp2 := hfn2 (op + 2)
    have fn1 := hfn2 (on + 1)
    have hform := hK2.reads
    obtain ⟨ka, kc, rfl, hkl1, hkl2, -⟩ := RInts.form hform
    have hlen0 := Ar.cut_ns A node
    rw [← hlen0] at hhd
    generalize hKK : ((A.cut node).get parent).kids = K at *
    have HKK := Lib.hid hKK
    have HLEN0 := Lib.hid hlen0
    clear hKK F2 F3 hfn2 hlen0
    have hvb : (w2.alloc (.cells #[.int .i64 node] 3)).heap[w2.heap.size]? = some (.cells #[.int .i64 node] 3 (0, 0)) := heap_alloc_new w2 _
    have hBa := below_alloc w2 (.cells #[.int .i64 node] 3)
    have hvr : ρ2 w2.heap.size ≠ 2 * (parent.toNat - 1) + 4 := fun e => by have := hA2.1 w2.heap.size (by omega); omega
    have hins := Insert_own ρ2 (2 * (parent.toNat - 1) + 4) (.slice ka K.length kc) K K.length node w2.heap.size (w2.alloc (.cells #[.int .i64 node] 3)) (fun k hk => Nat.lt_of_lt_of_le (hA2.1 k hk) hBa.size) (hK2.upd (F := fun _ => False) (Upd.below hBa) (fun _ _ => id)) (Nat.le_refl _) hvb hvr (by omega)
    have HINS := Lib.hid hins
    clear hins
    go_wp2_with fail
    refine HINS.out.mono ?_
    rintro e w3 ⟨g, cc, ρ3, rfl, hU3, hro3, hbd3, hown3⟩
    have d2 : w3.cell? ⟨nb, op + 2, none⟩ = some (.slice ka K.length kc) := hU3.cell (Below.old hBa c2) (by dsimp only; omega)
    have df2 : w3.frozen? ⟨nb, op + 2, none⟩ = false := hU3.free (Nat.lt_of_lt_of_le hnb2 hBa.size) ((Below.frozen hBa hnb2).trans fp2) (by dsimp only; omega)
    obtain ⟨pv, d31⟩ : ∃ pv, w3.cell? ⟨nb, on + 1, none⟩ = some pv := ⟨_, hU3.cell (Below.old hBa c31) (by dsimp only; omega)⟩
    have df31 : w3.frozen? ⟨nb, on + 1, none⟩ = false := hU3.free (Nat.lt_of_lt_of_le hnb2 hBa.size) ((Below.frozen hBa hnb2).trans fn1) (by dsimp only; omega)
    have hend := put_end (hA2.below hBa) hp' hn' (Below.old hBa hhd) hU3 hro3 hbd3 hown3
    rw [HOP.out, HON.out] at hend
    have hpl := place_eq (before := before) hp' HKK.out (ins := K.take K.length ++ node :: K.drop K.length) (by rw [PF4.out]; simp)
    rw [hpl] at hend
    have hT3 := (((Turn.below (Below.from0 hB0 hB1)).trans hT2).trans (Turn.below hBa)).trans hend.2
    have HEND := Lib.hid (And.intro hend.1 hT3)
    have hne : op + 2 ≠ on + 1 := by have := HOP.out; have := HON.out; omega
    have q1 : (w3.setCell ⟨nb, op + 2, none⟩ (.slice (some ⟨g, 0, none⟩) (K.take K.length ++ node :: K.drop K.length).length cc)).cell? ⟨nb, on + 1, none⟩ = some pv := by
      rw [World.cell?_setCell_other w3 ⟨nb, op + 2, none⟩ ⟨nb, on + 1, none⟩ _ (fun e => hne (congrArg Addr.off e))]; exact d31
    clear hend hT3 hne hown3 hpl HKK
    generalize (K.take K.length ++ node :: K.drop K.length).length = ll at *
    go_wp2
    go_ret
    exact ⟨rfl, ρ3, HEND.out.1, HEND.out.2⟩

end Go.Proofs.Ytnfdcfagdidmhaa
