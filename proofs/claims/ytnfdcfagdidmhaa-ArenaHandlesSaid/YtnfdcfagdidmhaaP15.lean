/-
  Contracts of the program's arena: the inert document of a document.
-/
import Derived.Test.YtnfdcfagdidmhaaMp
namespace Go.Proofs.Ytnfdcfagdidmhaa
open Go.RowKit

theorem zeroInt (w : World) : (zeroValue 3).run Try.prog w = .ok (.int .i64 0) w := by kernel_rfl

/-- The map of the inert documents, behind two stores. -/
theorem IMapM.put2 {w' : World} {ρ : Nat → Nat} {mv : Value} {I : List Int} {L : List (Int × Int)} {d i : Int} {mb : Nat} (hl : ∀ k : Int, L.lookup k = if 1 ≤ k ∧ I[k.toNat]?.getD 0 ≠ 0 then some (I[k.toNat]?.getD 0) else none) (hn : (L.map Prod.fst).Nodup)
    (hd1 : 1 ≤ d) (hdi : d < i) (hi : i.toNat < I.length + 1) (hdn : ∀ p ∈ L, p.1 ≠ d) (hin : ∀ p ∈ L, p.1 ≠ i) (hmv : mv = .map (some mb)) (hr : ρ mb = 3) (hb : w'.heap[mb]? = some (.map (mapEs (L ++ [(d, i)] ++ [(i, i)])) (L.length + 2))) (hlen : i.toNat = I.length) :
    IMapM w' ρ mv (((I ++ [0]).set d.toNat i).set i.toNat i) := by
  refine ⟨L ++ [(d, i)] ++ [(i, i)], fun k => ?_, ?_, .inr ⟨mb, hmv, hr, by rw [hb]; simp⟩⟩
  · have hlk : (L ++ [(d, i)] ++ [(i, i)]).lookup k = ((L.lookup k).or (if k = d then some i else none)).or (if k = i then some i else none) := by
      rw [List.lookup_append, List.lookup_append]
      congr 1
      · congr 1
        simp [List.lookup]; split <;> simp_all
      · simp [List.lookup]; split <;> simp_all
    rw [hlk, hl k]
    have hget : (((I ++ [0]).set d.toNat i).set i.toNat i)[k.toNat]?.getD 0 = if k.toNat = i.toNat then i else if k.toNat = d.toNat then i else (I[k.toNat]?.getD 0) := by
      rw [List.getElem?_set, List.getElem?_set]
      have h0 : (I ++ [0])[k.toNat]?.getD 0 = I[k.toNat]?.getD 0 := by
        rw [List.getElem?_append]
        split
        · rfl
        · rename_i hge
          rw [List.getElem?_eq_none (l := I) (by omega)]
          by_cases hk : k.toNat - I.length = 0
          · simp [hk]
          · rw [List.getElem?_singleton]; simp [hk]
      by_cases h1 : k.toNat = i.toNat
      · rw [if_pos h1, if_pos h1.symm]
        simp; rw [if_pos (by omega)]; rfl
      · rw [if_neg h1, if_neg (Ne.symm h1)]
        by_cases h2 : k.toNat = d.toNat
        · rw [if_pos h2, if_pos h2.symm]
          simp; rw [if_pos (by omega)]; rfl
        · rw [if_neg h2, if_neg (Ne.symm h2)]; exact h0
    rw [hget]
    have hnoneD : I[d.toNat]?.getD 0 = 0 := by
      by_cases h : I[d.toNat]?.getD 0 = 0
      · exact h
      · have := hl d
        rw [if_pos ⟨hd1, h⟩] at this
        rw [lookup_none L d hdn] at this; cases this
    have hnoneI : I[i.toNat]?.getD 0 = 0 := by rw [List.getElem?_eq_none (by omega)]; rfl
    by_cases hki : k = i
    · subst hki
      rw [if_pos rfl]
      have : k ≠ d := by omega
      simp [hnoneI, this]; omega
    · by_cases hkd : k = d
      · subst hkd
        have h1 : k.toNat ≠ i.toNat := by omega
        simp [hnoneD, h1]; omega
      · by_cases hk1 : 1 ≤ k
        · have h1 : k.toNat ≠ i.toNat := by omega
          have h2 : k.toNat ≠ d.toNat := by omega
          simp [hki, hkd, h1, h2]
        · simp [hki, hkd, hk1]
  · rw [List.map_append, List.map_append, List.nodup_append, List.nodup_append]
    refine ⟨⟨hn, by simp, ?_⟩, by simp, ?_⟩
    · intro a ha b hb'
      simp at hb'
      obtain ⟨p, hp, rfl⟩ := List.mem_map.1 ha
      rw [hb']; exact hdn p hp
    · intro a ha b hb'
      simp at hb'
      rw [hb']
      rcases List.mem_append.1 ha with ha | ha
      · obtain ⟨p, hp, rfl⟩ := List.mem_map.1 ha
        exact hin p hp
      · simp at ha; omega

theorem IMapM.inertAt {A : Ar} {L : List (Int × Int)} {d : Int} (hd : 1 ≤ d) (hl : ∀ k : Int, L.lookup k = if 1 ≤ k ∧ A.inert[k.toNat]?.getD 0 ≠ 0 then some (A.inert[k.toNat]?.getD 0) else none) :
    (L.lookup d).getD 0 = A.inertAt d ∧ (L.lookup d).isSome = decide (A.inertAt d ≠ 0) := by
  rw [hl d]
  unfold Ar.inertAt
  by_cases h : A.inert[d.toNat]?.getD 0 = 0
  · rw [if_neg (fun e => e.2 h), h]; simp
  · rw [if_pos ⟨hd, h⟩]; simp [h]

theorem inert_snoc {A : Ar} (n : Nd) (k : Nat) : (A.add n).inert[k]?.getD 0 = A.inert[k]?.getD 0 := by
  simp only [Ar.add, List.getElem?_append]
  split
  · rfl
  · rename_i hge
    rw [List.getElem?_eq_none (l := A.inert) (by omega), List.getElem?_singleton]
    split <;> rfl
theorem not_key {L : List (Int × Int)} {d : Int} (hn : (L.map Prod.fst).Nodup) (h : L.lookup d = none) : ∀ p ∈ L, p.1 ≠ d := by
  intro p hp e
  obtain ⟨j, hj, rfl⟩ := List.getElem_of_mem hp
  have := find_lookup L j _ hn (List.getElem?_eq_getElem hj)
  rw [e, h] at this; cases this
theorem NodesM.upd5 {F : Nat → Prop} {w w' : World} {ρ : Nat → Nat} {e eA : TypeId} {nv : Value} {ns : List Nd} (h : NodesM w ρ e eA nv ns) (hu : Upd F w w') (hF : ∀ k, ρ k = 2 ∨ 4 ≤ ρ k → ¬ F k) : NodesM w' ρ e eA nv ns := by
  obtain ⟨rows, h1, h2, h3⟩ := h
  refine ⟨rows, h1.upd hu (fun k hk => hF k (.inl hk)), h2, fun i n hn => ?_⟩
  obtain ⟨r, h4, h5⟩ := h3 i n hn
  exact ⟨r, h4, h5.upd hu (fun k hk => hF k (.inr (by omega)))⟩

set_option maxRecDepth 100000 in
set_option maxHeartbeats 2000000 in
theorem inertOf_any (A : Ar) (ρ : Nat → Nat) (b : Nat) (d : Int) (w : World) (hA : AMem w ρ b A) (hd : A.has d) (hsmall : A.ns.length ≤ 1000000) :
    Calls Try.prog 66 #[.pointer (some ⟨b, 0, none⟩), .int .i64 d] w (AddR (A.inertOf d).2 ρ b w (.int .i64 (A.inertOf d).1)) := by
  have hlookup : ∃ mv, w.cell? ⟨b, 1, none⟩ = some mv ∧ (Instr.lookup 90 mv (.int .i64 d) true).run Try.prog w = .ok (.tuple #[.int .i64 (A.inertAt d), .bool (decide (A.inertAt d ≠ 0))]) w := by
    obtain ⟨h1, h2, h3, nv, mv, h4, h5, L, m1, m2, m3⟩ := hA
    refine ⟨mv, by rw [cell_of_row w b _ _ _ _ h4]; rfl, ?_⟩
    obtain ⟨e1, e2⟩ := IMapM.inertAt hd.1 m1
    rcases m3 with ⟨rfl, rfl⟩ | ⟨mb, rfl, _, m6⟩
    · have := run_lookup_nil (k := d) Try.underlying90 Try.underlying3 (zeroInt w)
      rw [← e2, ← e1]; exact this
    · have := run_lookup_ok (k := d) Try.underlying90 Try.underlying3 (zeroInt w) m6 m2
      rw [← e2, ← e1]; exact this
  obtain ⟨mv, c1, hlk⟩ := hlookup
  by_cases hz : A.inertAt d = 0
  · have hz1 : decide (A.inertAt d ≠ 0) = false := by simp [hz]
    rw [hz1] at hlk
    have hfin : A.inertOf d = (A.n + 1, { A.document false with inert := ((A.document false).inert.set d.toNat (A.n + 1)).set (A.n + 1).toNat (A.n + 1) }) := by unfold Ar.inertOf; rw [if_neg (fun h => h hz)]
    rw [hfin]
    have HD := Lib.hid (Document_any A ρ b false w hA hsmall)
    have HZ := Lib.hid hz
    have HLEN := Lib.hid hA.2.2.1
    clear hfin hz hz1
    go_enter Try.func66, Try.ntmps66
    go_wp2_with fail
    refine HD.out.mono ?_
    rintro e w1 ⟨rfl, ρ1, hA1, hT1⟩
    obtain ⟨r1, r2, r3, nv1, mv1, r4, r5, L, m1, m2, m3⟩ := hA1
    have g1 : w1.cell? ⟨b, 1, none⟩ = some mv1 := by rw [cell_of_row w1 b _ _ _ _ r4]; rfl
    have gf : w1.frozen? ⟨b, 1, none⟩ = false := frozen_of_row w1 b _ _ _ r4
    have hbl := lt_of_block r4
    rcases m3 with ⟨hmn, hLn⟩ | ⟨mb, hmv, hrm, hmb⟩
    · subst hmn
      have heq := fun wx => run_eql_map_nil (P := Try.prog) wx 90 3 3 none Try.underlying90
      have hmm := @run_makeMap Try.prog
      go_wp2_with fail
      have hset : (w1.setCell ⟨b, 1, none⟩ (.map (some w1.heap.size))).heap.size = w1.heap.size := by simp
      obtain ⟨w2, hw2⟩ : ∃ w2 : World, w2 = (w1.setCell ⟨b, 1, none⟩ (.map (some w1.heap.size))).alloc (.map #[] 0) := ⟨_, rfl⟩
      rw [← hw2]
      obtain ⟨mb, hmbe⟩ : ∃ mb : Nat, mb = w1.heap.size := ⟨_, rfl⟩
      have hsz2 : w2.heap.size = w1.heap.size + 1 := by rw [hw2]; simp
      have hmb : w2.heap[mb]? = some (.map (mapEs L) L.length) := by
        rw [hw2, hmbe, hLn]
        have := heap_alloc_new (w1.setCell ⟨b, 1, none⟩ (.map (some w1.heap.size))) (.map #[] 0)
        rw [hset] at this; exact this
      have hub : Upd (fun k => k = b) w1 w2 := by rw [hw2]; exact ((Upd.refl (fun k => k = b) w1).setCell (p := ⟨b, 1, none⟩) (.inr rfl) _).alloc _
      have hr0 : ρ1 mb = 0 := by
        by_cases h : ρ1 mb = 0
        · exact h
        · have := r1 _ h; omega
      have q4 : w2.heap[b]? = some (.cells #[nv1, .map (some mb)] 92 (0, 0)) := by
        rw [hw2, hmbe, heap_alloc_old _ _ _ (by simpa using hbl)]; exact heap_set2' r4
      obtain ⟨ρ2, hρ2⟩ : ∃ ρ2 : Nat → Nat, ρ2 = fun k => if k = mb then 3 else ρ1 k := ⟨_, rfl⟩
      have hρk : ∀ k, k < w1.heap.size → ρ2 k = ρ1 k := fun k hk => by rw [hρ2]; exact if_neg (by omega)
      have hrm : ρ2 mb = 3 := by rw [hρ2]; exact if_pos rfl
      have q5 : NodesM w2 ρ2 103 55 nv1 (A.document false).ns := (r5.role hρk).upd5 hub (fun k hk e => by rw [e, hρk b hbl] at hk; omega)
      have q1 : ∀ k, ρ2 k ≠ 0 → k < w2.heap.size := fun k hk => by
        by_cases e : k = mb
        · omega
        · rw [hρ2] at hk; dsimp only at hk; rw [if_neg e] at hk; have := r1 k hk; omega
      have q2 : ρ2 b = 1 := (hρk b hbl).trans r2
      have hT2 : Turn ρ ρ2 w w2 := hT1.trans ⟨hub.mono (fun k _ hk => by rw [hk]; omega), hρk⟩
      have g1' : w2.cell? ⟨b, 1, none⟩ = some (.map (some mb)) := by rw [cell_of_row w2 b _ _ _ _ q4]; rfl
      have hbl' : b < w2.heap.size := by omega
      rw [← hmbe]
      clear hLn heq hmm r1 r2 r4 r5 g1 gf hbl hT1 hub hρ2 hρk hr0 hset hw2 hsz2 hmbe
      have r1 := q1
      have r2 := q2
      have r4 := q4
      have r5 := q5
      have g1 := g1'
      have hbl := hbl'
      clear q1 q2 q4 q5 g1' hbl'
      have hbm : mb ≠ b := fun e => by rw [e] at hrm; omega
      have hin0 : A.inert[d.toNat]?.getD 0 = 0 := HZ.out
      have hdlt : d.toNat < A.inert.length := by have q := hd.2; have q2 := HLEN.out; unfold Ar.n at q; omega
      have hnlen : (A.n + 1).toNat = A.inert.length := by have := HLEN.out; unfold Ar.n; omega
      have hI1 : ∀ k : Int, L.lookup k = if 1 ≤ k ∧ A.inert[k.toNat]?.getD 0 ≠ 0 then some (A.inert[k.toNat]?.getD 0) else none := by
        intro k
        rw [m1 k]
        have : (A.document false).inert[k.toNat]?.getD 0 = A.inert[k.toNat]?.getD 0 := inert_snoc _ _
        rw [this]
      have hno1 : ∀ p ∈ L, p.1 ≠ d := not_key m2 (by rw [hI1 d, if_neg (fun h => h.2 hin0)])
      have hno0 : ∀ p ∈ L, p.1 ≠ A.n + 1 := not_key m2 (by rw [hI1 (A.n + 1), if_neg (fun h => h.2 (by rw [hnlen, List.getElem?_eq_none (Nat.le_refl _)]; rfl))])
      have hno2 : ∀ p ∈ L ++ [(d, A.n + 1)], p.1 ≠ A.n + 1 := by
        intro p hp
        rcases List.mem_append.1 hp with hp | hp
        · exact hno0 p hp
        · simp at hp; subst hp; have := hd.2; dsimp only; omega
      have e1 := run_mapEntry_new (P := Try.prog) (k := d) (w := w2.drew) Try.underlying90 Try.underlying3 (zeroInt _) hmb hno1
      obtain ⟨X1, hX1⟩ : ∃ X1 : World, X1 = { w2.drew with heap := w2.drew.heap.setIfInBounds mb (.map (mapEs (L ++ [(d, 0)])) (L.length + 1)) } := ⟨_, rfl⟩
      rw [← hX1] at e1
      have hm1 : X1.heap[mb]? = some (.map (mapEs (L ++ [(d, 0)])) (L.length + 1)) := by rw [hX1]; exact setBlock_at (w := w2.drew) hmb _
      have u1 : Upd (fun k => k = mb) w2 X1 := by rw [hX1]; exact (Upd.refl _ w2).drew.trans (setBlock_upd _ _ _)
      have e2 := run_entryStore_new (P := Try.prog) (mt := 90) (v := A.n + 1) hm1
      obtain ⟨X2, hX2⟩ : ∃ X2 : World, X2 = { X1 with heap := X1.heap.setIfInBounds mb (.map (mapEs (L ++ [(d, A.n + 1)])) (L.length + 1)) } := ⟨_, rfl⟩
      rw [← hX2] at e2
      have hm2 : X2.heap[mb]? = some (.map (mapEs (L ++ [(d, A.n + 1)])) (L ++ [(d, A.n + 1)]).length) := by rw [hX2]; simpa using setBlock_at hm1 _
      have u2 : Upd (fun k => k = mb) X1 X2 := by rw [hX2]; exact setBlock_upd _ _ _
      have e3 := run_mapEntry_new (P := Try.prog) (k := A.n + 1) Try.underlying90 Try.underlying3 (zeroInt _) hm2 hno2
      obtain ⟨X3, hX3⟩ : ∃ X3 : World, X3 = { X2 with heap := X2.heap.setIfInBounds mb (.map (mapEs (L ++ [(d, A.n + 1)] ++ [(A.n + 1, 0)])) ((L ++ [(d, A.n + 1)]).length + 1)) } := ⟨_, rfl⟩
      rw [← hX3] at e3
      have hm3 : X3.heap[mb]? = some (.map (mapEs (L ++ [(d, A.n + 1)] ++ [(A.n + 1, 0)])) ((L ++ [(d, A.n + 1)]).length + 1)) := by rw [hX3]; exact setBlock_at hm2 _
      have u3 : Upd (fun k => k = mb) X2 X3 := by rw [hX3]; exact setBlock_upd _ _ _
      have e4 := run_entryStore_new (P := Try.prog) (mt := 90) (v := A.n + 1) hm3
      obtain ⟨X4, hX4⟩ : ∃ X4 : World, X4 = { X3 with heap := X3.heap.setIfInBounds mb (.map (mapEs (L ++ [(d, A.n + 1)] ++ [(A.n + 1, A.n + 1)])) ((L ++ [(d, A.n + 1)]).length + 1)) } := ⟨_, rfl⟩
      rw [← hX4] at e4
      have hm4 : X4.heap[mb]? = some (.map (mapEs (L ++ [(d, A.n + 1)] ++ [(A.n + 1, A.n + 1)])) (L.length + 2)) := by rw [hX4]; simpa using setBlock_at hm3 (.map (mapEs (L ++ [(d, A.n + 1)] ++ [(A.n + 1, A.n + 1)])) ((L ++ [(d, A.n + 1)]).length + 1))
      have u4 : Upd (fun k => k = mb) X3 X4 := by rw [hX4]; exact setBlock_upd _ _ _
      have k1 : X1.cell? ⟨b, 1, none⟩ = some (.map (some mb)) := u1.cell g1 (Ne.symm hbm)
      have k2 : X2.cell? ⟨b, 1, none⟩ = some (.map (some mb)) := u2.cell k1 (Ne.symm hbm)
      clear hX1 hX2 hX3 hX4 hm1 hm2 hm3
      simp only [List.length_append, List.length_cons, List.length_nil, Nat.zero_add, Int.natCast_add, Int.cast_ofNat_Int] at e3 e4
      have uu := ((u1.trans u2).trans u3).trans u4
      have hfin : AMem X4 ρ2 b { A.document false with inert := ((A.document false).inert.set d.toNat (A.n + 1)).set (A.n + 1).toNat (A.n + 1) } := by
        refine ⟨fun k hk => Nat.lt_of_lt_of_le (r1 k hk) uu.size, r2, by simpa [Ar.document, Ar.add] using r3, nv1, .map (some mb), (uu.block b hbl (Ne.symm hbm)).trans r4, r5.upd5 uu (fun k hk e => by rw [e, hrm] at hk; omega), ?_⟩
        exact IMapM.put2 (w' := X4) hI1 m2 hd.1 (by have := hd.2; omega) (by omega) hno1 hno0 rfl hrm hm4 hnlen
      have hturn : Turn ρ ρ2 w X4 := (hT2).trans ⟨uu.mono (fun k _ hk => by rw [hk, hrm]; omega), fun _ _ => rfl⟩
      have HFIN := Lib.hid (And.intro hfin hturn)
      clear hfin hturn uu u1 u2 u3 u4 hm4 hI1 hno0 hno1 hno2 hnlen hdlt hin0
      go_region
      go_wp2
      go_ret
      exact ⟨rfl, ρ2, HFIN.out.1, HFIN.out.2⟩
    · subst hmv
      have heq := fun wx => run_eql_map_nil (P := Try.prog) wx 90 3 3 (some mb) Try.underlying90
      go_wp2_with fail
      have hbm : mb ≠ b := fun e => by rw [e] at hrm; omega
      have hin0 : A.inert[d.toNat]?.getD 0 = 0 := HZ.out
      have hdlt : d.toNat < A.inert.length := by have q := hd.2; have q2 := HLEN.out; unfold Ar.n at q; omega
      have hnlen : (A.n + 1).toNat = A.inert.length := by have := HLEN.out; unfold Ar.n; omega
      have hI1 : ∀ k : Int, L.lookup k = if 1 ≤ k ∧ A.inert[k.toNat]?.getD 0 ≠ 0 then some (A.inert[k.toNat]?.getD 0) else none := by
        intro k
        rw [m1 k]
        have : (A.document false).inert[k.toNat]?.getD 0 = A.inert[k.toNat]?.getD 0 := inert_snoc _ _
        rw [this]
      have hno1 : ∀ p ∈ L, p.1 ≠ d := not_key m2 (by rw [hI1 d, if_neg (fun h => h.2 hin0)])
      have hno0 : ∀ p ∈ L, p.1 ≠ A.n + 1 := not_key m2 (by rw [hI1 (A.n + 1), if_neg (fun h => h.2 (by rw [hnlen, List.getElem?_eq_none (Nat.le_refl _)]; rfl))])
      have hno2 : ∀ p ∈ L ++ [(d, A.n + 1)], p.1 ≠ A.n + 1 := by
        intro p hp
        rcases List.mem_append.1 hp with hp | hp
        · exact hno0 p hp
        · simp at hp; subst hp; have := hd.2; dsimp only; omega
      have e1 := run_mapEntry_new (P := Try.prog) (k := d) (w := w1.drew) Try.underlying90 Try.underlying3 (zeroInt _) hmb hno1
      obtain ⟨X1, hX1⟩ : ∃ X1 : World, X1 = { w1.drew with heap := w1.drew.heap.setIfInBounds mb (.map (mapEs (L ++ [(d, 0)])) (L.length + 1)) } := ⟨_, rfl⟩
      rw [← hX1] at e1
      have hm1 : X1.heap[mb]? = some (.map (mapEs (L ++ [(d, 0)])) (L.length + 1)) := by rw [hX1]; exact setBlock_at (w := w1.drew) hmb _
      have u1 : Upd (fun k => k = mb) w1 X1 := by rw [hX1]; exact (Upd.refl _ w1).drew.trans (setBlock_upd _ _ _)
      have e2 := run_entryStore_new (P := Try.prog) (mt := 90) (v := A.n + 1) hm1
      obtain ⟨X2, hX2⟩ : ∃ X2 : World, X2 = { X1 with heap := X1.heap.setIfInBounds mb (.map (mapEs (L ++ [(d, A.n + 1)])) (L.length + 1)) } := ⟨_, rfl⟩
      rw [← hX2] at e2
      have hm2 : X2.heap[mb]? = some (.map (mapEs (L ++ [(d, A.n + 1)])) (L ++ [(d, A.n + 1)]).length) := by rw [hX2]; simpa using setBlock_at hm1 _
      have u2 : Upd (fun k => k = mb) X1 X2 := by rw [hX2]; exact setBlock_upd _ _ _
      have e3 := run_mapEntry_new (P := Try.prog) (k := A.n + 1) Try.underlying90 Try.underlying3 (zeroInt _) hm2 hno2
      obtain ⟨X3, hX3⟩ : ∃ X3 : World, X3 = { X2 with heap := X2.heap.setIfInBounds mb (.map (mapEs (L ++ [(d, A.n + 1)] ++ [(A.n + 1, 0)])) ((L ++ [(d, A.n + 1)]).length + 1)) } := ⟨_, rfl⟩
      rw [← hX3] at e3
      have hm3 : X3.heap[mb]? = some (.map (mapEs (L ++ [(d, A.n + 1)] ++ [(A.n + 1, 0)])) ((L ++ [(d, A.n + 1)]).length + 1)) := by rw [hX3]; exact setBlock_at hm2 _
      have u3 : Upd (fun k => k = mb) X2 X3 := by rw [hX3]; exact setBlock_upd _ _ _
      have e4 := run_entryStore_new (P := Try.prog) (mt := 90) (v := A.n + 1) hm3
      obtain ⟨X4, hX4⟩ : ∃ X4 : World, X4 = { X3 with heap := X3.heap.setIfInBounds mb (.map (mapEs (L ++ [(d, A.n + 1)] ++ [(A.n + 1, A.n + 1)])) ((L ++ [(d, A.n + 1)]).length + 1)) } := ⟨_, rfl⟩
      rw [← hX4] at e4
      have hm4 : X4.heap[mb]? = some (.map (mapEs (L ++ [(d, A.n + 1)] ++ [(A.n + 1, A.n + 1)])) (L.length + 2)) := by rw [hX4]; simpa using setBlock_at hm3 (.map (mapEs (L ++ [(d, A.n + 1)] ++ [(A.n + 1, A.n + 1)])) ((L ++ [(d, A.n + 1)]).length + 1))
      have u4 : Upd (fun k => k = mb) X3 X4 := by rw [hX4]; exact setBlock_upd _ _ _
      have k1 : X1.cell? ⟨b, 1, none⟩ = some (.map (some mb)) := u1.cell g1 (Ne.symm hbm)
      have k2 : X2.cell? ⟨b, 1, none⟩ = some (.map (some mb)) := u2.cell k1 (Ne.symm hbm)
      clear hX1 hX2 hX3 hX4 hm1 hm2 hm3
      simp only [List.length_append, List.length_cons, List.length_nil, Nat.zero_add, Int.natCast_add, Int.cast_ofNat_Int] at e3 e4
      have uu := ((u1.trans u2).trans u3).trans u4
      have hfin : AMem X4 ρ1 b { A.document false with inert := ((A.document false).inert.set d.toNat (A.n + 1)).set (A.n + 1).toNat (A.n + 1) } := by
        refine ⟨fun k hk => Nat.lt_of_lt_of_le (r1 k hk) uu.size, r2, by simpa [Ar.document, Ar.add] using r3, nv1, .map (some mb), (uu.block b hbl (Ne.symm hbm)).trans r4, r5.upd5 uu (fun k hk e => by rw [e, hrm] at hk; omega), ?_⟩
        exact IMapM.put2 (w' := X4) hI1 m2 hd.1 (by have := hd.2; omega) (by omega) hno1 hno0 rfl hrm hm4 hnlen
      have hturn : Turn ρ ρ1 w X4 := (hT1).trans ⟨uu.mono (fun k _ hk => by rw [hk, hrm]; omega), fun _ _ => rfl⟩
      have HFIN := Lib.hid (And.intro hfin hturn)
      clear hfin hturn uu u1 u2 u3 u4 hm4 hI1 hno0 hno1 hno2 hnlen hdlt hin0
      go_region
      go_wp2
      go_ret
      exact ⟨rfl, ρ1, HFIN.out.1, HFIN.out.2⟩
  · have hz1 : decide (A.inertAt d ≠ 0) = true := by simp [hz]
    rw [hz1] at hlk
    have hfin : A.inertOf d = (A.inertAt d, A) := by unfold Ar.inertOf; rw [if_pos hz]
    rw [hfin]
    clear hfin hz hz1
    go_enter Try.func66, Try.ntmps66
    go_wp2
    go_ret
    exact ⟨rfl, ρ, hA, Turn.refl _ _⟩

end Go.Proofs.Ytnfdcfagdidmhaa
