/-
  Parts: RP, R2, R3.
-/
import Derived.Test.YtpicinjcmjaogaaGreatN28

/- The document's arena in memory: nodes and inert documents that are added. No program here. -/
namespace Go.Proofs.YtpicinjcmjaogaaGreat
open Go.RowKit
set_option linter.unusedVariables false

/-- What lies in memory of an arena of the document whose two lists may not yet fit together. -/
def RPart (w : World) (ρ : Nat → Nat) (b : Nat) (nv iv : Value) (ns : List Nd) (I : List Int) : Prop :=
  (∀ k, ρ k ≠ 0 → k < w.heap.size) ∧ ρ b = 1 ∧ w.heap[b]? = some (.cells #[nv, iv] 112 (0, 0)) ∧ NodesM w ρ 46 132 nv ns ∧ ROwn w ρ 3 3 1 iv I.length (I.map intv)

theorem RMem.part {w : World} {ρ : Nat → Nat} {b : Nat} {A : Ar} (h : RMem w ρ b A) : A.inert.length = A.ns.length + 1 ∧ ∃ nv iv, RPart w ρ b nv iv (zeroNd :: A.ns) A.inert := by
  obtain ⟨h1, h2, h3, nv, iv, h4, h5, h6⟩ := h
  exact ⟨h3, nv, iv, h1, h2, h4, h5, by rw [h3]; exact h6⟩
theorem RPart.mem {w : World} {ρ : Nat → Nat} {b : Nat} {nv iv : Value} {A : Ar} (h : RPart w ρ b nv iv (zeroNd :: A.ns) A.inert) (hl : A.inert.length = A.ns.length + 1) : RMem w ρ b A := by
  obtain ⟨h1, h2, h3, h4, h5⟩ := h
  exact ⟨h1, h2, hl, nv, iv, h3, h4, by rw [← hl]; exact h5⟩
theorem RPart.upd {F : Nat → Prop} {w w' : World} {ρ : Nat → Nat} {b : Nat} {nv iv : Value} {ns : List Nd} {I : List Int} (h : RPart w ρ b nv iv ns I) (hu : Upd F w w') (hF : ∀ k, ρ k ≠ 0 → ¬ F k) : RPart w' ρ b nv iv ns I := by
  obtain ⟨h1, h2, h3, h4, h5⟩ := h
  exact ⟨fun k hk => Nat.lt_of_lt_of_le (h1 k hk) hu.size, h2, by rw [hu.block b (lt_of_block h3) (hF b (by omega))]; exact h3, h4.upd hu hF, h5.upd hu (fun k hk => hF k (by omega))⟩

theorem RPart.addN {w w1 : World} {ρ : Nat → Nat} {b : Nat} {nv iv av v' : Value} {ns : List Nd} {I : List Int} {n : Nd} {rows : List (List Value)} (h : RPart w ρ b nv iv ns I) (hrl : rows.length = ns.length) (hrows : ∀ i n, ns[i]? = some n → ∃ r, rows[i]? = some r ∧ NodeM w ρ 132 i n r)
    (hk : n.kids = []) (hav : ROwn w ρ (2 * ns.length + 5) 132 3 av n.attrs.length (n.attrs.flatMap attrCells)) (hrole : ∀ g, nv.ownBlock = some g → ρ g = 2)
    (hU : Upd (fun k => nv.ownBlock = some k) w w1) (hown : w1.ownsRow 0 46 13 v' (ns.length + 1) (rows.flatten ++ n.cells (.slice none 0 0) av)) (hat : v'.ownBlock = nv.ownBlock ∨ ∃ g, v'.ownBlock = some g ∧ w.heap.size ≤ g) :
    ∃ ρ', RPart (w1.setCell ⟨b, 0, none⟩ v') ρ' b v' iv (ns ++ [n]) I ∧ Turn ρ ρ' w (w1.setCell ⟨b, 0, none⟩ v') := by
  obtain ⟨h1, h2, h3, h4, h5⟩ := h
  have hbl := lt_of_block h3
  rcases hown.2 with ⟨hv, h0⟩ | ⟨gg, cap, cur, hv, hb0, hg, hn, hc, hs, ht⟩
  · omega
  subst hv
  have hat' : nv.ownBlock = some gg ∨ w.heap.size ≤ gg := by
    rcases hat with hat | ⟨g, q1, q2⟩
    · left; rw [← hat]; rfl
    · simp [Value.ownBlock] at q1; subst q1; exact .inr q2
  have hnb : ∀ k, nv.ownBlock = some k → k ≠ b := fun k hk e => by have := hrole k hk; rw [e] at this; omega
  have hgb : gg ≠ b := by
    rcases hat' with q | q
    · exact hnb gg q
    · omega
  obtain ⟨hr', hN⟩ := NodesM.added h1 hrole hrl hrows hk hav hU hown hat'
  have hUb : Upd (fun k => k = b) w1 (w1.setCell ⟨b, 0, none⟩ (.slice (some ⟨gg, 0, none⟩) (ns.length + 1) cap)) := (Upd.refl (fun k => k = b) w1).setCell (p := ⟨b, 0, none⟩) (.inr rfl) _
  have hF : ∀ k r, (fun k => if k = gg then 2 else ρ k) k = r → r ≠ 1 → ¬ k = b := by
    rintro k r hk hk1 rfl
    dsimp only at hk
    rw [if_neg (Ne.symm hgb)] at hk; omega
  obtain ⟨rows', hN1, hN2, hN3⟩ := hN
  refine ⟨fun k => if k = gg then 2 else ρ k, ⟨fun k hk => ?_, ?_, ?_, ⟨rows', hN1.upd hUb (fun k hk => hF k _ hk (by omega)), hN2, fun i m hm => ?_⟩, ?_⟩, ⟨?_, hr'⟩⟩
  · dsimp only at hk
    have hsz : (w1.setCell ⟨b, 0, none⟩ (.slice (some ⟨gg, 0, none⟩) (ns.length + 1) cap)).heap.size = w1.heap.size := by simp
    rw [hsz]
    split at hk
    · rename_i e; rw [e]; exact lt_of_block hg
    · exact Nat.lt_of_lt_of_le (h1 k hk) hU.size
  · dsimp only; rw [if_neg (Ne.symm hgb)]; exact h2
  · exact heap_set2 ((hU.block b hbl (fun e => hnb b e rfl)).trans h3)
  · obtain ⟨r, q1, q2⟩ := hN3 i m hm
    exact ⟨r, q1, q2.upd hUb (fun k hk => by rcases hk with hk | hk <;> exact hF k _ hk (by omega))⟩
  · refine ((h5.role hr').upd hU (fun k hk hf => ?_)).upd hUb (fun k hk => hF k _ hk (by omega))
    have := hrole k hf
    split at hk <;> omega
  · refine (hU.mono (fun k _ hk => ?_)).trans (hUb.mono (fun k _ hk => ?_))
    · rw [hrole k hk]; omega
    · rw [hk]; omega

theorem RPart.addI {w w1 : World} {ρ : Nat → Nat} {b : Nat} {nv iv v' : Value} {ns : List Nd} {I : List Int} {x : Int} (h : RPart w ρ b nv iv ns I)
    (hU : Upd (fun k => iv.ownBlock = some k) w w1) (hown : w1.ownsRow 0 3 1 v' (I.length + 1) (I.map intv ++ [intv x])) (hat : v'.ownBlock = iv.ownBlock ∨ ∃ g, v'.ownBlock = some g ∧ w.heap.size ≤ g) :
    ∃ ρ', RPart (w1.setCell ⟨b, 1, none⟩ v') ρ' b nv v' ns (I ++ [x]) ∧ Turn ρ ρ' w (w1.setCell ⟨b, 1, none⟩ v') := by
  obtain ⟨h1, h2, h3, h4, h5⟩ := h
  have hbl := lt_of_block h3
  rcases hown.2 with ⟨hv, h0⟩ | ⟨gg, cap, cur, hv, hb0, hg, hn, hc, hs, ht⟩
  · omega
  subst hv
  have hat' : iv.ownBlock = some gg ∨ w.heap.size ≤ gg := by
    rcases hat with hat | ⟨g, q1, q2⟩
    · left; rw [← hat]; rfl
    · simp [Value.ownBlock] at q1; subst q1; exact .inr q2
  have hrole := h5.2
  have hnb : ∀ k, iv.ownBlock = some k → k ≠ b := fun k hk e => by have := hrole k hk; rw [e] at this; omega
  have hgb : gg ≠ b := by
    rcases hat' with q | q
    · exact hnb gg q
    · omega
  have hr' : ∀ k, k < w.heap.size → (if k = gg then 3 else ρ k) = ρ k := fun k hk => by
    split
    · rename_i e; subst e
      rcases hat' with q | q
      · exact (hrole _ q).symm
      · omega
    · rfl
  have hUb : Upd (fun k => k = b) w1 (w1.setCell ⟨b, 1, none⟩ (.slice (some ⟨gg, 0, none⟩) (I.length + 1) cap)) := (Upd.refl (fun k => k = b) w1).setCell (p := ⟨b, 1, none⟩) (.inr rfl) _
  have hUU : Upd (fun k => k = b ∨ iv.ownBlock = some k) w (w1.setCell ⟨b, 1, none⟩ (.slice (some ⟨gg, 0, none⟩) (I.length + 1) cap)) := (hU.mono (fun k _ hk => .inr hk)).trans (hUb.mono (fun k _ hk => .inl hk))
  have hF : ∀ k r, (fun k => if k = gg then 3 else ρ k) k = r → r ≠ 0 → r ≠ 1 → r ≠ 3 → ¬ (k = b ∨ iv.ownBlock = some k) := by
    rintro k r hk q0 q1 q3 (rfl | hf)
    · dsimp only at hk; rw [if_neg (Ne.symm hgb)] at hk; omega
    · dsimp only at hk
      have := hrole k hf
      split at hk <;> omega
  refine ⟨fun k => if k = gg then 3 else ρ k, ⟨fun k hk => ?_, ?_, ?_, ?_, ⟨?_, ?_⟩⟩, ⟨?_, hr'⟩⟩
  · dsimp only at hk
    have hsz : (w1.setCell ⟨b, 1, none⟩ (.slice (some ⟨gg, 0, none⟩) (I.length + 1) cap)).heap.size = w1.heap.size := by simp
    rw [hsz]
    split at hk
    · rename_i e; rw [e]; exact lt_of_block hg
    · exact Nat.lt_of_lt_of_le (h1 k hk) hU.size
  · dsimp only; rw [if_neg (Ne.symm hgb)]; exact h2
  · exact heap_set2' ((hU.block b hbl (fun e => hnb b e rfl)).trans h3)
  · obtain ⟨rows, q1, q2, q3⟩ := h4.role hr'
    exact ⟨rows, q1.upd hUU (fun k hk => hF k _ hk (by omega) (by omega) (by omega)), q2, fun i m hm => by
      obtain ⟨r, p1, p2⟩ := q3 i m hm
      exact ⟨r, p1, p2.upd hUU (fun k hk => by rcases hk with hk | hk <;> exact hF k _ hk (by omega) (by omega) (by omega))⟩⟩
  · have := owns_upd hown hUb (fun k hk e => by simp [Value.ownBlock] at hk; exact hgb (hk.trans e))
    simpa using this
  · intro g hg'
    simp [Value.ownBlock] at hg'
    simp [hg']
  · refine hUU.mono (fun k _ hk => ?_)
    rcases hk with rfl | hk
    · omega
    · rw [hrole k hk]; omega

/-- An inert document is noted. -/
theorem RPart.setI {w : World} {ρ : Nat → Nat} {b ib c : Nat} {nv : Value} {ns : List Nd} {I : List Int} {x : Int} {i : Nat} (h : RPart w ρ b nv (.slice (some ⟨ib, 0, none⟩) I.length c) ns I) :
    RPart (w.setCell ⟨ib, i, none⟩ (.int .i64 x)) ρ b nv (.slice (some ⟨ib, 0, none⟩) I.length c) ns (I.set i x) ∧ Turn ρ ρ w (w.setCell ⟨ib, i, none⟩ (.int .i64 x)) := by
  obtain ⟨h1, h2, h3, h4, h5⟩ := h
  have hib : ρ ib = 3 := h5.2 ib rfl
  have hne : ib ≠ b := fun e => by rw [e] at hib; omega
  have hU : Upd (fun k => k = ib) w (w.setCell ⟨ib, i, none⟩ (.int .i64 x)) := (Upd.refl (fun k => k = ib) w).setCell (p := ⟨ib, i, none⟩) (.inr rfl) _
  refine ⟨⟨fun k hk => by simpa using h1 k hk, h2, by rw [heap_set_other _ _ _ _ (Ne.symm hne)]; exact h3, ?_, ⟨?_, fun g hg => by simp [Value.ownBlock] at hg; rw [← hg]; exact hib⟩⟩, hU.mono (fun k _ hk => by rw [hk]; omega), fun _ _ => rfl⟩
  · obtain ⟨rows, q1, q2, q3⟩ := h4
    have hF : ∀ k, ρ k ≠ 3 → ¬ k = ib := fun k hk e => hk (by rw [e]; exact hib)
    exact ⟨rows, q1.upd hU (fun k hk => hF k (by omega)), q2, fun i m hm => by
      obtain ⟨r, p1, p2⟩ := q3 i m hm
      exact ⟨r, p1, p2.upd hU (fun k hk => hF k (by omega))⟩⟩
  · have := owns_set h5.1 i (.int .i64 x)
    rw [List.length_set, List.map_set]
    exact this

theorem RMem.newRole {w : World} {ρ : Nat → Nat} {b : Nat} {A : Ar} (h : RMem w ρ b A) (g r : Nat) (hg : ρ g = 0) (hlt : g < w.heap.size) : RMem w (fun k => if k = g then r else ρ k) b A := by
  have key : ∀ k r', r' ≠ 0 → ρ k = r' → (if k = g then r else ρ k) = r' := fun k r' hr' hk => by
    rw [if_neg (by intro e; subst e; omega)]; exact hk
  have hown : ∀ {r' e size v n xs}, r' ≠ 0 → ROwn w ρ r' e size v n xs → ROwn w (fun k => if k = g then r else ρ k) r' e size v n xs :=
    fun hr' ho => ⟨ho.1, fun k hk => key k _ hr' (ho.2 k hk)⟩
  obtain ⟨h1, h2, h3, nv, iv, h4, ⟨rows, h5, h6, h7⟩, h8⟩ := h
  refine ⟨fun k hk => ?_, key b 1 (by omega) h2, h3, nv, iv, h4, ⟨rows, hown (by omega) h5, h6, fun i n hn => ?_⟩, hown (by omega) h8⟩
  · dsimp only at hk
    split at hk
    · rename_i e; rw [e]; exact hlt
    · exact h1 k hk
  · obtain ⟨r', hr', kv, av, hrc, hk, ha⟩ := h7 i n hn
    exact ⟨r', hr', kv, av, hrc, hown (by omega) hk, hown (by omega) ha⟩

end Go.Proofs.YtpicinjcmjaogaaGreat

/- Contracts of the document's arena: New, Has, Len, OfDoc, InSpaces, AttrSpaces, IsTemplate. -/
namespace Go.Proofs.YtpicinjcmjaogaaGreat
open Go.RowKit
set_option linter.unusedVariables false

theorem RHas_any (A : Ar) (b : Nat) (a : Option Addr) (c : Nat) (h : Int) (w : World) (h0 : w.cell? ⟨b, 0, none⟩ = some (.slice a (A.ns.length + 1) c)) (hm : (A.ns.length : Int) + 1 ≤ 9223372036854775807) :
    Calls Tryz.prog 64 #[.pointer (some ⟨b, 0, none⟩), .int .i64 h] w fun e w' => e = .returned (.bool (decide (A.has h))) ∧ w = w' := by
  by_cases h1 : 0 < h
  · go_enter Tryz.func64, Tryz.ntmps64
    go_wp2
    go_ret
    exact ⟨ret_bool (decide_eq_decide.2 ⟨fun q => ⟨by omega, by unfold Ar.n; omega⟩, fun q => by have := q.2; unfold Ar.n at this; omega⟩), rfl⟩
  · go_enter Tryz.func64, Tryz.ntmps64
    go_wp2
    go_ret
    exact ⟨ret_bool (decide_eq_false (fun hc => by have := hc.1; omega)).symm, rfl⟩

theorem RLen_any (A : Ar) (b : Nat) (a : Option Addr) (c : Nat) (w : World) (h0 : w.cell? ⟨b, 0, none⟩ = some (.slice a (A.ns.length + 1) c)) (hm : (A.ns.length : Int) + 1 ≤ 9223372036854775807) :
    Calls Tryz.prog 96 #[.pointer (some ⟨b, 0, none⟩)] w fun e w' => e = .returned (.int .i64 A.ns.length) ∧ w = w' := by
  go_enter Tryz.func96, Tryz.ntmps96
  go_wp2
  go_ret
  exact ⟨ret_int (by omega), rfl⟩

theorem ROfDoc_any (A : Ar) (ρ : Nat → Nat) (b : Nat) (d : Int) (w : World) (hA : RMem w ρ b A) :
    Calls Tryz.prog 93 #[.pointer (some ⟨b, 0, none⟩), .int .i64 d] w fun e w' => e = .returned (.int .i64 (A.ofDoc d)) ∧ w = w' := by
  obtain ⟨nb, c, ib, ic, h0, h1, hf, hlt, hm, hc, -, -, -, -, -, -, -, -, -, hN⟩ := hA.head
  have HH := Lib.hid (fun W h0' => RHas_any A b (some ⟨nb, 0, none⟩) c d W h0' hm)
  by_cases hh : A.has d
  · obtain ⟨kv, av, F, -, -⟩ := hN d hh
    have c0 := F.c0
    have hp := hh.1; have hq := hh.2; unfold Ar.n at hq
    have hd : decide (A.has d) = true := by simp [hh]
    have hdn : d.toNat * 13 = d.toNat * 13 := rfl
    by_cases hk : (A.get d).kind = 1
    · have hk1 : ((A.get d).kind != 1) = false := by simp [hk]
      have Hfin := Lib.hid (show A.ofDoc d = 0 by simp [Ar.ofDoc, hh, hk])
      clear hk F hN hh
      go_enter Tryz.func93, Tryz.ntmps93
      go_wp2_with fail
      refine (HH.out _ h0).mono ?_
      rintro e w' ⟨rfl, rfl⟩
      rw [hd]
      go_wp2
      go_ret
      exact ⟨ret_int Hfin.out.symm, rfl⟩
    · have hk1 : ((A.get d).kind != 1) = true := by simp [hk]
      have Hfin := Lib.hid (show A.ofDoc d = 9 by simp [Ar.ofDoc, hh, hk])
      clear hk F hN hh
      go_enter Tryz.func93, Tryz.ntmps93
      go_wp2_with fail
      refine (HH.out _ h0).mono ?_
      rintro e w' ⟨rfl, rfl⟩
      rw [hd]
      go_wp2
      go_ret
      exact ⟨ret_int Hfin.out.symm, rfl⟩
  · have hd : decide (A.has d) = false := by simp [hh]
    have Hfin := Lib.hid (show A.ofDoc d = 3 by simp [Ar.ofDoc, hh])
    clear hN hh
    go_enter Tryz.func93, Tryz.ntmps93
    go_wp2_with fail
    refine (HH.out _ h0).mono ?_
    rintro e w' ⟨rfl, rfl⟩
    rw [hd]
    go_wp2
    go_ret
    exact ⟨ret_int Hfin.out.symm, rfl⟩

theorem InSpaces_any (s : Int) (w : World) :
    Calls Tryz.prog 103 #[.int .i64 s] w fun e w' => e = .returned (.bool (decide (inSpaces s))) ∧ w = w' := by
  by_cases h0 : 0 ≤ s
  · go_enter Tryz.func103, Tryz.ntmps103
    go_wp2
    go_ret
    exact ⟨ret_bool (by rw [Bool.eq_iff_iff]; simp [inSpaces, h0]), rfl⟩
  · go_enter Tryz.func103, Tryz.ntmps103
    go_wp2
    go_ret
    exact ⟨ret_bool (decide_eq_false (fun h => by have := h.1; omega)).symm, rfl⟩

theorem AttrSpaces_any (v : Value) (l : List AttrD) (w : World) (hv : RAttrs w v l) :
    Calls Tryz.prog 104 #[v] w fun e w' => e = .returned (.bool (decide (attrSpaces l))) ∧ w = w' := by
  have HV := Lib.hid hv
  obtain ⟨a, c, rfl, hc1, hc2, -⟩ := hv.form
  clear hv
  go_enter Tryz.func104, Tryz.ntmps104
  go_wp2
  go_loop [3] (fun i => ∃ k : Nat, k ≤ l.length ∧ i = .int .i64 k ∧ Hid (∀ j x, j < k → l[j]? = some x → inSpaces x.1)) (fun i => l.length - (intOf i).toNat)
  case atStart => exact ⟨0, Nat.zero_le _, rfl, fun j x hj => by omega⟩
  case round =>
    obtain ⟨k, hk, rfl, hT⟩ := hrel
    by_cases hlt : k < l.length
    · obtain ⟨b1, o1, rfl, -, hcs⟩ := HV.out.cells (by omega)
      obtain ⟨x, hx⟩ : ∃ x, l[k]? = some x := ⟨_, List.getElem?_eq_getElem hlt⟩
      obtain ⟨d0, -, -⟩ := hcs k x hx
      have HX := Lib.hid hx
      clear hcs hx
      go_wp2_with fail
      refine (InSpaces_any x.1 _).mono ?_
      rintro e w' ⟨rfl, rfl⟩
      by_cases hs : inSpaces x.1
      · have hd : decide (inSpaces x.1) = true := decide_eq_true hs
        rw [hd]
        have HSS := Lib.hid hs
        clear hs hd
        go_wp2
        go_round
        case rel => exact ⟨k + 1, hlt, by go_num, fun j y hj hy => by
          by_cases hjk : j < k
          · exact hT.out j y hjk hy
          · have : j = k := by omega
            rw [this, HX.out] at hy
            simp at hy; rw [← hy]; exact HSS.out⟩
        case measure => simp [intOf]; omega
      · have hd : decide (inSpaces x.1) = false := decide_eq_false hs
        rw [hd]
        have HSS := Lib.hid hs
        clear hs hd
        go_wp2
        go_ret
        exact ⟨ret_bool (decide_eq_false (fun h => HSS.out (h x (List.mem_of_getElem? HX.out)))).symm, rfl⟩
    · go_wp2
      go_ret
      exact ⟨ret_bool (decide_eq_true (fun x hx => by
        obtain ⟨j, hj, rfl⟩ := List.getElem_of_mem hx
        exact hT.out j _ (by omega) (List.getElem?_eq_getElem hj))).symm, rfl⟩

theorem IsTemplate_any (n : Nd) (kv av : Value) (w : World) :
    Calls Tryz.prog 106 #[.agg (n.cells kv av).toArray] w fun e w' => e = .returned (.bool (decide (isTemplate n))) ∧ Below w.heap.size w w' := by
  have F := boxF w n kv av 46
  obtain ⟨x0, x1, x2, x3, x4, x5, x6, x7, x8, x9, x10, x11, x12⟩ := n
  unfold Nd.cells at F ⊢
  dsimp only at F ⊢
  clear F
  go_enter Tryz.func106, Tryz.ntmps106
  go_wp2
  all_goals
    go_ret
    refine ⟨ret_bool ?_, below_alloc _ _⟩
  all_goals first
    | (refine (decide_eq_false (fun h => ?_)).symm; obtain ⟨q0, q1, q2⟩ := h; dsimp only at q0 q1 q2; simp_all; done)
    | (rw [Bool.eq_iff_iff]; simp_all [isTemplate, templateL]; done)

end Go.Proofs.YtpicinjcmjaogaaGreat

/- Contracts of the document's arena: add. -/
namespace Go.Proofs.YtpicinjcmjaogaaGreat
open Go.RowKit
set_option linter.unusedVariables false

/-- What a call on the document's arena leaves. -/
def RAddR (A' : Ar) (ρ : Nat → Nat) (b : Nat) (w : World) (v : Value) (e : Ending) (w' : World) : Prop := e = .returned v ∧ ∃ ρ', RMem w' ρ' b A' ∧ Turn ρ ρ' w w'

set_option maxRecDepth 100000 in
set_option maxHeartbeats 2000000 in
theorem radd_any (A : Ar) (ρ : Nat → Nat) (b : Nat) (n : Nd) (aa : Option Addr) (ac : Nat) (w : World) (hA : RMem w ρ b A) (hsmall : A.ns.length ≤ 1000000) (hkids : n.kids = []) (hav : ROwn w ρ (2 * (A.ns.length + 1) + 5) 132 3 (.slice aa n.attrs.length ac) n.attrs.length (n.attrs.flatMap attrCells)) :
    Calls Tryz.prog 88 #[.pointer (some ⟨b, 0, none⟩), .agg (n.cells (.slice none 0 0) (.slice aa n.attrs.length ac)).toArray] w (RAddR (A.add n) ρ b w (.int .i64 (A.n + 1))) := by
  obtain ⟨i0, hi, hz0, hz1, hz2⟩ := info_parts infoANode
  obtain ⟨j0, hj, hy0, hy1, hy2⟩ := info_parts infoInt
  obtain ⟨hil, nv, iv, hP⟩ := hA.part
  obtain ⟨h1, h2, h4, ⟨rows, ⟨hown, hrole⟩, hN2, hN3⟩, h6⟩ := id hP
  have hlt := lt_of_block h4
  have hne : some b ≠ nv.ownBlock := fun h => by have := hrole b h.symm; omega
  have c0 : w.cell? ⟨b, 0, none⟩ = some nv := by rw [cell_of_row w b _ _ _ _ h4]; rfl
  have f0 : w.frozen? ⟨b, 0, none⟩ = false := frozen_of_row w b _ _ _ h4
  have hone := cellsOneCell n (.slice none 0 0) (.slice aa n.attrs.length ac) rfl rfl
  have hfrom : ∀ (W : World), W.heap[w.heap.size + 1]? = some (.cells (n.cells (.slice none 0 0) (.slice aa n.attrs.length ac)).toArray 46 (0, 0)) → ∀ (j : Nat) (u : Value), (n.cells (.slice none 0 0) (.slice aa n.attrs.length ac))[j]? = some u → W.cell? ((⟨w.heap.size + 1, 0, none⟩ : Addr).add j) = some u := by
    intro W hW j u hu
    rw [Addr.add_mid, Nat.zero_add, cell_of_row W _ _ _ _ _ hW]
    simpa using hu
  have hend : ∀ (w1 : World) (gg cap : Nat), w1.ownsRow 0 46 13 (.slice (some ⟨gg, 0, none⟩) (A.ns.length + 1 + 1) cap) (A.ns.length + 1 + 1) (rows.flatten ++ n.cells (.slice none 0 0) (.slice aa n.attrs.length ac)) →
      (((w.alloc (.cells (n.cells (.slice none 0 0) (.slice aa n.attrs.length ac)).toArray 46)).alloc (.cells (n.cells (.slice none 0 0) (.slice aa n.attrs.length ac)).toArray 46)).drew).grownBy w1 nv.ownBlock → (nv.ownBlock = some gg ∨ gg = w.heap.size + 2) →
      ∃ ρ', RPart (w1.setCell ⟨b, 0, none⟩ (.slice (some ⟨gg, 0, none⟩) (A.ns.length + 1 + 1) cap)) ρ' b (.slice (some ⟨gg, 0, none⟩) (A.ns.length + 1 + 1) cap) iv ((zeroNd :: A.ns) ++ [n]) A.inert ∧ Turn ρ ρ' w (w1.setCell ⟨b, 0, none⟩ (.slice (some ⟨gg, 0, none⟩) (A.ns.length + 1 + 1) cap)) := by
    intro w1 gg cap ho hg hat
    refine hP.addN hN2 hN3 hkids (by simpa using hav) hrole ?_ (by simpa using ho) ?_
    · exact ((((Upd.refl _ w).alloc _).alloc _).drew).trans (Upd.grown hg (fun k hk => hk))
    · rcases hat with hat | hat
      · exact .inl (by rw [hat]; rfl)
      · exact .inr ⟨gg, rfl, by omega⟩
  have HFROM := Lib.hid hfrom
  have HONE := Lib.hid hone
  have HOWN := Lib.hid hown
  have HI := Lib.hid hi
  have HJ := Lib.hid hj
  have HEND := Lib.hid hend
  have HIL := Lib.hid hil
  clear hend hfrom hone hN2 hN3 hrole h6 h1 h2 hown hi hj hkids hav hP hil hA
  unfold Nd.cells
  go_enter Tryz.func88, Tryz.ntmps88
  go_wp2_with fail
  go_region_law (first
    | (refine step_append_lies _ (by rfl) _ _ 60 (by rfl) 0 46 i0 _ 13 168 Tryz.underlying60 HI.out hz0 hz1 hz2 rfl (by omega) nv (A.ns.length + 1) rows.flatten (by rfl) ?_ ⟨w.heap.size + 1, 0, none⟩ 1 1 (n.cells (.slice none 0 0) (.slice aa n.attrs.length ac)) (by rfl) (by rfl) (HFROM.out _ (heap_alloc2_new w _ _)) HONE.out (by omega) (by unfold maxLen; omega) (by omega) (by omega) (w.heap.size + 2) (by simp) ?_
       · exact ((HOWN.out.alloc _).alloc _).drew
       intro gg cap w1 hown1 hgrow hat hlt1
       have gb : w1.heap[b]? = some (.cells #[nv, iv] 112 (0, 0)) := (hgrow.block b (by simp; omega) hne).trans ((Below.heap_alloc _ _ b (by simp; omega)).trans ((Below.heap_alloc _ _ b hlt).trans h4))
       have g0 : w1.cell? ⟨b, 0, none⟩ = some nv := by rw [cell_of_row w1 b _ _ _ _ gb]; rfl
       have gf : w1.frozen? ⟨b, 0, none⟩ = false := frozen_of_row w1 b _ _ _ gb))
  all_goals
    obtain ⟨ρ1, hP1, hT1⟩ := HEND.out w1 gg cap hown1 hgrow hat
    generalize hw2 : World.setCell w1 _ _ = w2 at hP1 hT1 ⊢
    clear hw2 hown1 hgrow hat gb g0 gf c0 f0 h4
    obtain ⟨p1, p2, p4, -, p6⟩ := id hP1
    have HP1 := Lib.hid hP1
    have hbl := lt_of_block p4
    have hbne : some b ≠ iv.ownBlock := fun h => by have := p6.2 b h.symm; omega
    have d0 : w2.cell? ⟨b, 0, none⟩ = some (.slice (some ⟨gg, 0, none⟩) (A.ns.length + 1 + 1) cap) := by rw [cell_of_row w2 b _ _ _ _ p4]; rfl
    have d1 : w2.cell? ⟨b, 1, none⟩ = some iv := by rw [cell_of_row w2 b _ _ _ _ p4]; rfl
    have HOW := Lib.hid p6.1
    have H4 := Lib.hid p4
    have hil : A.inert.length ≤ 1000001 := by have := HIL.out; omega
    clear p1 p2 p4 p6 hP1
    go_wp2_with (at_builtin; refine wpList_append_own_at _ rfl _ _ 41 rfl 0 3 j0 _ 1 8 Tryz.underlying41 HJ.out hy0 hy1 hy2 rfl (by decide) _ _ _ rfl (HOW.out.alloc _) ⟨w2.heap.size, 0, none⟩ 1 1 [intv 0] rfl rfl ?_ ?_ ?_ ?_ ?_ ?_)
    · intro j u hj; rw [Addr.add_mid, Nat.zero_add]; exact cell_new' rfl (by simpa [intv] using hj)
    · intro u hu; simp at hu; subst hu; rfl
    · unfold maxLen; omega
    · omega
    · simp
    intro v3 w3 hown3 hgrow3 _ hat3
    obtain ⟨va3, vc3, rfl⟩ := ownsForm hown3
    have gb3 : w3.heap[b]? = some (.cells #[.slice (some ⟨gg, 0, none⟩) (A.ns.length + 1 + 1) cap, iv] 112 (0, 0)) := (hgrow3.block b (by simp; omega) hbne).trans ((Below.heap_alloc _ _ b hbl).trans H4.out)
    have g30 : w3.cell? ⟨b, 0, none⟩ = some (.slice (some ⟨gg, 0, none⟩) (A.ns.length + 1 + 1) cap) := by rw [cell_of_row w3 b _ _ _ _ gb3]; rfl
    have g31 : w3.cell? ⟨b, 1, none⟩ = some iv := by rw [cell_of_row w3 b _ _ _ _ gb3]; rfl
    have g3f : w3.frozen? ⟨b, 1, none⟩ = false := frozen_of_row w3 b _ _ _ gb3
    obtain ⟨ρ2, hP2, hT2⟩ := HP1.out.addI (w1 := w3) (v' := .slice va3 (A.inert.length + 1) vc3) (x := 0) (((Upd.refl _ w2).alloc _).trans (Upd.grown hgrow3 (fun k hk => hk))) hown3 (hat3.imp id (fun h => ⟨_, h, by simp⟩))
    have HF := Lib.hid (And.intro (hP2.mem (A := A.add n) (by simp [Ar.add, HIL.out])) (hT1.trans hT2))
    clear hP2 hT2 hown3 hgrow3 hat3 gb3 H4 HOW HP1 hT1 d0 d1
    go_wp2
    go_ret
    exact ⟨ret_int (by unfold Ar.n; omega), ρ2, HF.out.1, HF.out.2⟩

end Go.Proofs.YtpicinjcmjaogaaGreat
