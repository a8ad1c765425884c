/-
  Contracts of the program's arena: the calls that set a field.
-/
import Derived.Test.YtnfdcfagdidmhaaP6
namespace Go.Proofs.Ytnfdcfagdidmhaa
open Go.RowKit

theorem ofDoc_has {A : Ar} {d : Int} (h : A.ofDoc d = 0) : A.has d := by
  unfold Ar.ofDoc at h
  by_cases hh : A.has d
  · exact hh
  · rw [if_pos hh] at h; exact absurd h (by decide)
theorem ofDoc_kind {A : Ar} {d : Int} (h : A.ofDoc d = 0) : (A.get d).kind = 1 := by
  have hh := ofDoc_has h
  unfold Ar.ofDoc at h
  rw [if_neg (fun hn => hn hh)] at h
  by_cases hk : (A.get d).kind = 1
  · exact hk
  · rw [if_pos hk] at h; exact absurd h (by decide)

/-- A plain store into a field of a node that is no list. -/
theorem AMem.field {w : World} {ρ : Nat → Nat} {b : Nat} {A : Ar} {x : Int} {f : Nd → Nd} {j nb c o : Nat} {v : Value} (hA : AMem w ρ b A) (hx : A.has x)
    (hc0 : w.cell? ⟨b, 0, none⟩ = some (.slice (some ⟨nb, 0, none⟩) A.ns.length c)) (ho : o = (x.toNat - 1) * 13) (hj : j < 13)
    (hf : ∀ kv av, (f (A.get x)).cells kv av = ((A.get x).cells kv av).set j v) (hk : (f (A.get x)).kids = (A.get x).kids) (ha : (f (A.get x)).attrs = (A.get x).attrs) :
    AMem (w.setCell ⟨nb, o + j, none⟩ v) ρ b (A.mod x f) := by
  subst ho
  exact hA.store hx hc0 (Upd.refl _ _) (fun _ _ => rfl) hA.1 hj (fun kv av h1 h2 _ _ => ⟨kv, av, (hf kv av).symm, by rw [hk]; exact h1, by rw [ha]; exact h2⟩)

theorem Turn.set {w : World} {ρ : Nat → Nat} {a : Addr} (h : ρ a.block ≠ 0) (v : Value) : Turn ρ ρ w (w.setCell a v) := ⟨(Upd.refl (fun k => ρ k ≠ 0) w).setCell (.inr h) v, fun _ _ => rfl⟩

theorem SetQuirks_any (A : Ar) (ρ : Nat → Nat) (b : Nat) (h : Int) (q : Bool) (w : World) (hA : AMem w ρ b A) :
    Calls Try.prog 83 #[.pointer (some ⟨b, 0, none⟩), .int .i64 h, .bool q] w (AddR (A.setQuirks h q).2 ρ b w (.int .i64 (A.setQuirks h q).1)) := by
  have HD := Lib.hid (document_any A ρ b h w hA)
  by_cases he : A.ofDoc h = 0
  · have hh := ofDoc_has he
    have hfin : A.setQuirks h q = (0, A.mod h (fun x => { x with quirks := q })) := by
      simp [Ar.setQuirks, hh, ofDoc_kind he]
    rw [hfin]
    go_enter Try.func83, Try.ntmps83
    go_wp2_with fail
    refine HD.out.mono ?_
    rintro e w1 ⟨rfl, hB⟩
    rw [he]
    have hA1 := hA.below hB
    obtain ⟨a1, c1, mv1, h01, -, hf1, hlt1, hm1, hN1⟩ := hA1.head
    have hp := hh.1; have hq := hh.2; unfold Ar.n at hq
    obtain ⟨nb, rfl, hr1, hnb, hfn, hNx⟩ := hN1 (by omega)
    obtain ⟨kv, av, F, -, -⟩ := hNx h hh
    have c10 := F.c10
    have f10 := hfn ((h.toNat - 1) * 13 + 10)
    go_wp2_with fail
    refine (at_any b nb _ c1 h _ h01 hp hq hm1).mono ?_
    rintro e w2 ⟨rfl, rfl⟩
    generalize ho : (h.toNat - 1) * 13 = o at *
    have HO := Lib.hid ho
    clear ho
    go_wp2
    go_ret
    exact ⟨rfl, ρ, hA1.field hh h01 HO.out.symm (j := 10) (by omega) (fun _ _ => rfl) rfl rfl, (Turn.below hB).trans (Turn.set (by dsimp only; omega) _)⟩
  · have hfin : A.setQuirks h q = (A.ofDoc h, A) := by
      unfold Ar.ofDoc at he ⊢
      unfold Ar.setQuirks
      by_cases hh : A.has h
      · simp only [hh, not_true_eq_false, if_false] at he ⊢
        by_cases hk : (A.get h).kind = 1
        · simp [hk] at he
        · simp [hk]
      · simp [hh]
    have he1 : (A.ofDoc h != 0) = true := by simp [he]
    rw [hfin]
    go_enter Try.func83, Try.ntmps83
    go_wp2_with fail
    refine HD.out.mono ?_
    rintro e w1 ⟨rfl, hB⟩
    go_wp2
    go_ret
    exact ⟨rfl, ρ, hA.below hB, Turn.below hB⟩

theorem SetData_any (A : Ar) (ρ : Nat → Nat) (b : Nat) (h : Int) (s : ByteArray) (w : World) (hA : AMem w ρ b A) :
    Calls Try.prog 82 #[.pointer (some ⟨b, 0, none⟩), .int .i64 h, .string s] w (AddR (A.setData h s).2 ρ b w (.int .i64 (A.setData h s).1)) := by
  obtain ⟨a, c, mv, h0, h1, hf, hlt, hm, hN⟩ := hA.head
  have hA0 := hA.below (below_alloc w (.cells #[.int .i64 h] 3))
  have h0' := Below.old (below_alloc w (.cells #[.int .i64 h] 3)) h0
  have hB0 := below_alloc w (.cells #[.int .i64 h] 3)
  by_cases hh : A.has h
  · have hp := hh.1; have hq := hh.2; unfold Ar.n at hq
    obtain ⟨nb, rfl, hr, hnb, hfn, hNx⟩ := hN (by omega)
    obtain ⟨kv, av, F, -, -⟩ := hNx h hh
    have c0 := Below.old hB0 F.c0
    have c7 := Below.old hB0 F.c7
    have f7 : (w.alloc (.cells #[.int .i64 h] 3)).frozen? ⟨nb, (h.toNat - 1) * 13 + 7, none⟩ = false := (Below.frozen hB0 hnb).trans (hfn _)
    have hck : checkL A [h] = 0 := by simp [checkL, hh]
    by_cases hk : (A.get h).kind = 5 ∨ (A.get h).kind = 6
    · have hfin : A.setData h s = (0, A.mod h (fun x => { x with data := s })) := by simp [Ar.setData, hh, hk]
      rw [hfin]
      have HR : AMem ((w.alloc (.cells #[.int .i64 h] 3)).setCell ⟨nb, (h.toNat - 1) * 13 + 7, none⟩ (.string s)) ρ b (A.mod h (fun x => { x with data := s })) :=
        hA0.field hh h0' rfl (j := 7) (by omega) (fun _ _ => rfl) rfl rfl
      have HT : Turn ρ ρ w ((w.alloc (.cells #[.int .i64 h] 3)).setCell ⟨nb, (h.toNat - 1) * 13 + 7, none⟩ (.string s)) := (Turn.below hB0).trans (Turn.set (by dsimp only; omega) _)
      rw [World.setCell_alloc_past _ _ _ _ hnb] at HR HT
      have HE := Lib.hid (And.intro HR HT)
      clear HR HT hfin F hNx hN hfn
      generalize ho : (h.toNat - 1) * 13 = o at *
      have HO := Lib.hid ho
      clear ho
      rcases hk with hk | hk
      all_goals
        rw [hk] at c0
        clear hk
        go_enter Try.func82, Try.ntmps82
        go_wp2_with fail
        refine (check_any A b _ c _ [h] _ h0' (RInts_new1 _ _ _)).mono ?_
        rintro e w' ⟨rfl, rfl⟩
        rw [hck]
        go_wp2_with fail
        refine (at_any b nb _ c h _ h0' hp hq hm).mono ?_
        rintro e w2 ⟨rfl, rfl⟩
        rw [HO.out]
        go_wp2
        go_ret
        exact ⟨rfl, ρ, HE.out.1, HE.out.2⟩
    · have hfin : A.setData h s = (9, A) := by simp [Ar.setData, hh, hk]
      rw [hfin]
      have k1 : ((A.get h).kind != 5) = true := by simp; exact fun e => hk (.inl e)
      have k2 : ((A.get h).kind != 6) = true := by simp; exact fun e => hk (.inr e)
      clear hfin hk F hNx hN hfn c7 f7
      go_enter Try.func82, Try.ntmps82
      go_wp2_with fail
      refine (check_any A b _ c _ [h] _ h0' (RInts_new1 _ _ _)).mono ?_
      rintro e w' ⟨rfl, rfl⟩
      rw [hck]
      go_wp2_with fail
      refine (at_any b nb _ c h _ h0' hp hq hm).mono ?_
      rintro e w2 ⟨rfl, rfl⟩
      go_wp2
      go_ret
      exact ⟨rfl, ρ, hA0, Turn.below hB0⟩
  · have hfin : A.setData h s = (3, A) := by simp [Ar.setData, hh]
    have hck : checkL A [h] = 3 := by simp [checkL, hh]
    rw [hfin]
    clear hfin hN hh
    go_enter Try.func82, Try.ntmps82
    go_wp2_with fail
    refine (check_any A b _ c _ [h] _ h0' (RInts_new1 _ _ _)).mono ?_
    rintro e w' ⟨rfl, rfl⟩
    rw [hck]
    go_wp2
    go_ret
    exact ⟨rfl, ρ, hA0, Turn.below hB0⟩

theorem SetDoc_any (A : Ar) (ρ : Nat → Nat) (b : Nat) (h d : Int) (w : World) (hA : AMem w ρ b A) :
    Calls Try.prog 84 #[.pointer (some ⟨b, 0, none⟩), .int .i64 h, .int .i64 d] w (AddR (A.setDoc h d).2 ρ b w (.int .i64 (A.setDoc h d).1)) := by
  obtain ⟨a, c, mv, h0, h1, hf, hlt, hm, hN⟩ := hA.head
  have hA0 := hA.below (below_alloc w (.cells #[.int .i64 h, .int .i64 d] 3))
  have h0' := Below.old (below_alloc w (.cells #[.int .i64 h, .int .i64 d] 3)) h0
  have hB0 := below_alloc w (.cells #[.int .i64 h, .int .i64 d] 3)
  by_cases hh : A.has h ∧ A.has d
  · obtain ⟨hh, hd⟩ := hh
    have hp := hh.1; have hq := hh.2; have hp2 := hd.1; have hq2 := hd.2; unfold Ar.n at hq hq2
    obtain ⟨nb, rfl, hr, hnb, hfn, hNx⟩ := hN (by omega)
    obtain ⟨kv, av, F, -, -⟩ := hNx h hh
    obtain ⟨kv2, av2, F2, -, -⟩ := hNx d hd
    have c0 := Below.old hB0 F.c0
    have c3 := Below.old hB0 F.c3
    have d0 := Below.old hB0 F2.c0
    have f3 : (w.alloc (.cells #[.int .i64 h, .int .i64 d] 3)).frozen? ⟨nb, (h.toNat - 1) * 13 + 3, none⟩ = false := (Below.frozen hB0 hnb).trans (hfn _)
    have hck : checkL A [h, d] = 0 := by simp [checkL, hh, hd]
    generalize hw0 : w.alloc _ = w0 at *
    by_cases hk : (A.get h).kind = 1
    · have hfin : A.setDoc h d = (9, A) := by simp [Ar.setDoc, hh, hd, hk]
      rw [hfin]
      have k1 : ((A.get h).kind == 1) = true := by simp [hk]
      have HW := Lib.hid hw0
      clear hfin hk F hNx hN hfn c3 f3 F2 hw0
      go_enter Try.func84, Try.ntmps84
      go_wp2_with fail
      rw [HW.out]
      refine (check_any A b _ c _ [h, d] _ h0' (by rw [← HW.out]; exact RInts_new2 _ _ _ _)).mono ?_
      rintro e w' ⟨rfl, rfl⟩
      rw [hck]
      go_wp2_with fail
      refine (at_any b nb _ c h _ h0' hp hq hm).mono ?_
      rintro e w2 ⟨rfl, rfl⟩
      go_wp2
      go_ret
      exact ⟨rfl, ρ, hA0, Turn.below hB0⟩
    · have k1 : ((A.get h).kind == 1) = false := by simp [hk]
      by_cases hk2 : (A.get d).kind = 1
      · have hfin : A.setDoc h d = (0, A.mod h (fun x => { x with doc := d })) := by simp [Ar.setDoc, hh, hd, hk, hk2]
        rw [hfin]
        have k2 : ((A.get d).kind != 1) = false := by simp [hk2]
        have HR : AMem (w0.setCell ⟨nb, (h.toNat - 1) * 13 + 3, none⟩ (.int .i64 d)) ρ b (A.mod h (fun x => { x with doc := d })) :=
          hA0.field hh h0' rfl (j := 3) (by omega) (fun _ _ => rfl) rfl rfl
        have HT : Turn ρ ρ w (w0.setCell ⟨nb, (h.toNat - 1) * 13 + 3, none⟩ (.int .i64 d)) := (Turn.below hB0).trans (Turn.set (by dsimp only; omega) _)
        have HE := Lib.hid (And.intro HR HT)
        have HW := Lib.hid hw0
        clear hfin hk hk2 F hNx hN hfn F2 HR HT hw0
        go_enter Try.func84, Try.ntmps84
        go_wp2_with fail
        rw [HW.out]
        refine (check_any A b _ c _ [h, d] _ h0' (by rw [← HW.out]; exact RInts_new2 _ _ _ _)).mono ?_
        rintro e w' ⟨rfl, rfl⟩
        rw [hck]
        go_wp2_with fail
        refine (at_any b nb _ c h _ h0' hp hq hm).mono ?_
        rintro e w2 ⟨rfl, rfl⟩
        go_wp2_with fail
        refine (at_any b nb _ c d _ h0' hp2 hq2 hm).mono ?_
        rintro e w2 ⟨rfl, rfl⟩
        go_wp2_with fail
        refine (at_any b nb _ c h _ h0' hp hq hm).mono ?_
        rintro e w2 ⟨rfl, rfl⟩
        go_wp2
        go_ret
        exact ⟨rfl, ρ, HE.out.1, HE.out.2⟩
      · have hfin : A.setDoc h d = (9, A) := by simp [Ar.setDoc, hh, hd, hk2]
        rw [hfin]
        have k2 : ((A.get d).kind != 1) = true := by simp [hk2]
        have HW := Lib.hid hw0
        clear hfin hk hk2 F hNx hN hfn F2 c3 f3 hw0
        go_enter Try.func84, Try.ntmps84
        go_wp2_with fail
        rw [HW.out]
        refine (check_any A b _ c _ [h, d] _ h0' (by rw [← HW.out]; exact RInts_new2 _ _ _ _)).mono ?_
        rintro e w' ⟨rfl, rfl⟩
        rw [hck]
        go_wp2_with fail
        refine (at_any b nb _ c h _ h0' hp hq hm).mono ?_
        rintro e w2 ⟨rfl, rfl⟩
        go_wp2_with fail
        refine (at_any b nb _ c d _ h0' hp2 hq2 hm).mono ?_
        rintro e w2 ⟨rfl, rfl⟩
        go_wp2
        go_ret
        exact ⟨rfl, ρ, hA0, Turn.below hB0⟩
  · have hfin : A.setDoc h d = (3, A) := by
      have : ¬ A.has h ∨ ¬ A.has d := by
        by_cases q : A.has h
        · exact .inr (fun r => hh ⟨q, r⟩)
        · exact .inl q
      simp [Ar.setDoc, this]
    have hck : checkL A [h, d] = 3 := by simp [checkL]; exact fun q r => hh ⟨q, r⟩
    rw [hfin]
    clear hfin hN hh
    go_enter Try.func84, Try.ntmps84
    go_wp2_with fail
    refine (check_any A b _ c _ [h, d] _ h0' (RInts_new2 _ _ _ _)).mono ?_
    rintro e w' ⟨rfl, rfl⟩
    rw [hck]
    go_wp2
    go_ret
    exact ⟨rfl, ρ, hA0, Turn.below hB0⟩

theorem roleNew {w w1 : World} {ρ : Nat → Nat} {b : Nat} {A : Ar} {v : Value} {e : TypeId} {size n r : Nat} {xs : List Value} (hA : AMem w ρ b A) (hB : Below w.heap.size w w1) (ho : w1.ownsRow w.heap.size e size v n xs) :
    ∃ ρ', AMem w1 ρ' b A ∧ (∀ k, k < w.heap.size → ρ' k = ρ k) ∧ ROwn w1 ρ' r e size v n xs ∧ ∀ k, ρ' k ≠ 0 → k < w1.heap.size := by
  have hA1 := hA.below hB
  cases hv : v.ownBlock with
  | none => exact ⟨ρ, hA1, fun _ _ => rfl, ⟨owns_base ho (Nat.zero_le _), fun g hg => by rw [hv] at hg; cases hg⟩, hA1.1⟩
  | some g =>
    obtain ⟨h1, h2⟩ := owns_block ho g hv
    have h0 : ρ g = 0 := by
      by_cases h : ρ g = 0
      · exact h
      · have := hA.1 g h; omega
    have hn := hA1.newRole g r h0 h2
    exact ⟨_, hn, fun k hk => by rw [if_neg (by omega)], ⟨owns_base ho (Nat.zero_le _), fun g' hg' => by rw [hv] at hg'; cases hg'; simp⟩, hn.1⟩

end Go.Proofs.Ytnfdcfagdidmhaa
