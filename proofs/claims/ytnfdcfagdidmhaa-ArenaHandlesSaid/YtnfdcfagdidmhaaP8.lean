/-
  Contracts of the program's arena: SetAttrs.
-/
import Derived.Test.YtnfdcfagdidmhaaP7
namespace Go.Proofs.Ytnfdcfagdidmhaa
open Go.RowKit

theorem ownsForm {w : World} {base : Nat} {e : TypeId} {size : Nat} {v : Value} {n : Nat} {xs : List Value} (h : w.ownsRow base e size v n xs) : ∃ a c, v = .slice a n c := by
  rcases h.2 with ⟨rfl, rfl⟩ | ⟨g, cap, cur, rfl, _⟩
  · exact ⟨_, _, rfl⟩
  · exact ⟨_, _, rfl⟩

set_option maxHeartbeats 400000 in
theorem SetAttrs_any (A : Ar) (ρ : Nat → Nat) (b : Nat) (h : Int) (v : Value) (l : List AttrD) (w : World) (hA : AMem w ρ b A) (hv : RAttrs w v l) (hsmall : l.length ≤ 1000000) :
    Calls Try.prog 30 #[.pointer (some ⟨b, 0, none⟩), .int .i64 h, v] w (AddR (A.setAttrs h l).2 ρ b w (.int .i64 (A.setAttrs h l).1)) := by
  obtain ⟨a, c, mv, h0, h1, hf, hlt, hm, hN⟩ := hA.head
  have hA0 := hA.below (below_alloc w (.cells #[.int .i64 h] 3))
  have h0' := Below.old (below_alloc w (.cells #[.int .i64 h] 3)) h0
  have hB0 := below_alloc w (.cells #[.int .i64 h] 3)
  have hv0 := hv.below hB0
  by_cases hh : A.has h
  · have hp := hh.1; have hq := hh.2; unfold Ar.n at hq
    obtain ⟨nb, rfl, hr, hnb, hfn, hNx⟩ := hN (by omega)
    obtain ⟨kv, av, F, -, -⟩ := hNx h hh
    have c0 := Below.old hB0 F.c0
    have c6 := Below.old hB0 F.c6
    have f6 : (w.alloc (.cells #[.int .i64 h] 3)).frozen? ⟨nb, (h.toNat - 1) * 13 + 6, none⟩ = false := (Below.frozen hB0 hnb).trans (hfn _)
    have hck : checkL A [h] = 0 := by simp [checkL, hh]
    have hnb0 : nb < (w.alloc (.cells #[.int .i64 h] 3)).heap.size := by simp; omega
    generalize hw0 : w.alloc _ = w0 at *
    have HW := Lib.hid hw0
    clear hw0
    by_cases hk : (A.get h).kind = 4
    · have k1 : ((A.get h).kind != 4) = false := by simp [hk]
      have HO := Lib.hid (once_any v l w0 hv0 hsmall)
      by_cases hs : attrSpaces l
      · have hfin : A.setAttrs h l = (0, A.mod h (fun x => { x with attrs := onceL l })) := by simp [Ar.setAttrs, hh, hk, hs]
        rw [hfin]
        have HS := Lib.hid hs
        clear hfin hk F hNx hN hfn hs
        go_enter Try.func30, Try.ntmps30
        go_wp2_with fail
        rw [HW.out]
        refine (check_any A b _ c _ [h] _ h0' (by rw [← HW.out]; exact RInts_new1 _ _ _)).mono ?_
        rintro e w' ⟨rfl, rfl⟩
        rw [hck]
        go_wp2_with fail
        refine (at_any b nb _ c h _ h0' hp hq hm).mono ?_
        rintro e w2 ⟨rfl, rfl⟩
        generalize ho : (h.toNat - 1) * 13 = o at *
        have HOO := Lib.hid ho
        clear ho
        go_wp2_with fail
        refine HO.out.mono ?_
        rintro e w3 ⟨hB3, hyes, -⟩
        obtain ⟨av', rfl, hown⟩ := hyes HS.out
        have c6 := Below.old hB3 c6
        have f6 : w3.frozen? ⟨nb, o + 6, none⟩ = false := (Below.frozen hB3 hnb0).trans f6
        obtain ⟨ρ', hA3, hr3, hown3, hb3⟩ := roleNew (r := 2 * (h.toNat - 1) + 5) hA0 hB3 hown
        have h03 := Below.old hB3 h0'
        obtain ⟨a', c', rfl⟩ := ownsForm hown
        have HE : AMem (w3.setCell ⟨nb, (h.toNat - 1) * 13 + 6, none⟩ (.slice a' (onceL l).length c')) ρ' b (A.mod h (fun x => { x with attrs := onceL l })) :=
          hA3.store hh h03 (Upd.refl _ _) (fun _ _ => rfl) hb3 (j := 6) (by omega) (fun kv av hk ha _ _ => ⟨kv, _, rfl, hk, hown3⟩)
        rw [HOO.out] at HE
        have hrnb : ρ' nb = 2 := (hr3 nb hnb0).trans hr
        have HT : Turn ρ ρ' w (w3.setCell ⟨nb, o + 6, none⟩ (.slice a' (onceL l).length c')) := by
          have t1 : Turn ρ ρ' w w3 := ⟨(Upd.below hB0).trans ((Upd.below hB3).mono (fun _ _ h => h)), fun k hk => hr3 k (Nat.lt_of_lt_of_le hk hB0.size)⟩
          exact t1.trans (Turn.set (by dsimp only; omega) _)
        have HF := Lib.hid (And.intro HE HT)
        clear HE HT hown hown3 hyes
        go_wp2
        go_ret
        exact ⟨rfl, ρ', HF.out.1, HF.out.2⟩
      · have hfin : A.setAttrs h l = (2, A) := by simp [Ar.setAttrs, hh, hk, hs]
        rw [hfin]
        have HS := Lib.hid hs
        clear hfin hk F hNx hN hfn hs
        go_enter Try.func30, Try.ntmps30
        go_wp2_with fail
        rw [HW.out]
        refine (check_any A b _ c _ [h] _ h0' (by rw [← HW.out]; exact RInts_new1 _ _ _)).mono ?_
        rintro e w' ⟨rfl, rfl⟩
        rw [hck]
        go_wp2_with fail
        refine (at_any b nb _ c h _ h0' hp hq hm).mono ?_
        rintro e w2 ⟨rfl, rfl⟩
        go_wp2_with fail
        refine HO.out.mono ?_
        rintro e w3 ⟨hB3, -, hno⟩
        have := hno HS.out
        subst this
        go_wp2
        go_ret
        exact ⟨rfl, ρ, hA0.below hB3, Turn.below (hB0.trans (hB3.mono hB0.size))⟩
    · have hfin : A.setAttrs h l = (9, A) := by simp [Ar.setAttrs, hh, hk]
      rw [hfin]
      have k1 : ((A.get h).kind != 4) = true := by simp [hk]
      clear hfin hk F hNx hN hfn c6 f6
      go_enter Try.func30, Try.ntmps30
      go_wp2_with fail
      rw [HW.out]
      refine (check_any A b _ c _ [h] _ h0' (by rw [← HW.out]; exact RInts_new1 _ _ _)).mono ?_
      rintro e w' ⟨rfl, rfl⟩
      rw [hck]
      go_wp2_with fail
      refine (at_any b nb _ c h _ h0' hp hq hm).mono ?_
      rintro e w2 ⟨rfl, rfl⟩
      go_wp2
      go_ret
      exact ⟨rfl, ρ, hA0, Turn.below hB0⟩
  · have hfin : A.setAttrs h l = (3, A) := by simp [Ar.setAttrs, hh]
    have hck : checkL A [h] = 3 := by simp [checkL, hh]
    rw [hfin]
    clear hfin hN hh
    go_enter Try.func30, Try.ntmps30
    go_wp2_with fail
    refine (check_any A b _ c _ [h] _ h0' (RInts_new1 _ _ _)).mono ?_
    rintro e w' ⟨rfl, rfl⟩
    rw [hck]
    go_wp2
    go_ret
    exact ⟨rfl, ρ, hA0, Turn.below hB0⟩

end Go.Proofs.Ytnfdcfagdidmhaa
