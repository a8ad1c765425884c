/-
  The law ArenaCuts: what the calls answer. No program here.
-/
import Derived.Test.YtnfdcfagdidmhaaGreatDoorM1
import Derived.Test.YtnfdcfagdidmhaaGreatDoorQU
namespace Go.Proofs.YtnfdcfagdidmhaaGreatDoor
set_option linter.unusedVariables false

theorem way_same {A A' : Ar} {up up' : Int → Int} : ∀ {l : List Int} {y : Int}, A.Way up y l → (∀ x ∈ l, A'.has x ∧ up' x = up x) → A'.Way up' y l
  | [], _, hw, _ => hw
  | x :: l, y, hw, h => by
    obtain ⟨rfl, h1, h2⟩ := hw
    obtain ⟨h3, h4⟩ := h x (by simp)
    exact ⟨rfl, h3, by rw [h4]; exact way_same h2 (fun z hz => h z (by simp [hz]))⟩
theorem ar_ext {A B : Ar} (h1 : A.ns.length = B.ns.length) (h2 : A.inert = B.inert) (h3 : ∀ x, A.has x → A.get x = B.get x) : A = B := by
  obtain ⟨na, ia⟩ := A
  obtain ⟨nb, ib⟩ := B
  dsimp only at h1 h2
  subst h2
  congr 1
  refine List.ext_getElem h1 (fun i hi hj => ?_)
  have hx : Ar.has ⟨na, ia⟩ ((i : Int) + 1) := ⟨by omega, by show (i : Int) + 1 ≤ (na.length : Int); omega⟩
  have := h3 _ hx
  unfold Ar.get at this
  rw [show ((i : Int) + 1).toNat - 1 = i by omega] at this
  simpa [hi, hj] using this
theorem flat_no {node next : Int} : ∀ (l : List Int), next ∉ l → (l.flatMap fun x => if x = next then [node, x] else [x]) = l
  | [], _ => rfl
  | x :: l, h => by
    rw [List.flatMap_cons, if_neg (fun e => h (by simp [e])), flat_no l (fun q => h (by simp [q]))]; rfl
/-- A node that is taken out of a list and put back before its neighbour. -/
theorem put_back {K1 K2 : List Int} {node : Int} (hnd : (K1 ++ node :: K2).Nodup) (hz : (0 : Int) ∉ K1 ++ node :: K2) : without (K1 ++ node :: K2) node = K1 ++ K2 ∧ ∀ nx, nx = (K2.head?).getD 0 → putIn (K1 ++ K2) node nx = K1 ++ node :: K2 := by
  have h1 := List.nodup_append.1 hnd
  have h2 := List.nodup_cons.1 h1.2.1
  have n1 : node ∉ K1 := fun h => h1.2.2 _ h _ (by simp) rfl
  refine ⟨?_, ?_⟩
  · unfold without
    rw [List.filter_append, List.filter_cons_of_neg (by simp)]
    have e1 := without_no n1
    have e2 := without_no h2.1
    unfold without at e1 e2
    rw [e1, e2]
  · intro nx hnx
    unfold putIn
    cases K2 with
    | nil =>
      obtain rfl : nx = 0 := hnx
      rw [if_pos rfl, flat_no _ (fun h => hz (by simpa using Or.inl (by simpa using h)))]; simp
    | cons k K3 =>
      have h3 := List.nodup_cons.1 h2.2
      have k1 : k ∉ K1 := fun h => h1.2.2 _ h k (by simp) rfl
      have k0 : k ≠ 0 := fun e => hz (by simp [e])
      obtain rfl : nx = k := hnx
      rw [if_neg k0, List.flatMap_append, List.flatMap_cons, flat_no _ k1, flat_no _ h3.1, if_pos rfl]; simp

theorem cuts_facts {A : Ar} (hI : A.Inv) {node : Int} (hn : A.has node) : ∃ (A' : Ar) (p : Int) (kids kids' : List Int), A.cutCall node = (0, A') ∧ A'.Inv ∧ A'.ns.length = A.ns.length ∧ A.parentOf node = p ∧ A'.parentOf node = 0 ∧ A'.root node = node ∧ A'.dump node 0 = A.dump node 0 ∧
    A.kidsOf p = kids ∧ without kids node = kids' ∧ A'.kidsOf p = kids' ∧ kids.length ≤ A.ns.length ∧ (p = 0 → A'.ns = A.ns ∧ kids = [] ∧ A.index node = -1) ∧
    (p ≠ 0 → ∃ i : Nat, A.index node = i ∧ i < kids.length ∧ A'.put p node (kids[i + 1]?.getD 0) = (0, A)) := by
  have hI' : (A.cut node).Inv := Ar.InvX.cut hI hn
  have hhas : ∀ x, (A.cut node).has x ↔ A.has x := fun x => Ar.cut_has A node x
  have hgn := Ar.cut_get hI hn hn
  have hpn : ((A.cut node).get node).parent = 0 := by rw [hgn]; simp
  have hpo : A.parentOf node = (A.get node).parent := if_pos hn
  have hroot : (A.cut node).root node = node := by
    have hn' := (hhas node).2 hn
    have hw := hI'.wf.wayPlain hn'
    have hw2 : (A.cut node).Way (upStep (A.cut node) false) node [node] := ⟨rfl, hn', by
      show upStep (A.cut node) false node = 0
      unfold upStep; simp [hpn]⟩
    unfold Ar.root
    rw [if_pos hn', way_unique hw hw2]; rfl
  refine ⟨A.cut node, (A.get node).parent, A.kidsOf (A.get node).parent, _, by simp [Ar.cutCall, hn], hI', Ar.cut_ns A node, hpo, ?_, hroot, cut_dump_own hI hn 0, rfl, rfl, ?_, ?_, ?_, ?_⟩
  · unfold Ar.parentOf; rw [if_pos ((hhas node).2 hn), hpn]
  · by_cases hz : (A.get node).parent = 0
    · rw [hz]; unfold Ar.kidsOf; rw [if_neg (has_zero A), if_neg (has_zero _)]; rfl
    · have hpp := (hI.wf.link node hn hz).1
      unfold Ar.kidsOf
      rw [if_pos hpp, if_pos ((hhas _).2 hpp), Ar.cut_get hI hn hpp]
      dsimp only [Nd.re]
      rw [if_pos rfl]
  · unfold Ar.kidsOf
    split
    · rename_i hh; exact Ar.kids_len hI.wf hh
    · exact Nat.zero_le _
  · intro hz
    refine ⟨by unfold Ar.cut; rw [if_pos hz], by unfold Ar.kidsOf; rw [hz, if_neg (has_zero A)], ?_⟩
    unfold Ar.index; rw [if_neg (fun q => q.2 hz)]
  · intro hz
    obtain ⟨hpp, hmem, -⟩ := hI.wf.link node hn hz
    have hke : A.kidsOf (A.get node).parent = (A.get (A.get node).parent).kids := if_pos hpp
    obtain ⟨K1, K2, hK⟩ := List.append_of_mem hmem
    have hnd := hI.wf.nodup _ hpp
    have hzk : (0 : Int) ∉ (A.get (A.get node).parent).kids := fun h0 => has_zero A (hI.wf.kids _ hpp 0 h0).1
    have hpb := put_back (hK ▸ hnd) (hK ▸ hzk)
    have h1 := List.nodup_append.1 (hK ▸ hnd)
    have h2 := List.nodup_cons.1 h1.2.1
    have n1 : node ∉ K1 := fun h => h1.2.2 _ h _ (by simp) rfl
    have hne : (A.get node).parent ≠ node := fun e => by
      have hd := depth_link hI hn hpp (by unfold Ar.up; rw [if_pos hz])
      rw [e] at hd; omega
    have hnext : (A.kidsOf (A.get node).parent)[K1.length + 1]?.getD 0 = (K2.head?).getD 0 := by
      rw [hke, hK, List.getElem?_append_right (by omega), show K1.length + 1 - K1.length = 1 by omega, List.getElem?_cons_succ, List.head?_eq_getElem?]
    refine ⟨K1.length, ?_, ?_, ?_⟩
    · unfold Ar.index
      rw [if_pos ⟨hn, hz⟩, hK]
      refine findI_hit (x := node) (by rw [List.getElem?_append_right (Nat.le_refl _), Nat.sub_self]; rfl) (by simp) (fun j y hj hy => ?_)
      rw [List.getElem?_append_left hj] at hy
      simp; exact fun e => n1 (by rw [← e]; exact List.mem_of_getElem? hy)
    · rw [hke, hK]; simp
    · rw [hnext]
      obtain ⟨nx, hnx⟩ : ∃ nx, nx = (K2.head?).getD 0 := ⟨_, rfl⟩
      rw [← hnx]
      replace hpb := And.intro hpb.1 (hpb.2 nx hnx)
      have hgp : (A.cut node).get (A.get node).parent = (A.get (A.get node).parent).re (K1 ++ K2) (A.get (A.get node).parent).parent := by
        rw [Ar.cut_get hI hn hpp, if_pos rfl, if_neg hne, hK, hpb.1]
      have hnx0 : nx ≠ 0 → nx ∈ K2 := fun q => by
        cases K2 with
        | nil => exact absurd hnx q
        | cons k K3 => rw [hnx]; simp
      have hnxh : nx ≠ 0 → (A.cut node).has nx ∧ nx ≠ node ∧ ((A.cut node).get nx).parent = (A.get node).parent := fun q => by
        have hm := hnx0 q
        have hnn : nx ≠ node := fun e => h2.1 (e ▸ hm)
        obtain ⟨a1, a2⟩ := hI.wf.kids _ hpp nx (by rw [hK]; simp [hm])
        exact ⟨(hhas nx).2 a1, hnn, by rw [Ar.cut_get hI hn a1]; dsimp only [Nd.re]; rw [if_neg hnn, a2]⟩
      have hkind := hI.kidk _ hpp (fun e => by rw [e] at hmem; simp at hmem)
      have hkn := hI.par node hn hz
      have hcon : (A.cut node).contains node (A.get node).parent = false := by
        have hw := hI.wf.wayOf hpp
        have hwn := hI.wf.wayOf hn
        rw [way_link hI hn hpp (by unfold Ar.up; rw [if_pos hz])] at hwn
        have hno := (List.nodup_cons.1 (way_nodup hwn)).1
        have hw2 : (A.cut node).Way (upStep (A.cut node) true) (A.get node).parent (A.waySt true (A.get node).parent) := way_same hw (fun x hx => by
          have hxx := way_has hw x hx
          have hxn : x ≠ node := fun e => hno (e ▸ hx)
          refine ⟨(hhas x).2 hxx, ?_⟩
          show (A.cut node).up x = A.up x
          unfold Ar.up
          rw [Ar.cut_get hI hn hxx]
          dsimp only [Nd.re]
          rw [if_neg hxn])
        have he := way_unique (hI'.wf.wayOf ((hhas _).2 hpp)) hw2
        unfold Ar.contains
        rw [he]
        exact decide_eq_false (fun q => hno q.2.2)
      have hal : (A.cut node).allowed (A.get node).parent node nx ((A.cut node).contains node (A.get node).parent) = 0 := by
        unfold Ar.allowed
        rw [hcon, if_neg, if_neg, if_neg, if_neg]
        · rintro ⟨q1, q2⟩
          obtain ⟨_, r1, r2⟩ := hnxh q1
          rcases q2 with q2 | q2
          · exact r1 q2
          · exact q2 r2
        · rw [hgn]; dsimp only [Nd.re]
          rintro (q | q | q)
          · exact hkn.1 q
          · exact hkn.2 q
          · cases q
        · rw [hgp]; dsimp only [Nd.re]; exact fun q => q hkind
        · rintro (q | q | q)
          · exact q ((hhas _).2 hpp)
          · exact q ((hhas _).2 hn)
          · exact q.2 (hnxh q.1).1
      unfold Ar.put
      rw [if_neg (fun q => q hal)]
      refine Prod.ext rfl ?_
      show (A.cut node).place (A.get node).parent node nx = A
      have hcc : (A.cut node).cut node = A.cut node := by
        show (if ((A.cut node).get node).parent = 0 then A.cut node else _) = _
        rw [if_pos hpn]
      refine ar_ext ?_ ?_ (fun x hx => ?_)
      · have := Ar.place_n (A.cut node) (A.get node).parent node nx
        have h2 := Ar.cut_ns A node
        unfold Ar.n at this; omega
      · rw [Ar.place_inert, Ar.cut_inert]
      · have hx1 : (A.cut node).has x := by
          have := Ar.place_n (A.cut node) (A.get node).parent node nx
          unfold Ar.has at hx ⊢; rw [← this]; exact hx
        have hx2 := (hhas x).1 hx1
        rw [Ar.place_get ((hhas _).2 hpp) ((hhas _).2 hn) hx1 hne, hcc, Ar.cut_get hI hn hx2]
        obtain ⟨Z, hZ⟩ : ∃ Z, Z = A.get x := ⟨_, rfl⟩
        by_cases e1 : x = (A.get node).parent
        · have e2 : x ≠ node := fun e => hne (e1.symm.trans e)
          subst e1
          rw [if_pos rfl, if_pos rfl, if_neg hne, if_neg hne]
          dsimp only [Nd.re]
          rw [hK, hpb.1, hpb.2, ← hK]
        · rw [if_neg e1, if_neg e1]
          by_cases e2 : x = node
          · subst e2
            rw [if_pos rfl, if_pos rfl]
          · rw [if_neg e2, if_neg e2]
end Go.Proofs.YtnfdcfagdidmhaaGreatDoor
