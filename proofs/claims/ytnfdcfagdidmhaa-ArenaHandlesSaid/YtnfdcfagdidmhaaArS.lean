/-
  What holds of every arena that calls have made. No program here.
-/
import Derived.Test.YtnfdcfagdidmhaaArW
namespace Go.Proofs.Ytnfdcfagdidmhaa
set_option linter.unusedVariables false

/-- What holds of a node by itself. -/
structure Nd.Local (n : Nd) : Prop where
  k1 : 1 ≤ n.kind
  k6 : n.kind ≤ 6
  sp : inSpaces n.space
  at1 : attrSpaces n.attrs
  at2 : onceL n.attrs = n.attrs
  at3 : n.attrs.length ≤ 20
  el : n.kind ≠ 4 → n.space = 0 ∧ n.attrs = []
  nm : n.kind ≠ 4 → n.kind ≠ 3 → n.name = ByteArray.empty
  ps : n.kind ≠ 3 → n.pub = ByteArray.empty ∧ n.sys = ByteArray.empty
  da : n.kind ≠ 5 → n.kind ≠ 6 → n.data = ByteArray.empty
  qu : n.kind ≠ 1 → n.quirks = false

/-- The invariant; the contents of the node ex may be missing. -/
structure Ar.InvX (A : Ar) (ex : Int) : Prop where
  wf : A.WF
  loc : ∀ h, A.has h → (A.get h).Local
  host : ∀ h, A.has h → (A.get h).host ≠ 0 → (A.get h).kind = 2 ∧ A.has (A.get h).host ∧ isTemplate (A.get (A.get h).host) ∧ (A.get (A.get h).host).contents = h
  cont : ∀ h, A.has h → h ≠ ex → isTemplate (A.get h) → A.has (A.get h).contents ∧ (A.get (A.get h).contents).kind = 2 ∧ (A.get (A.get h).contents).host = h
  nocont : ∀ h, A.has h → h = ex ∨ ¬ isTemplate (A.get h) → (A.get h).contents = 0
  par : ∀ h, A.has h → (A.get h).parent ≠ 0 → (A.get h).kind ≠ 1 ∧ (A.get h).kind ≠ 2
  kidk : ∀ h, A.has h → (A.get h).kids ≠ [] → (A.get h).kind = 1 ∨ (A.get h).kind = 2 ∨ (A.get h).kind = 4
  docK : ∀ h, A.has h → A.has (A.get h).doc ∧ (A.get (A.get h).doc).kind = 1
  docS : ∀ h, A.has h → (A.get h).kind = 1 → (A.get h).doc = h
  inert0 : A.inert[0]? = some 0
  inert : ∀ d : Int, A.inertAt d ≠ 0 → A.has d ∧ A.has (A.inertAt d) ∧ (A.get (A.inertAt d)).kind = 1 ∧ A.inertAt (A.inertAt d) = A.inertAt d
def Ar.Inv (A : Ar) : Prop := A.InvX 0

theorem has_zero (A : Ar) : ¬ A.has 0 := fun h => by have := h.1; omega
theorem Ar.add_n (A : Ar) (n : Nd) : (A.add n).n = A.n + 1 := by simp [Ar.add, Ar.n]
theorem Ar.add_has (A : Ar) (n : Nd) (h : Int) : (A.add n).has h ↔ A.has h ∨ h = A.n + 1 := by
  unfold Ar.has; rw [Ar.add_n]
  have : 0 ≤ A.n := by unfold Ar.n; omega
  constructor
  · intro q; omega
  · intro q; omega
theorem Ar.add_new (A : Ar) (n : Nd) : (A.add n).get (A.n + 1) = n := by
  have : (A.n + 1).toNat - 1 = A.ns.length := by unfold Ar.n; omega
  simp [Ar.get, Ar.add, this]
theorem Ar.add_old {A : Ar} (n : Nd) {h : Int} (hh : A.has h) : (A.add n).get h = A.get h := by
  obtain ⟨hi, _⟩ := Ar.get_of hh
  simp [Ar.get, Ar.add, List.getElem?_append, hi]
theorem Ar.new_no (A : Ar) : ¬ A.has (A.n + 1) := fun h => by have := h.2; omega

theorem way_mono {A A' : Ar} {up up' : Int → Int} (h : ∀ x, A.has x → A'.has x ∧ up' x = up x) : ∀ {l : List Int} {y : Int}, A.Way up y l → A'.Way up' y l
  | [], _, hw => hw
  | x :: l, y, hw => by
    obtain ⟨rfl, h1, h2⟩ := hw
    obtain ⟨h3, h4⟩ := h x h1
    exact ⟨rfl, h3, by rw [h4]; exact way_mono h h2⟩

/-- The way up after the link of one node has changed. -/
theorem way_relink {A A' : Ar} {up up' : Int → Int} {node p : Int} {lp : List Int} (hhas : ∀ x, A.has x → A'.has x) (hup : ∀ x, A.has x → x ≠ node → up' x = up x) (hp : up' node = p) (hlp : A.Way up p lp) (hno : node ∉ lp) :
    ∀ {l : List Int} {y : Int}, A.Way up y l → ∃ l', A'.Way up' y l'
  | [], y, hw => ⟨[], hw⟩
  | x :: l, y, hw => by
    obtain ⟨rfl, h1, h2⟩ := hw
    by_cases hx : x = node
    · refine ⟨x :: lp, rfl, hhas x h1, ?_⟩
      rw [hx, hp]
      have key : ∀ {lp : List Int} {q : Int}, A.Way up q lp → node ∉ lp → A'.Way up' q lp := by
        intro lp
        induction lp with
        | nil => intro q h _; exact h
        | cons z lp ih =>
          intro q h hn
          obtain ⟨rfl, h3, h4⟩ := h
          simp at hn
          refine ⟨rfl, hhas _ h3, ?_⟩
          rw [hup _ h3 (fun e => hn.1 e.symm)]
          exact ih h4 hn.2
      exact key hlp hno
    · obtain ⟨l', hl'⟩ := way_relink hhas hup hp hlp hno h2
      exact ⟨x :: l', rfl, hhas x h1, by rw [hup x h1 hx]; exact hl'⟩

/-- A change of fields that are no links. -/
theorem Ar.WF.fields {A A' : Ar} (hW : A.WF) (hn : A'.n = A.n) (hi : A'.inert.length = A.inert.length) (h : ∀ x, A.has x → (A'.get x).parent = (A.get x).parent ∧ (A'.get x).kids = (A.get x).kids ∧ (A'.get x).host = (A.get x).host) : A'.WF := by
  have hh : ∀ x, A'.has x ↔ A.has x := fun x => by unfold Ar.has; rw [hn]
  have hl : A'.ns.length = A.ns.length := by unfold Ar.n at hn; omega
  refine ⟨fun x hx hp => ?_, fun p hp k hk => ?_, fun p hp => ?_, fun x hx => ?_, by rw [hi, hl]; exact hW.inert⟩
  · have hx' := (hh x).1 hx
    rw [(h x hx').1] at hp ⊢
    obtain ⟨q1, q2, q3⟩ := hW.link x hx' hp
    exact ⟨(hh _).2 q1, by rw [(h _ q1).2.1]; exact q2, by rw [(h _ q1).2.1]; exact q3⟩
  · have hp' := (hh p).1 hp
    rw [(h p hp').2.1] at hk
    obtain ⟨q1, q2⟩ := hW.kids p hp' k hk
    exact ⟨(hh _).2 q1, by rw [(h _ q1).1]; exact q2⟩
  · have hp' := (hh p).1 hp
    rw [(h p hp').2.1]; exact hW.nodup p hp'
  · obtain ⟨l, hl⟩ := hW.way x ((hh x).1 hx)
    exact ⟨l, way_mono (fun y hy => ⟨(hh y).2 hy, by simp [upStep, Ar.up, (h y hy).1, (h y hy).2.2]⟩) hl⟩

/-- A node is added that has no children and no parent; its host, if it has one, is there. -/
theorem Ar.WF.added {A : Ar} (hW : A.WF) {n : Nd} (hk : n.kids = []) (hp : n.parent = 0) (hh : n.host ≠ 0 → A.has n.host) : (A.add n).WF := by
  have hold : ∀ {x}, A.has x → (A.add n).get x = A.get x := fun hx => Ar.add_old n hx
  have hhas : ∀ {x}, A.has x → (A.add n).has x := fun hx => (Ar.add_has A n _).2 (.inl hx)
  have hway : ∀ {l : List Int} {y : Int}, A.Way (upStep A true) y l → (A.add n).Way (upStep (A.add n) true) y l := fun h =>
    way_mono (fun y hy => ⟨hhas hy, by simp [upStep, Ar.up, hold hy]⟩) h
  refine ⟨fun x hx hpx => ?_, fun p hpp k hkk => ?_, fun p hpp => ?_, fun x hx => ?_, by simp [Ar.add, hW.inert]⟩
  · rcases (Ar.add_has A n x).1 hx with hx | rfl
    · rw [hold hx] at hpx ⊢
      obtain ⟨q1, q2, q3⟩ := hW.link x hx hpx
      exact ⟨hhas q1, by rw [hold q1]; exact q2, by rw [hold q1]; exact q3⟩
    · rw [Ar.add_new] at hpx; exact absurd hp hpx
  · rcases (Ar.add_has A n p).1 hpp with hx | rfl
    · rw [hold hx] at hkk
      obtain ⟨q1, q2⟩ := hW.kids p hx k hkk
      exact ⟨hhas q1, by rw [hold q1]; exact q2⟩
    · rw [Ar.add_new, hk] at hkk; simp at hkk
  · rcases (Ar.add_has A n p).1 hpp with hx | rfl
    · rw [hold hx]; exact hW.nodup p hx
    · rw [Ar.add_new, hk]; exact List.nodup_nil
  · rcases (Ar.add_has A n x).1 hx with hx | rfl
    · obtain ⟨l, hl⟩ := hW.way x hx
      exact ⟨l, hway hl⟩
    · have hu : upStep (A.add n) true (A.n + 1) = n.host := by simp [upStep, Ar.up, Ar.add_new, hp]
      by_cases h0 : n.host = 0
      · exact ⟨[A.n + 1], rfl, hx, by rw [hu, h0]; rfl⟩
      · obtain ⟨l, hl⟩ := hW.way n.host (hh h0)
        exact ⟨(A.n + 1) :: l, rfl, hx, by rw [hu]; exact hway hl⟩

end Go.Proofs.Ytnfdcfagdidmhaa
