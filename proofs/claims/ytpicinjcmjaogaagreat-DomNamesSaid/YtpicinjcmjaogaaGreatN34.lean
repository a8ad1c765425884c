/-
  Parts: D21, DU, DV, DY, DW, D22.
-/
import Derived.Test.YtpicinjcmjaogaaGreatN33

/- The operations of layer 5: Do. (Printed by gend21.py.) -/
namespace Go.Proofs.YtpicinjcmjaogaaGreat
open Go.RowKit Go.Shelf
set_option linter.unusedVariables false

attribute [local go_sem] Oper.semAt_some

theorem Own.boxed {w0 w : World} {B b : Nat} {A : Ar} {L : List Asrt} (o : Own w0 B (.arena b A :: L) w) (ob : Obj) : Own w0 B (.arena b A :: .box w.heap.size ob :: L) (w.alloc ob) := (o.alloc ob).swap
theorem Own.unbox {w0 w : World} {B b g : Nat} {A : Ar} {ob : Obj} {L : List Asrt} (o : Own w0 B (.arena b A :: .box g ob :: L) w) : Own w0 B (.arena b A :: L) w := o.swap.drop

end Go.Proofs.YtpicinjcmjaogaaGreat

/- Layer 5 as plain data: how long the texts of a copy are. No program here. -/
namespace Go.Proofs.YtpicinjcmjaogaaGreat
set_option linter.unusedVariables false

theorem map_eq_of {a b : Int → Nat} : ∀ {l1 l2 : List Int}, l1.length = l2.length → (∀ (i : Nat) (x y : Int), l1[i]? = some x → l2[i]? = some y → a x = b y) → l1.map a = l2.map b
  | [], [], _, _ => rfl
  | x :: l1, y :: l2, hl, h => by
    rw [List.map_cons, List.map_cons, h 0 x y rfl rfl, map_eq_of (l1 := l1) (l2 := l2) (by simpa using hl) (fun i x y h1 h2 => h (i + 1) x y (by simpa using h1) (by simpa using h2))]
theorem sum_filter {f : Int → Nat} {p : Int → Bool} : ∀ {l : List Int}, (l.map f).sum = ((l.filter p).map f).sum + ((l.filter (fun x => !p x)).map f).sum
  | [] => rfl
  | x :: l => by
    have := sum_filter (f := f) (p := p) (l := l)
    cases hp : p x <;> simp [hp] <;> omega
theorem sum_zero {f : Int → Nat} : ∀ {l : List Int}, (∀ x ∈ l, f x = 0) → (l.map f).sum = 0
  | [], _ => rfl
  | x :: l, h => by rw [List.map_cons, List.sum_cons, h x (by simp), sum_zero (fun y hy => h y (by simp [hy]))]

/-- A sum over the nodes. -/
def tot (F : Ar → Int → Nat) (A : Ar) : Nat := (A.hs.map (F A)).sum

theorem walk_sum {F : Ar → Int → Nat} (hF : ∀ {C B : Ar} {x y : Int}, AlkP C B x y → F C x = F B y) {C B : Ar} (hC : C.Inv) (hB : B.Inv) : ∀ h, C.has h → ∀ k, AlkP C B h k → ((C.walk h).map (F C)).sum = ((B.walk k).map (F B)).sum := by
  refine walk_ind hC (fun h hh hc hk k q => ?_)
  have h0 := hF q
  obtain ⟨q1, q2, q3, q4, q5, q6, q7⟩ := q.inv
  rw [walk_eq hC hh, walk_eq hB q2]
  simp only [List.map_cons, List.sum_cons, List.map_append, List.sum_append, sum_flatMap]
  rw [h0]
  have e2 : (C.get h).kids.map (fun x => ((C.walk x).map (F C)).sum) = (B.get k).kids.map (fun x => ((B.walk x).map (F B)).sum) :=
    map_eq_of q4 (fun i x y hx hy => hk x (List.mem_of_getElem? hx) y (q7 i x y hx hy))
  rw [e2]
  by_cases hz : (C.get h).contents = 0
  · rw [if_neg (fun e => e hz), if_neg (fun e => e (q5.1 hz))]; simp
  · rw [if_pos hz, if_pos (fun e => hz (q5.2 e)), hc hz _ (q6 hz)]

theorem tot_split {F : Ar → Int → Nat} {A B : Ar} {W : List Int} (hold : ∀ x, A.has x → F B x = F A x) (hnew : ∀ x, B.has x → ¬ A.has x → x ∈ W ∨ F B x = 0) : tot F B ≤ tot F A + (W.map (F B)).sum := by
  have e1 := sum_filter (f := F B) (p := fun x => decide (A.has x)) (l := B.hs)
  have e2 := sum_filter (f := F B) (p := fun x => decide (x ∈ W)) (l := B.hs.filter (fun x => !decide (A.has x)))
  have h1 : ((B.hs.filter (fun x => decide (A.has x))).map (F B)).sum ≤ (A.hs.map (F B)).sum :=
    sum_sub ((hs_nodup B).filter _) (fun x hx => by have := (List.mem_filter.1 hx).2; exact hs_mem.2 (of_decide_eq_true this))
  have h2 : (A.hs.map (F B)).sum = tot F A := congrArg List.sum (List.map_congr_left (fun x hx => hold x (hs_mem.1 hx)))
  have h3 : (((B.hs.filter (fun x => !decide (A.has x))).filter (fun x => decide (x ∈ W))).map (F B)).sum ≤ (W.map (F B)).sum :=
    sum_sub (((hs_nodup B).filter _).filter _) (fun x hx => of_decide_eq_true (List.mem_filter.1 hx).2)
  have h4 : (((B.hs.filter (fun x => !decide (A.has x))).filter (fun x => !decide (x ∈ W))).map (F B)).sum = 0 := sum_zero (fun x hx => by
    obtain ⟨g1, g2⟩ := List.mem_filter.1 hx
    obtain ⟨g3, g4⟩ := List.mem_filter.1 g1
    rcases hnew x (hs_mem.1 g3) (by simpa using g4) with g | g
    · simp [g] at g2
    · exact g)
  unfold tot at h2 ⊢
  omega

/-- What counts of a node: its text; its text and what joining at it would add. -/
def fT (A : Ar) (x : Int) : Nat := tx (A.get x)
def fG (A : Ar) (x : Int) : Nat := tx (A.get x) + gainL A false (A.get x).kids
theorem tx_alike {n m : Nd} (h : alikeP n m) : tx n = tx m := by
  unfold tx; rw [h.1, h.2.2.2.2.1]
theorem gainL_alk {C B : Ar} : ∀ {l1 l2 : List Int} (b : Bool), l1.length = l2.length → (∀ (i : Nat) (x y : Int), l1[i]? = some x → l2[i]? = some y → alikeP (C.get x) (B.get y)) → gainL C b l1 = gainL B b l2
  | [], [], _, _, _ => rfl
  | x :: l1, y :: l2, b, hl, h => by
    have h0 := h 0 x y rfl rfl
    have ih := fun b => gainL_alk (C := C) (B := B) (l1 := l1) (l2 := l2) b (by simpa using hl) (fun i x y h1 h2 => h (i + 1) x y (by simpa using h1) (by simpa using h2))
    unfold gainL
    rw [h0.1, h0.2.2.2.2.1, ih, ih, ih]
theorem fT_alk {C B : Ar} {x y : Int} (q : AlkP C B x y) : fT C x = fT B y := tx_alike q.inv.2.2.1
theorem fG_alk {C B : Ar} {x y : Int} (q : AlkP C B x y) : fG C x = fG B y := by
  obtain ⟨q1, q2, q3, q4, q5, q6, q7⟩ := q.inv
  unfold fG
  rw [tx_alike q3, gainL_alk false q4 (fun i x y hx hy => (q7 i x y hx hy).inv.2.2.1)]
theorem fT_tot (A : Ar) : tot fT A = A.mass := (mass_hs A).symm
theorem fG_tot (A : Ar) : tot fG A = A.mass + A.gain := by
  rw [mass_hs]
  unfold tot fG Ar.gain
  generalize A.hs = l
  induction l with
  | nil => rfl
  | cons x l ih => simp only [List.map_cons, List.sum_cons] at ih ⊢; omega
theorem fT_blank {B : Ar} {x : Int} (h : Blank (B.get x)) : fT B x = 0 := by unfold fT tx; rw [if_neg (by rw [h.2.2]; decide)]
theorem fG_blank {B : Ar} {x : Int} (h : Blank (B.get x)) : fG B x = 0 := by unfold fG; rw [h.1]; have := fT_blank h; unfold fT at this; rw [this]; rfl
theorem fG_old {A B : Ar} (hA : A.Inv) (hold : ∀ x, A.has x → B.has x ∧ B.get x = A.get x) : ∀ x, A.has x → fG B x = fG A x := fun x hx => by
  unfold fG
  rw [(hold x hx).2]
  congr 1
  exact gainL_congr false (fun k hk => by rw [(hold k (kid_up hA hx hk).1).2]; exact ⟨rfl, rfl⟩)
theorem walk_tot {F : Ar → Int → Nat} {C : Ar} (hC : C.Inv) {h : Int} (hh : C.has h) : ((C.walk h).map (F C)).sum ≤ tot F C :=
  sum_sub (walk_nodup hC h hh) (fun x hx => hs_mem.2 ((walk_mem hC h hh x).1 hx).1)

theorem CopyR.mass {C A B : Ar} {h d c : Int} (q : CopyR C A B h d c) (hA : A.Inv) (hC : C.Inv) : B.mass ≤ A.mass + C.mass ∧ B.mass + B.gain ≤ (A.mass + A.gain) + (C.mass + C.gain) := by
  have hh := q.alk.inv.1
  constructor
  · rw [← fT_tot, ← fT_tot, ← fT_tot]
    refine Nat.le_trans (tot_split (A := A) (W := B.walk c) (fun x hx => by unfold fT; rw [(q.old x hx).2]) (fun x h1 h2 => (q.new x h1 h2).imp id fT_blank)) ?_
    rw [← walk_sum fT_alk hC q.inv h hh c q.alk]
    exact Nat.add_le_add_left (walk_tot hC hh) _
  · rw [← fG_tot, ← fG_tot, ← fG_tot]
    refine Nat.le_trans (tot_split (A := A) (W := B.walk c) (fG_old hA q.old) (fun x h1 h2 => (q.new x h1 h2).imp id fG_blank)) ?_
    rw [← walk_sum fG_alk hC q.inv h hh c q.alk]
    exact Nat.add_le_add_left (walk_tot hC hh) _

end Go.Proofs.YtpicinjcmjaogaaGreat

/- Layer 5 as plain data: how long texts may become, operation by operation. No program here. -/
namespace Go.Proofs.YtpicinjcmjaogaaGreat
set_option linter.unusedVariables false

end Go.Proofs.YtpicinjcmjaogaaGreat

/- Layer 5 as plain data: the texts below a node do not grow by joining. No program here. -/
namespace Go.Proofs.YtpicinjcmjaogaaGreat
set_option linter.unusedVariables false

/-- What a text of a joined row will say. -/
def jtx (A : Ar) (J : List (Int × ByteArray)) (k : Int) : Nat := if (A.get k).kind = 5 then ((J.lookup k).getD (A.get k).data).size else 0
/-- The texts below the nodes, all together. -/
def fK (A : Ar) (x : Int) : Nat := A.kidsTx x
theorem fK_alk {C B : Ar} {x y : Int} (q : AlkP C B x y) : fK C x = fK B y := by
  obtain ⟨q1, q2, q3, q4, q5, q6, q7⟩ := q.inv
  unfold fK Ar.kidsTx
  exact congrArg List.sum (map_eq_of q4 (fun i x y hx hy => tx_alike (q7 i x y hx hy).inv.2.2.1))
theorem fK_nil {B : Ar} {x : Int} (h : (B.get x).kids = []) : fK B x = 0 := by unfold fK Ar.kidsTx; rw [h]; rfl
theorem fK_old {A B : Ar} (hA : A.Inv) (hold : ∀ x, A.has x → B.has x ∧ B.get x = A.get x) : ∀ x, A.has x → fK B x = fK A x := fun x hx => by
  unfold fK Ar.kidsTx
  rw [(hold x hx).2]
  exact congrArg List.sum (List.map_congr_left (fun k hk => by rw [(hold k (kid_up hA hx hk).1).2]))
theorem CopyR.fK {C A B : Ar} {h d c : Int} (q : CopyR C A B h d c) (hA : A.Inv) (hC : C.Inv) : tot fK B ≤ tot fK A + tot fK C := by
  have hh := q.alk.inv.1
  refine Nat.le_trans (tot_split (A := A) (W := B.walk c) (fK_old hA q.old) (fun x h1 h2 => (q.new x h1 h2).imp id (fun z => fK_nil z.1))) ?_
  rw [← walk_sum fK_alk hC q.inv h hh c q.alk]
  exact Nat.add_le_add_left (walk_tot hC hh) _
end Go.Proofs.YtpicinjcmjaogaaGreat

/- Layer 5 as plain data: what holds behind operations, one after another. No program here. -/
namespace Go.Proofs.YtpicinjcmjaogaaGreat
set_option linter.unusedVariables false

def isCp (x : OpD) : Bool := decide (x.kind = 31 ∨ x.kind = 32)
def cpN (l : List OpD) : Nat := (l.filter isCp).length
def ncN (l : List OpD) : Nat := (l.filter (fun x => !isCp x)).length
/-- The bounds of the mass, and of mass and gain. -/
def uv : Nat → Nat × Nat
  | 0 => (0, 0)
  | n + 1 => (max ((uv n).1 + 400) (uv n).2, max (uv n).2 (2 * (uv n).1 + 800))
def wv : Nat → Nat
  | 0 => 0
  | n + 1 => max (wv n) ((uv n).1 + 400)
/-- What the statements ask of the operations. -/
def small5 (l : List OpD) (most : Int) : Prop := smallOps l most ∧ cpN l ≤ 8
instance (l : List OpD) (most : Int) : Decidable (small5 l most) := inferInstanceAs (Decidable (_ ∧ _))

end Go.Proofs.YtpicinjcmjaogaaGreat

/- The operations of layer 5: Small, Run. -/
namespace Go.Proofs.YtpicinjcmjaogaaGreat
open Go.RowKit Go.Shelf
set_option linter.unusedVariables false

attribute [local go_sem] Oper.semAt_some

end Go.Proofs.YtpicinjcmjaogaaGreat
