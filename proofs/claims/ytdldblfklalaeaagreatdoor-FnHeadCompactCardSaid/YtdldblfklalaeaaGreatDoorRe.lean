/-
  As XRc, where a call's value is not known ahead of the region: what the calls have drawn is carried along.
-/
import Derived.Test.YtdldblfklalaeaaGreatDoorQn
namespace Go.Proofs.YtdldblfklalaeaaGreatDoor
open Go.RowKit
set_option linter.unusedVariables false
set_option linter.unusedSimpArgs false
structure RinT {τ : Type} (md : Region.Mode) (ops : Array Oper) (W : List Nat) (val : τ → Nat → Value) (ch : List Nat) (WI : Nat → τ → World → Prop) (a0 : Act) (listed : Array Bool) (a : Act) (w : World) : Prop where
  size : listed.size = ops.size
  cl : ∀ (j : Nat) (o : Oper) (x : Nat), ops[j]? = some o → listed.getD j false = true → (o.after.any fun e => Region.binds md e && e.on == x) = true → listed.getD x false = true
  wi : ∃ k t, k ≤ ch.length ∧ WI k t w ∧ (∀ j x, ch[j]? = some x → listed.getD x false = decide (j < k)) ∧ ∃ u, a = ov a0 W u ∧ (∀ i o d, ops[i]? = some o → o.dst = some d → listed.getD i false = true → u d = val t d) ∧ ∀ i o d, ops[i]? = some o → o.dst = some d → listed.getD i false = false → u d = a0.tmps.getD d undef
/-- One step of an operation that only reads. -/
def StepT {τ : Type} (P : Program) (ops : Array Oper) (Q : Exit → Act → World → Prop) (a0 : Act) (W : List Nat) (val : τ → Nat → Value) (dp rd : Nat → List (Nat × Nat)) (I : τ → World → Prop) (i : Nat) (o : Oper) (d : Nat) : Prop :=
  ∀ t a w, I t w → (∀ j, j ∉ W → a.eval (.tmp j) = a0.eval (.tmp j)) → (∀ p ∈ dp i, a.eval (.tmp p.2) = val t p.2) → (∀ p ∈ rd i, a.eval (.tmp p.2) = a0.eval (.tmp p.2)) →
      ∀ K : Act → World → Prop, (∀ w', I t w' → K (a.put (some d) (val t d)) w') → if Region.wanted o (yielded ops a.tmps) = true then Oper.wp P o a w K Q else K (a.put o.dst undef) w
/-- One step of a call: it may draw. -/
def CallT {τ : Type} (P : Program) (ops : Array Oper) (Q : Exit → Act → World → Prop) (a0 : Act) (W : List Nat) (val : τ → Nat → Value) (dp rd : Nat → List (Nat × Nat)) (I J : τ → World → Prop) (i : Nat) (o : Oper) (d : Nat) : Prop :=
  ∀ t a w, I t w → (∀ j, j ∉ W → a.eval (.tmp j) = a0.eval (.tmp j)) → (∀ p ∈ dp i, a.eval (.tmp p.2) = val t p.2) → (∀ p ∈ rd i, a.eval (.tmp p.2) = a0.eval (.tmp p.2)) →
      ∀ K : Act → World → Prop, (∀ t' w', J t' w' → (∀ d', d' ≠ d → val t' d' = val t d') → K (a.put (some d) (val t' d)) w') → if Region.wanted o (yielded ops a.tmps) = true then Oper.wp P o a w K Q else K (a.put o.dst undef) w
inductive StepsT {τ : Type} (P : Program) (ops : Array Oper) (Q : Exit → Act → World → Prop) (a0 : Act) (W : List Nat) (val : τ → Nat → Value) (dp rd : Nat → List (Nat × Nat)) (ch : List Nat) (WI : Nat → τ → World → Prop) : Nat → List Oper → Prop
  | nil (i : Nat) : StepsT P ops Q a0 W val dp rd ch WI i []
  | quiet {i d : Nat} {op : Op} {t : TypeId} {ps : String} {af : Array Edge} {g : Option (Nat × Bool)} {r : List Oper} (hi : decide (i ∈ ch) = false) (h : ∀ k, StepT P ops Q a0 W val dp rd (WI k) i ⟨some d, op, t, ps, af, g⟩ d) (hr : StepsT P ops Q a0 W val dp rd ch WI (i + 1) r) : StepsT P ops Q a0 W val dp rd ch WI i (⟨some d, op, t, ps, af, g⟩ :: r)
  | call {i d : Nat} {op : Op} {t : TypeId} {ps : String} {af : Array Edge} {g : Option (Nat × Bool)} {r : List Oper} (k : Nat) (hi : ch[k]? = some i) (h : CallT P ops Q a0 W val dp rd (WI k) (WI (k + 1)) i ⟨some d, op, t, ps, af, g⟩ d) (hr : StepsT P ops Q a0 W val dp rd ch WI (i + 1) r) : StepsT P ops Q a0 W val dp rd ch WI i (⟨some d, op, t, ps, af, g⟩ :: r)
theorem StepsT.at_ {τ : Type} {P : Program} {ops : Array Oper} {Q : Exit → Act → World → Prop} {a0 : Act} {W : List Nat} {val : τ → Nat → Value} {dp rd : Nat → List (Nat × Nat)} {ch : List Nat} {WI : Nat → τ → World → Prop} {s : Nat} {l : List Oper} (h : StepsT P ops Q a0 W val dp rd ch WI s l) :
    ∀ (i : Nat) (o : Oper) (d : Nat), l[i]? = some o → o.dst = some d → (s + i ∉ ch ∧ ∀ k, StepT P ops Q a0 W val dp rd (WI k) (s + i) o d) ∨ ∃ k, ch[k]? = some (s + i) ∧ CallT P ops Q a0 W val dp rd (WI k) (WI (k + 1)) (s + i) o d := by
  induction h with
  | nil s => intro i o d hi; simp at hi
  | @quiet s d0 op t ps af g r h1 h2 hr ih =>
    intro i o d hi hd
    cases i with
    | zero =>
      simp only [List.getElem?_cons_zero, Option.some.injEq] at hi
      subst hi
      injection hd with hd
      subst hd
      exact .inl ⟨of_decide_eq_false h1, h2⟩
    | succ i =>
      rw [List.getElem?_cons_succ] at hi
      have := ih i o d hi hd
      rw [show s + (i + 1) = s + 1 + i by omega]
      exact this
  | @call s d0 op t ps af g r k h1 h2 hr ih =>
    intro i o d hi hd
    cases i with
    | zero =>
      simp only [List.getElem?_cons_zero, Option.some.injEq] at hi
      subst hi
      injection hd with hd
      subst hd
      exact .inr ⟨k, h1, h2⟩
    | succ i =>
      rw [List.getElem?_cons_succ] at hi
      have := ih i o d hi hd
      rw [show s + (i + 1) = s + 1 + i by omega]
      exact this
end Go.Proofs.YtdldblfklalaeaaGreatDoor
