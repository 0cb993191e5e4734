/-
  Two assertions, exchanged (the Door seat's part of Encode4).
-/
import Derived.Test.YtlncbbmmlhammaaDoorEncode3
import Derived.Test.YtlncbbmmlhammaaDoorSame
namespace Go.Proofs.YtlncbbmmlhammaaDoor
open Go.RowKit Go.Proofs.YtlncbbmmlhammaaDoorW.PrintWords Go.Lib
set_option linter.unusedVariables false
set_option linter.unusedSimpArgs false
theorem Hold.swap {w0 w : World} {B : Nat} {a b : Asrt} {L : List Asrt} (hS : Hold w0 B w (a :: b :: L)) : Hold w0 B w (b :: a :: L) := by
  obtain ⟨F, h1, h2, h3⟩ := hS.own
  let σ : Nat → Nat := fun i => if i = 0 then 1 else if i = 1 then 0 else i
  have hσ : ∀ i, (b :: a :: L)[i]? = (a :: b :: L)[σ i]? := by
    intro i
    match i with
    | 0 => rfl
    | 1 => rfl
    | i + 2 => rfl
  have hinj : ∀ i j, σ i = σ j → i = j := by
    intro i j h
    simp only [σ] at h
    split at h <;> split at h <;> (try split at h) <;> (try split at h) <;> omega
  exact ⟨hS.below, hS.le, fun i => F (σ i), fun i c hc => h1 (σ i) c (by rw [← hσ]; exact hc), fun i k hk => h2 _ k hk, fun i j k hi hj => hinj i j (h3 _ _ k hi hj)⟩
end Go.Proofs.YtlncbbmmlhammaaDoor
