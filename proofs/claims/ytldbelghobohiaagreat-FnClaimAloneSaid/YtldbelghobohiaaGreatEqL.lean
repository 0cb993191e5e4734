/-
  Small lemmas on lists that are compared.
-/
import Derived.Test.YtldbelghobohiaaGreatOps
namespace Go.Proofs.YtldbelghobohiaaGreat
theorem ne_of_at {α : Type} {xs ys : List α} (k : Nat) (h1 : k < xs.length) (h2 : k < ys.length) (h : xs[k] ≠ ys[k]) : xs ≠ ys := fun e => by subst e; exact h rfl
theorem take_ne {α : Type} {xs ys : List α} (hl : xs.length = ys.length) (h : xs.take xs.length = ys.take xs.length) : xs = ys := by
  rw [List.take_length] at h
  rw [h, hl, List.take_length]
theorem take_more {α : Type} {xs ys : List α} {k : Nat} (h1 : k < xs.length) (h2 : k < ys.length) (h : xs.take k = ys.take k) (e : xs[k] = ys[k]) : xs.take (k + 1) = ys.take (k + 1) := by
  rw [List.take_succ_eq_append_getElem h1, List.take_succ_eq_append_getElem h2, h, e]

end Go.Proofs.YtldbelghobohiaaGreat
