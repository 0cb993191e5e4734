/-
  What a copy gives, as a callee wants it (the Door seat's part of Encode5).
-/
import Derived.Test.YtlncbbmmlhammaaDoorEncode4
namespace Go.Proofs.YtlncbbmmlhammaaDoor
open Go.RowKit Go.Proofs.YtlncbbmmlhammaaDoorW.PrintWords Go.Lib
set_option linter.unusedVariables false
set_option linter.unusedSimpArgs false
/-- What bytes.Clone gives, as the callee wants it. -/
theorem Hold.clone {w0 w : World} {B : Nat} {L : List Asrt} {v : Value} {xs : List UInt8} {e : Nat} (hS : Hold w0 B w (.row kB e v xs :: L)) : ∃ (b c : Nat) (A : Option Addr), v = .slice A xs.length c ∧ (0 < xs.length → A = some ⟨b, 0, none⟩) ∧ xs.length ≤ c ∧ kB.C w A xs.length xs := by
  obtain ⟨A, c, rfl, hc, hC⟩ := hS.reads 0 rfl
  rcases Nat.eq_zero_or_pos xs.length with h | h
  · exact ⟨0, c, A, rfl, fun h' => absurd h' (by omega), hc, hC⟩
  · obtain ⟨b, cc, e, _⟩ := hS.form 0 rfl h
    injection e with e
    exact ⟨b, c, A, rfl, fun _ => e, hc, hC⟩
end Go.Proofs.YtlncbbmmlhammaaDoor
