/-
  What is guessed of a text that needs padding and has a letter of one alphabet alone: the plain law of FnPartGuess; impl.Guessed.
-/
import Derived.Test.YtlncbbmmlhammaaAwake2
namespace Go.Proofs.Ytlncbbmmlhammaa
open Go.RowKit Go.Proofs.YtlncbbmmlhammaaW.PrintWords Go.Lib
set_option linter.unusedVariables false
set_option linter.unusedSimpArgs false
theorem b64at_url (i : Nat) : (b64at true i == 43 || b64at true i == 47) = false := by
  unfold b64at letX
  rcases Nat.lt_or_ge i 64 with h | h
  · have hall : ∀ j : Fin 64, (letU.getD j.val 0 == 43 || letU.getD j.val 0 == 47) = false := by decide +kernel
    exact hall ⟨i, h⟩
  · rw [List.getD_eq_getElem?_getD, List.getElem?_eq_none (by show letU.length ≤ i; exact h)]
    rfl
theorem hasStd_url (padded : Bool) : ∀ xs, hasStd (b64p true padded xs) = false
  | x :: y :: z :: r => by
    have ih := hasStd_url padded r
    unfold hasStd at ih ⊢
    simp only [b64p, List.any_cons, b64at_url, Bool.false_or]
    exact ih
  | [x, y] => by
    unfold hasStd
    simp only [b64p, List.any_append, List.any_cons, b64at_url, Bool.false_or, List.any_nil]
    cases padded <;> rfl
  | [x] => by
    unfold hasStd
    simp only [b64p, List.any_append, List.any_cons, b64at_url, Bool.false_or, List.any_nil]
    cases padded <;> rfl
  | [] => rfl
theorem hasStd_std (padded : Bool) (r : List UInt8) (y z : UInt8) : hasStd (b64p false padded (251 :: y :: z :: r)) = true := by
  unfold hasStd
  simp only [b64p, List.any_cons]
  rfl
theorem hasPad_end (url padded : Bool) (xs : List UInt8) (k : Nat) (hk : xs.length = 3 * k) : hasPad (b64p url padded (xs ++ [255])) = padded := by
  rw [b64p_app url padded k (xs ++ [255]) (by simp; omega), ← hk, List.drop_left]
  unfold hasPad
  cases padded <;> cases url <;> simp [b64p] <;> decide +kernel
set_option maxHeartbeats 1000000 in
theorem guessed_any (w : World) (A : Option Addr) (n c : Nat) (xs : List UInt8) (hn : n ≤ 1000000000) (hC : kB.C w A n xs) :
    Calls Try.prog 17 #[.slice A n c] w fun e w' => e = .returned (.int .i64 (guessOf xs)) ∧ Hold w w.heap.size w' [] := by
  obtain rfl := hC.1
  have HC := Aside0.mk hC
  clear hC
  go_enter Try.func17, Try.ntmps17
  go_wp2_with fail
  refine (bclone_any _ A _ c xs (by omega) HC.out).mono ?_
  rintro e w1 ⟨v, rfl, hH⟩
  obtain ⟨A1, c1, rfl, hc1, hC1⟩ := hH.reads 0 rfl
  have H1 := Aside0.mk hH
  have HC1 := Aside0.mk hC1
  clear hH hC1
  go_wp2_with fail
  refine (guess_any _ A1 _ c1 xs hc1 HC1.out).mono ?_
  rintro e w2 ⟨rfl, hH⟩
  have H2 := Aside0.mk ((H1.out.app hH).tail)
  clear hH
  obtain ⟨q, hq⟩ : ∃ q, q = guessOf xs := ⟨_, rfl⟩
  rw [← hq]
  have HQ := Aside0.mk hq
  clear hq
  go_wp2
  go_ret
  exact ⟨by rw [← HQ.out]; rfl, H2.out⟩
end Go.Proofs.Ytlncbbmmlhammaa
