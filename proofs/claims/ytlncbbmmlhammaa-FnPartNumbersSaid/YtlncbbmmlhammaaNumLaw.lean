/-
  Numbers as texts: which are equal, which is longer. No program in sight.
-/
import Derived.Test.YtlncbbmmlhammaaNum
import Derived.Test.YtlncbbmmlhammaaDecLaw
namespace Go.Proofs.Ytlncbbmmlhammaa
open Go.RowKit Go.Proofs.YtlncbbmmlhammaaW.PrintWords Go.Lib
set_option linter.unusedVariables false
set_option linter.unusedSimpArgs false
def valF (n : Nat) (l : List UInt8) : Nat := l.foldl (fun n c => n * 256 + c.toNat) n
theorem valF_be8b (v : Nat) (h : v < 18446744073709551616) : valF 0 (be8b v) = v := by
  have e : ∀ k : Nat, (UInt8.ofNat (k % 256)).toNat = k % 256 := fun k => UInt8.toNat_ofNat_of_lt' (show k % 256 < 256 by omega)
  unfold valF be8b
  simp only [List.foldl_cons, List.foldl_nil, e]
  omega
theorem valF_strip : ∀ l : List UInt8, valF 0 (stripZ l) = valF 0 l
  | [] => rfl
  | x :: r => by
    unfold stripZ
    rw [List.dropWhile_cons]
    by_cases h : x = 0
    · subst h
      rw [if_pos (by rfl)]
      exact valF_strip r
    · rw [if_neg (by simpa using h)]
theorem valF_lt : ∀ (l : List UInt8) (n : Nat), valF n l < (n + 1) * 256 ^ l.length
  | [], n => by simp [valF]
  | x :: r, n => by
    have hx := x.toNat_lt
    have ih := valF_lt r (n * 256 + x.toNat)
    show valF (n * 256 + x.toNat) r < _
    refine Nat.lt_of_lt_of_le ih ?_
    rw [List.length_cons, Nat.pow_succ, Nat.mul_comm (256 ^ r.length) 256, ← Nat.mul_assoc]
    exact Nat.mul_le_mul_right _ (by omega)
theorem valF_ge : ∀ (l : List UInt8) (n : Nat), n * 256 ^ l.length ≤ valF n l
  | [], n => by simp [valF]
  | x :: r, n => by
    have ih := valF_ge r (n * 256 + x.toNat)
    show _ ≤ valF (n * 256 + x.toNat) r
    refine Nat.le_trans ?_ ih
    rw [List.length_cons, Nat.pow_succ, Nat.mul_comm (256 ^ r.length) 256, ← Nat.mul_assoc]
    exact Nat.mul_le_mul_right _ (by omega)
theorem strip_head : ∀ l : List UInt8, stripZ l = [] ∨ ∃ x r, stripZ l = x :: r ∧ x ≠ 0
  | [] => .inl rfl
  | x :: r => by
    unfold stripZ
    rw [List.dropWhile_cons]
    by_cases h : x = 0
    · subst h
      rw [if_pos (by rfl)]
      exact strip_head r
    · rw [if_neg (by simpa using h)]
      exact .inr ⟨x, r, rfl, h⟩
theorem strip_len {u v : Nat} (hu : u < 18446744073709551616) (hv : v < 18446744073709551616) (h : u ≤ v) : (stripZ (be8b u)).length ≤ (stripZ (be8b v)).length := by
  rcases Nat.lt_or_ge (stripZ (be8b v)).length (stripZ (be8b u)).length with hlt | hge
  · exfalso
    have e1 := valF_strip (be8b u)
    have e2 := valF_strip (be8b v)
    rw [valF_be8b _ hu] at e1
    rw [valF_be8b _ hv] at e2
    have l2 := valF_lt (stripZ (be8b v)) 0
    rw [e2] at l2
    rcases strip_head (be8b u) with h0 | ⟨x, r, h0, hx⟩
    · rw [h0] at hlt; simp at hlt
    · rw [h0] at e1 hlt
      have hx1 : 1 ≤ x.toNat := by
        rcases Nat.eq_zero_or_pos x.toNat with h | h
        · exact absurd (UInt8.toNat_inj.1 (by simpa using h)) hx
        · exact h
      have g : x.toNat * 256 ^ r.length ≤ u := by
        rw [← e1]
        show _ ≤ valF (0 * 256 + x.toNat) r
        have := valF_ge r (0 * 256 + x.toNat)
        simpa using this
      have g2 : 256 ^ (stripZ (be8b v)).length ≤ 256 ^ r.length := Nat.pow_le_pow_right (by decide) (by simp at hlt; omega)
      have g3 : 1 * 256 ^ r.length ≤ x.toNat * 256 ^ r.length := Nat.mul_le_mul_right _ hx1
      omega
  · exact hge
theorem strip_inj {u v : Nat} (hu : u < 18446744073709551616) (hv : v < 18446744073709551616) (h : stripZ (be8b u) = stripZ (be8b v)) : u = v := by
  have e1 := valF_strip (be8b u)
  have e2 := valF_strip (be8b v)
  rw [valF_be8b _ hu] at e1
  rw [valF_be8b _ hv] at e2
  rw [← e1, h, e2]
/-- A number's text. -/
def numTxt (v : Nat) : ByteArray := bStr (b64 true (stripZ (be8b v)))
theorem numTxt_eq {u v : Nat} (hu : u < 18446744073709551616) (hv : v < 18446744073709551616) : ((numTxt u).toList == (numTxt v).toList) = ((u : Int) == (v : Int)) := by
  have hb : ∀ l, (bStr l).toList = l := fun l => by rw [ByteArray.toList_eq]; rfl
  unfold numTxt
  rw [hb, hb]
  by_cases h : u = v
  · subst h; simp
  · rw [beq_eq_false_iff_ne.2 (fun e => h (strip_inj hu hv (b64_inj e))), beq_eq_false_iff_ne.2 (by omega)]
theorem numTxt_len {u v : Nat} (hu : u < 18446744073709551616) (hv : v < 18446744073709551616) (h : u ≤ v) : (numTxt u).size ≤ (numTxt v).size := by
  have hb : ∀ l, (bStr l).size = l.length := fun l => rfl
  unfold numTxt
  rw [hb, hb, b64_len, b64_len]
  have := strip_len hu hv h
  unfold encLen
  omega
end Go.Proofs.Ytlncbbmmlhammaa
