/-
  Texts that are UTF-8 as lists of characters: what is decoded at a place; what ValidString says. Plain.
-/
import Derived.Test.YtgldcjmdjhghpaaGreatDoorQl
import Derived.Lib.MapLaws
import Derived.Lib.TrimUEq
import Derived.Lib.ValidU
namespace Go.Proofs.YtgldcjmdjhghpaaGreatDoor
open Go.RowKit Go.Proofs.YtgldcjmdjhghpaaGreatDoorW.PrintWords Go.ChangeShapes Go.WideShapes
set_option linter.unusedVariables false
set_option linter.unusedSimpArgs false
theorem ofNat_lt {n : Nat} (h : n < 256) : (UInt8.ofNat n).toNat = n := by simp; omega
/-- The four shapes of a character. -/
theorem utf8_shape {c : Nat} (hc : RuneOk c) :
    (c < 128 ∧ utf8 c = [UInt8.ofNat c]) ∨ (128 ≤ c ∧ c < 2048 ∧ utf8 c = [UInt8.ofNat (192 + c / 64), UInt8.ofNat (128 + c % 64)]) ∨
    (2048 ≤ c ∧ c < 65536 ∧ (c < 55296 ∨ 57344 ≤ c) ∧ utf8 c = [UInt8.ofNat (224 + c / 4096), UInt8.ofNat (128 + c / 64 % 64), UInt8.ofNat (128 + c % 64)]) ∨
    (65536 ≤ c ∧ c < 1114112 ∧ utf8 c = [UInt8.ofNat (240 + c / 262144), UInt8.ofNat (128 + c / 4096 % 64), UInt8.ofNat (128 + c / 64 % 64), UInt8.ofNat (128 + c % 64)]) := by
  obtain ⟨h1, h2⟩ := hc
  have h3 : ¬ (55296 ≤ c ∧ c < 57344) := by
    unfold isSur at h2
    rw [Bool.and_eq_false_iff, decide_eq_false_iff_not, decide_eq_false_iff_not] at h2
    omega
  unfold utf8
  by_cases a1 : c < 128
  · exact .inl ⟨a1, by rw [if_pos a1]⟩
  · by_cases a2 : c < 2048
    · exact .inr (.inl ⟨by omega, a2, by rw [if_neg a1, if_pos a2]⟩)
    · by_cases a3 : c < 65536
      · exact .inr (.inr (.inl ⟨by omega, a3, by omega, by rw [if_neg a1, if_neg a2, if_neg (by omega), if_pos a3]⟩))
      · exact .inr (.inr (.inr ⟨by omega, h1, by rw [if_neg a1, if_neg a2, if_neg (by omega), if_neg a3]⟩))
theorem decodeL_utf8 {c : Nat} (hc : RuneOk c) (rest : Bs) : Lib.decodeL (utf8 c ++ rest) = (c, (utf8 c).length) := by
  rw [Lib.decodeL_N]
  unfold Lib.decodeN
  rcases utf8_shape hc with ⟨h1, e⟩ | ⟨h1, h2, e⟩ | ⟨h1, h2, h3, e⟩ | ⟨h1, h2, e⟩
  · rw [e]
    have e0 : ([UInt8.ofNat c] ++ rest).getD 0 0 = UInt8.ofNat c := rfl
    rw [e0, ofNat_lt (by omega), if_pos h1]
    rfl
  · rw [e]
    have e0 : ([UInt8.ofNat (192 + c / 64), UInt8.ofNat (128 + c % 64)] ++ rest).getD 0 0 = UInt8.ofNat (192 + c / 64) := rfl
    have e1 : ([UInt8.ofNat (192 + c / 64), UInt8.ofNat (128 + c % 64)] ++ rest).getD 1 0 = UInt8.ofNat (128 + c % 64) := rfl
    have el : ([UInt8.ofNat (192 + c / 64), UInt8.ofNat (128 + c % 64)] ++ rest).length = rest.length + 2 := rfl
    rw [e0, e1, el, ofNat_lt (by omega), ofNat_lt (by omega), if_neg (by omega), if_pos ⟨by omega, by omega, by omega⟩, if_pos (by omega)]
    exact Prod.ext (by show _ % 32 * 64 + _ % 64 = c; omega) rfl
  · rw [e]
    have e0 : ([UInt8.ofNat (224 + c / 4096), UInt8.ofNat (128 + c / 64 % 64), UInt8.ofNat (128 + c % 64)] ++ rest).getD 0 0 = UInt8.ofNat (224 + c / 4096) := rfl
    have e1 : ([UInt8.ofNat (224 + c / 4096), UInt8.ofNat (128 + c / 64 % 64), UInt8.ofNat (128 + c % 64)] ++ rest).getD 1 0 = UInt8.ofNat (128 + c / 64 % 64) := rfl
    have e2 : ([UInt8.ofNat (224 + c / 4096), UInt8.ofNat (128 + c / 64 % 64), UInt8.ofNat (128 + c % 64)] ++ rest).getD 2 0 = UInt8.ofNat (128 + c % 64) := rfl
    have el : ([UInt8.ofNat (224 + c / 4096), UInt8.ofNat (128 + c / 64 % 64), UInt8.ofNat (128 + c % 64)] ++ rest).length = rest.length + 3 := rfl
    have hv : (224 + c / 4096) % 16 * 4096 + (128 + c / 64 % 64) % 64 * 64 + (128 + c % 64) % 64 = c := by omega
    rw [e0, e1, e2, el, ofNat_lt (by omega), ofNat_lt (by omega), ofNat_lt (by omega), if_neg (by omega), if_neg (by omega), if_pos ⟨by omega, ⟨by omega, by omega⟩, by omega, by omega⟩, hv, if_pos ⟨by omega, by omega⟩]
    rfl
  · rw [e]
    have e0 : ([UInt8.ofNat (240 + c / 262144), UInt8.ofNat (128 + c / 4096 % 64), UInt8.ofNat (128 + c / 64 % 64), UInt8.ofNat (128 + c % 64)] ++ rest).getD 0 0 = UInt8.ofNat (240 + c / 262144) := rfl
    have e1 : ([UInt8.ofNat (240 + c / 262144), UInt8.ofNat (128 + c / 4096 % 64), UInt8.ofNat (128 + c / 64 % 64), UInt8.ofNat (128 + c % 64)] ++ rest).getD 1 0 = UInt8.ofNat (128 + c / 4096 % 64) := rfl
    have e2 : ([UInt8.ofNat (240 + c / 262144), UInt8.ofNat (128 + c / 4096 % 64), UInt8.ofNat (128 + c / 64 % 64), UInt8.ofNat (128 + c % 64)] ++ rest).getD 2 0 = UInt8.ofNat (128 + c / 64 % 64) := rfl
    have e3 : ([UInt8.ofNat (240 + c / 262144), UInt8.ofNat (128 + c / 4096 % 64), UInt8.ofNat (128 + c / 64 % 64), UInt8.ofNat (128 + c % 64)] ++ rest).getD 3 0 = UInt8.ofNat (128 + c % 64) := rfl
    have el : ([UInt8.ofNat (240 + c / 262144), UInt8.ofNat (128 + c / 4096 % 64), UInt8.ofNat (128 + c / 64 % 64), UInt8.ofNat (128 + c % 64)] ++ rest).length = rest.length + 4 := rfl
    have hv : (240 + c / 262144) % 8 * 262144 + (128 + c / 4096 % 64) % 64 * 4096 + (128 + c / 64 % 64) % 64 * 64 + (128 + c % 64) % 64 = c := by omega
    rw [e0, e1, e2, e3, el, ofNat_lt (by omega), ofNat_lt (by omega), ofNat_lt (by omega), ofNat_lt (by omega), if_neg (by omega), if_neg (by omega), if_neg (by omega), if_pos ⟨by omega, ⟨by omega, by omega⟩, ⟨by omega, by omega⟩, by omega, by omega⟩, hv, if_pos ⟨by omega, by omega⟩]
    rfl
/-- What is decoded at a place of a text. -/
theorem decode_at_rune (pre rest : Bs) {c : Nat} (hc : RuneOk c) : Utf8.decode (bStr (pre ++ (utf8 c ++ rest))) pre.length = (c, (utf8 c).length) := by
  rw [← Lib.decodeL_drop, bStr_list, List.drop_left' rfl]
  exact decodeL_utf8 hc rest
theorem encodeRune_utf8 {c : Nat} (hc : RuneOk c) : Lib.encodeRune (c : Int) = utf8 c := by
  unfold Lib.encodeRune
  rcases utf8_shape hc with ⟨h1, e⟩ | ⟨h1, h2, e⟩ | ⟨h1, h2, h3, e⟩ | ⟨h1, h2, e⟩
  · rw [e, Lib.encodeRuneZ_one (by omega) (by omega)]
    rfl
  · rw [e, Lib.encodeRuneZ_two (by omega) (by omega)]
    simp only [List.map_cons, List.map_nil]
    rw [show ((192 : Int) + (c : Int) / 64).toNat = 192 + c / 64 by omega, show ((128 : Int) + (c : Int) % 64).toNat = 128 + c % 64 by omega]
  · rw [e, Lib.encodeRuneZ_three (by omega)]
    simp only [List.map_cons, List.map_nil]
    rw [show ((224 : Int) + (c : Int) / 4096).toNat = 224 + c / 4096 by omega, show ((128 : Int) + (c : Int) / 64 % 64).toNat = 128 + c / 64 % 64 by omega, show ((128 : Int) + (c : Int) % 64).toNat = 128 + c % 64 by omega]
  · have hz : Lib.encodeRuneZ (c : Int) = [240 + (c : Int) / 262144, 128 + (c : Int) / 4096 % 64, 128 + (c : Int) / 64 % 64, 128 + (c : Int) % 64] := by
      unfold Lib.encodeRuneZ
      rw [if_neg (by omega), if_neg (by omega), if_neg (by omega), if_pos (by omega)]
    rw [e, hz]
    simp only [List.map_cons, List.map_nil]
    rw [show ((240 : Int) + (c : Int) / 262144).toNat = 240 + c / 262144 by omega, show ((128 : Int) + (c : Int) / 4096 % 64).toNat = 128 + c / 4096 % 64 by omega, show ((128 : Int) + (c : Int) / 64 % 64).toNat = 128 + c / 64 % 64 by omega, show ((128 : Int) + (c : Int) % 64).toNat = 128 + c % 64 by omega]
/-- What is decoded of valid bytes is a character that may stand in a text. -/
theorem decodeL_ok (l : Bs) (hv : ¬ ((Lib.decodeL l).1 = 65533 ∧ (Lib.decodeL l).2 = 1)) : RuneOk (Lib.decodeL l).1 := by
  rw [Lib.decodeL_N] at hv ⊢
  have k0 := (l.getD 0 0).toNat_lt
  have k1 := (l.getD 1 0).toNat_lt
  have mk : ∀ c : Nat, c < 1114112 → (c < 55296 ∨ 57344 ≤ c) → RuneOk c := fun c h1 h2 => ⟨h1, by
    unfold isSur
    rw [Bool.and_eq_false_iff, decide_eq_false_iff_not, decide_eq_false_iff_not]
    omega⟩
  rcases Lib.decodeN_shape l.length (l.getD 0 0).toNat (l.getD 1 0).toNat (l.getD 2 0).toNat (l.getD 3 0).toNat with ⟨c, e⟩ | ⟨c1, c2, c3, cv, e⟩ | ⟨c1, c2, c3, c4, cv, cs, e⟩ | ⟨c1, c2, c3, c4, c5, cv, cw, e⟩ | e
  · rw [e]; exact mk _ (by show (l.getD 0 0).toNat < _; omega) (.inl (by show (l.getD 0 0).toNat < _; omega))
  · rw [e]; exact mk _ (by show _ % 32 * 64 + _ % 64 < _; omega) (.inl (by show _ % 32 * 64 + _ % 64 < _; omega))
  · rw [e]; exact mk _ (by show _ % 16 * 4096 + _ % 64 * 64 + _ % 64 < _; omega) cs
  · rw [e]; exact mk _ (by show _ % 8 * 262144 + _ % 64 * 4096 + _ % 64 * 64 + _ % 64 < _; omega) (.inr (by show 57344 ≤ _ % 8 * 262144 + _ % 64 * 4096 + _ % 64 * 64 + _ % 64; omega))
  · rw [e] at hv
    exact absurd ⟨rfl, rfl⟩ hv
theorem valid_runes_go : ∀ (n : Nat) (l : Bs), l.length ≤ n → Lib.validGoD n l = true → ∃ rs, (∀ c ∈ rs, RuneOk c) ∧ l = encR rs := by
  intro n
  induction n with
  | zero =>
    intro l hl _
    exact ⟨[], (fun c h => by cases h), List.eq_nil_of_length_eq_zero (by omega)⟩
  | succ n ih =>
    intro l hl hv
    rw [Lib.validGoD] at hv
    by_cases h0 : l = []
    · exact ⟨[], (fun c h => by cases h), h0⟩
    · rw [if_neg h0] at hv
      by_cases hb : (Lib.decodeL l).1 = 65533 ∧ (Lib.decodeL l).2 = 1
      · rw [if_pos hb] at hv; cases hv
      · rw [if_neg hb] at hv
        have hw := Lib.decodeL_width l
        have hpos : 0 < l.length := List.length_pos_iff.2 h0
        obtain ⟨rs, h1, h2⟩ := ih (l.drop (Lib.decodeL l).2) (by rw [List.length_drop]; omega) hv
        have hok := decodeL_ok l hb
        have he := Lib.encode_decode l h0 hb
        rw [encodeRune_utf8 hok] at he
        refine ⟨(Lib.decodeL l).1 :: rs, fun c hc => ?_, ?_⟩
        · rcases List.mem_cons.1 hc with rfl | hc
          · exact hok
          · exact h1 c hc
        · show l = utf8 (Lib.decodeL l).1 ++ encR rs
          rw [he, ← h2, List.take_append_drop]
theorem valid_runes {l : Bs} (hv : Lib.validD l = true) : ∃ rs, (∀ c ∈ rs, RuneOk c) ∧ l = encR rs := valid_runes_go _ l (Nat.le_refl _) hv
theorem encR_append (a b : List Nat) : encR (a ++ b) = encR a ++ encR b := List.flatMap_append ..
end Go.Proofs.YtgldcjmdjhghpaaGreatDoor
