-- PRINTED BY print.sh 35421559b90ae4d0a3588c463048766b98c2df88dd9212a6774a882060cdf62d: not written by this session
import Derived.Test.YtlncbbmmlhammaaPFnPartKindx0
namespace Go.Proofs.Ytlncbbmmlhammaa.PFnPartKind
open Go.RowKit Go.Proofs.YtlncbbmmlhammaaW.PrintWords Go.Proofs.YtlncbbmmlhammaaW.PrintLast Go.Proofs.YtlncbbmmlhammaaW.PrintMore
attribute [local go_sem] max2_int min2_int max_two min_two max_three min_three max_four min_four   -- for this text's walks alone
set_option linter.unusedVariables false
set_option linter.unusedSimpArgs false

-- NOT PRINTED: function 52 (base64_getDecoder)

-- NOT PRINTED: function 30 (base64_Decode)

-- NOT PRINTED: function 31 (bytes_Clone)

-- NOT PRINTED: function 15 (impl_Decoded)

-- NOT PRINTED: function 60 (base64_NewEncoding)

-- NOT PRINTED: function 61 (base64_Encoding_WithPadding)

-- NOT PRINTED: function 59 (base64_zzRawURL)

-- NOT PRINTED: function 55 (base64_getEncoder)

-- NOT PRINTED: function 34 (base64_Encode)

-- NOT PRINTED: function 19 (impl_Encoded)

-- NOT PRINTED: function 13 (laws_partAwake)

/-! ### jwebb_IsAESGCMKW: function 43 -/
def jwebb_IsAESGCMKW.f (a0 : ByteArray) : Option (Bool) := if a0.toList = ([65, 49, 50, 56, 71, 67, 77, 75, 87] : List UInt8) then (some true) else (if a0.toList = ([65, 49, 57, 50, 71, 67, 77, 75, 87] : List UInt8) then (some true) else (if a0.toList = ([65, 50, 53, 54, 71, 67, 77, 75, 87] : List UInt8) then (some true) else (some false)))
set_option maxHeartbeats 8000000 in
set_option maxRecDepth 100000 in
theorem jwebb_IsAESGCMKW.calls (a0 : ByteArray) (r : Bool) (w : World) (h : jwebb_IsAESGCMKW.f a0 = some r) :
    Calls Try.prog 43 #[.string a0] w fun e w' => e = .returned (.bool r) ∧ Drawn0 w w' := by
  have H : (if a0.toList = ([65, 49, 50, 56, 71, 67, 77, 75, 87] : List UInt8) then (some true) else (if a0.toList = ([65, 49, 57, 50, 71, 67, 77, 75, 87] : List UInt8) then (some true) else (if a0.toList = ([65, 50, 53, 54, 71, 67, 77, 75, 87] : List UInt8) then (some true) else (some false)))) = some r := h
  clear h
  by_cases c2 : a0.toList = ([65, 49, 50, 56, 71, 67, 77, 75, 87] : List UInt8)
  · rw [if_pos c2] at H
    have c2b0 : (a0.toList == ([65, 49, 50, 56, 71, 67, 77, 75, 87] : List UInt8)) = true := beq_iff_eq.mpr c2
    have c2b1 : (a0.toList != ([65, 49, 50, 56, 71, 67, 77, 75, 87] : List UInt8)) = false := bne_eq_false_iff_eq.mpr c2
    clear c2
    obtain rfl := Option.some.inj H
    go_enter Try.func43, Try.ntmps43
    go_wp2
    go_ret
    exact ⟨by first | rfl | (simp; done) | (simp [*]; done), by repeat (first | exact Drawn0.refl _ | apply Drawn0.step)⟩
  · rw [if_neg c2] at H
    have c2b0 : (a0.toList == ([65, 49, 50, 56, 71, 67, 77, 75, 87] : List UInt8)) = false := beq_eq_false_iff_ne.mpr c2
    have c2b1 : (a0.toList != ([65, 49, 50, 56, 71, 67, 77, 75, 87] : List UInt8)) = true := bne_iff_ne.mpr c2
    by_cases c3 : a0.toList = ([65, 49, 57, 50, 71, 67, 77, 75, 87] : List UInt8)
    · rw [if_pos c3] at H
      have c3b0 : (a0.toList == ([65, 49, 57, 50, 71, 67, 77, 75, 87] : List UInt8)) = true := beq_iff_eq.mpr c3
      have c3b1 : (a0.toList != ([65, 49, 57, 50, 71, 67, 77, 75, 87] : List UInt8)) = false := bne_eq_false_iff_eq.mpr c3
      clear c3
      obtain rfl := Option.some.inj H
      go_enter Try.func43, Try.ntmps43
      go_wp2
      go_ret
      exact ⟨by first | rfl | (simp; done) | (simp [*]; done), by repeat (first | exact Drawn0.refl _ | apply Drawn0.step)⟩
    · rw [if_neg c3] at H
      have c3b0 : (a0.toList == ([65, 49, 57, 50, 71, 67, 77, 75, 87] : List UInt8)) = false := beq_eq_false_iff_ne.mpr c3
      have c3b1 : (a0.toList != ([65, 49, 57, 50, 71, 67, 77, 75, 87] : List UInt8)) = true := bne_iff_ne.mpr c3
      by_cases c4 : a0.toList = ([65, 50, 53, 54, 71, 67, 77, 75, 87] : List UInt8)
      · rw [if_pos c4] at H
        have c4b0 : (a0.toList == ([65, 50, 53, 54, 71, 67, 77, 75, 87] : List UInt8)) = true := beq_iff_eq.mpr c4
        have c4b1 : (a0.toList != ([65, 50, 53, 54, 71, 67, 77, 75, 87] : List UInt8)) = false := bne_eq_false_iff_eq.mpr c4
        clear c4
        obtain rfl := Option.some.inj H
        go_enter Try.func43, Try.ntmps43
        go_wp2
        go_ret
        exact ⟨by first | rfl | (simp; done) | (simp [*]; done), by repeat (first | exact Drawn0.refl _ | apply Drawn0.step)⟩
      · rw [if_neg c4] at H
        have c4b0 : (a0.toList == ([65, 50, 53, 54, 71, 67, 77, 75, 87] : List UInt8)) = false := beq_eq_false_iff_ne.mpr c4
        have c4b1 : (a0.toList != ([65, 50, 53, 54, 71, 67, 77, 75, 87] : List UInt8)) = true := bne_iff_ne.mpr c4
        obtain rfl := Option.some.inj H
        go_enter Try.func43, Try.ntmps43
        go_wp2
        go_ret
        exact ⟨by first | rfl | (simp; done) | (simp [*]; done), by repeat (first | exact Drawn0.refl _ | apply Drawn0.step)⟩

/-! ### jwebb_IsAESKW: function 44 -/
def jwebb_IsAESKW.f (a0 : ByteArray) : Option (Bool) := if a0.toList = ([65, 49, 50, 56, 75, 87] : List UInt8) then (some true) else (if a0.toList = ([65, 49, 57, 50, 75, 87] : List UInt8) then (some true) else (if a0.toList = ([65, 50, 53, 54, 75, 87] : List UInt8) then (some true) else (some false)))
set_option maxHeartbeats 8000000 in
set_option maxRecDepth 100000 in
theorem jwebb_IsAESKW.calls (a0 : ByteArray) (r : Bool) (w : World) (h : jwebb_IsAESKW.f a0 = some r) :
    Calls Try.prog 44 #[.string a0] w fun e w' => e = .returned (.bool r) ∧ Drawn0 w w' := by
  have H : (if a0.toList = ([65, 49, 50, 56, 75, 87] : List UInt8) then (some true) else (if a0.toList = ([65, 49, 57, 50, 75, 87] : List UInt8) then (some true) else (if a0.toList = ([65, 50, 53, 54, 75, 87] : List UInt8) then (some true) else (some false)))) = some r := h
  clear h
  by_cases c2 : a0.toList = ([65, 49, 50, 56, 75, 87] : List UInt8)
  · rw [if_pos c2] at H
    have c2b0 : (a0.toList == ([65, 49, 50, 56, 75, 87] : List UInt8)) = true := beq_iff_eq.mpr c2
    have c2b1 : (a0.toList != ([65, 49, 50, 56, 75, 87] : List UInt8)) = false := bne_eq_false_iff_eq.mpr c2
    clear c2
    obtain rfl := Option.some.inj H
    go_enter Try.func44, Try.ntmps44
    go_wp2
    go_ret
    exact ⟨by first | rfl | (simp; done) | (simp [*]; done), by repeat (first | exact Drawn0.refl _ | apply Drawn0.step)⟩
  · rw [if_neg c2] at H
    have c2b0 : (a0.toList == ([65, 49, 50, 56, 75, 87] : List UInt8)) = false := beq_eq_false_iff_ne.mpr c2
    have c2b1 : (a0.toList != ([65, 49, 50, 56, 75, 87] : List UInt8)) = true := bne_iff_ne.mpr c2
    by_cases c3 : a0.toList = ([65, 49, 57, 50, 75, 87] : List UInt8)
    · rw [if_pos c3] at H
      have c3b0 : (a0.toList == ([65, 49, 57, 50, 75, 87] : List UInt8)) = true := beq_iff_eq.mpr c3
      have c3b1 : (a0.toList != ([65, 49, 57, 50, 75, 87] : List UInt8)) = false := bne_eq_false_iff_eq.mpr c3
      clear c3
      obtain rfl := Option.some.inj H
      go_enter Try.func44, Try.ntmps44
      go_wp2
      go_ret
      exact ⟨by first | rfl | (simp; done) | (simp [*]; done), by repeat (first | exact Drawn0.refl _ | apply Drawn0.step)⟩
    · rw [if_neg c3] at H
      have c3b0 : (a0.toList == ([65, 49, 57, 50, 75, 87] : List UInt8)) = false := beq_eq_false_iff_ne.mpr c3
      have c3b1 : (a0.toList != ([65, 49, 57, 50, 75, 87] : List UInt8)) = true := bne_iff_ne.mpr c3
      by_cases c4 : a0.toList = ([65, 50, 53, 54, 75, 87] : List UInt8)
      · rw [if_pos c4] at H
        have c4b0 : (a0.toList == ([65, 50, 53, 54, 75, 87] : List UInt8)) = true := beq_iff_eq.mpr c4
        have c4b1 : (a0.toList != ([65, 50, 53, 54, 75, 87] : List UInt8)) = false := bne_eq_false_iff_eq.mpr c4
        clear c4
        obtain rfl := Option.some.inj H
        go_enter Try.func44, Try.ntmps44
        go_wp2
        go_ret
        exact ⟨by first | rfl | (simp; done) | (simp [*]; done), by repeat (first | exact Drawn0.refl _ | apply Drawn0.step)⟩
      · rw [if_neg c4] at H
        have c4b0 : (a0.toList == ([65, 50, 53, 54, 75, 87] : List UInt8)) = false := beq_eq_false_iff_ne.mpr c4
        have c4b1 : (a0.toList != ([65, 50, 53, 54, 75, 87] : List UInt8)) = true := bne_iff_ne.mpr c4
        obtain rfl := Option.some.inj H
        go_enter Try.func44, Try.ntmps44
        go_wp2
        go_ret
        exact ⟨by first | rfl | (simp; done) | (simp [*]; done), by repeat (first | exact Drawn0.refl _ | apply Drawn0.step)⟩

/-! ### jwebb_IsDirect: function 45 -/
def jwebb_IsDirect.f (a0 : ByteArray) : Option (Bool) := some (a0.toList == ([100, 105, 114] : List UInt8))
set_option maxHeartbeats 8000000 in
set_option maxRecDepth 100000 in
theorem jwebb_IsDirect.calls (a0 : ByteArray) (r : Bool) (w : World) (h : jwebb_IsDirect.f a0 = some r) :
    Calls Try.prog 45 #[.string a0] w fun e w' => e = .returned (.bool r) ∧ Drawn0 w w' := by
  have H : (some (a0.toList == ([100, 105, 114] : List UInt8))) = some r := h
  clear h
  obtain rfl := Option.some.inj H
  go_enter Try.func45, Try.ntmps45
  go_wp2
  go_ret
  exact ⟨by first | rfl | (simp; done) | (simp [*]; done), by repeat (first | exact Drawn0.refl _ | apply Drawn0.step)⟩

/-! ### jwebb_IsECDHES: function 46 -/
def jwebb_IsECDHES.f (a0 : ByteArray) : Option (Bool) := if a0.toList = ([69, 67, 68, 72, 45, 69, 83] : List UInt8) then (some true) else (if a0.toList = ([69, 67, 68, 72, 45, 69, 83, 43, 65, 49, 50, 56, 75, 87] : List UInt8) then (some true) else (if a0.toList = ([69, 67, 68, 72, 45, 69, 83, 43, 65, 49, 57, 50, 75, 87] : List UInt8) then (some true) else (if a0.toList = ([69, 67, 68, 72, 45, 69, 83, 43, 65, 50, 53, 54, 75, 87] : List UInt8) then (some true) else (some false))))
set_option maxHeartbeats 8000000 in
set_option maxRecDepth 100000 in
theorem jwebb_IsECDHES.calls (a0 : ByteArray) (r : Bool) (w : World) (h : jwebb_IsECDHES.f a0 = some r) :
    Calls Try.prog 46 #[.string a0] w fun e w' => e = .returned (.bool r) ∧ Drawn0 w w' := by
  have H : (if a0.toList = ([69, 67, 68, 72, 45, 69, 83] : List UInt8) then (some true) else (if a0.toList = ([69, 67, 68, 72, 45, 69, 83, 43, 65, 49, 50, 56, 75, 87] : List UInt8) then (some true) else (if a0.toList = ([69, 67, 68, 72, 45, 69, 83, 43, 65, 49, 57, 50, 75, 87] : List UInt8) then (some true) else (if a0.toList = ([69, 67, 68, 72, 45, 69, 83, 43, 65, 50, 53, 54, 75, 87] : List UInt8) then (some true) else (some false))))) = some r := h
  clear h
  by_cases c2 : a0.toList = ([69, 67, 68, 72, 45, 69, 83] : List UInt8)
  · rw [if_pos c2] at H
    have c2b0 : (a0.toList == ([69, 67, 68, 72, 45, 69, 83] : List UInt8)) = true := beq_iff_eq.mpr c2
    have c2b1 : (a0.toList != ([69, 67, 68, 72, 45, 69, 83] : List UInt8)) = false := bne_eq_false_iff_eq.mpr c2
    clear c2
    obtain rfl := Option.some.inj H
    go_enter Try.func46, Try.ntmps46
    go_wp2
    go_ret
    exact ⟨by first | rfl | (simp; done) | (simp [*]; done), by repeat (first | exact Drawn0.refl _ | apply Drawn0.step)⟩
  · rw [if_neg c2] at H
    have c2b0 : (a0.toList == ([69, 67, 68, 72, 45, 69, 83] : List UInt8)) = false := beq_eq_false_iff_ne.mpr c2
    have c2b1 : (a0.toList != ([69, 67, 68, 72, 45, 69, 83] : List UInt8)) = true := bne_iff_ne.mpr c2
    by_cases c3 : a0.toList = ([69, 67, 68, 72, 45, 69, 83, 43, 65, 49, 50, 56, 75, 87] : List UInt8)
    · rw [if_pos c3] at H
      have c3b0 : (a0.toList == ([69, 67, 68, 72, 45, 69, 83, 43, 65, 49, 50, 56, 75, 87] : List UInt8)) = true := beq_iff_eq.mpr c3
      have c3b1 : (a0.toList != ([69, 67, 68, 72, 45, 69, 83, 43, 65, 49, 50, 56, 75, 87] : List UInt8)) = false := bne_eq_false_iff_eq.mpr c3
      clear c3
      obtain rfl := Option.some.inj H
      go_enter Try.func46, Try.ntmps46
      go_wp2
      go_ret
      exact ⟨by first | rfl | (simp; done) | (simp [*]; done), by repeat (first | exact Drawn0.refl _ | apply Drawn0.step)⟩
    · rw [if_neg c3] at H
      have c3b0 : (a0.toList == ([69, 67, 68, 72, 45, 69, 83, 43, 65, 49, 50, 56, 75, 87] : List UInt8)) = false := beq_eq_false_iff_ne.mpr c3
      have c3b1 : (a0.toList != ([69, 67, 68, 72, 45, 69, 83, 43, 65, 49, 50, 56, 75, 87] : List UInt8)) = true := bne_iff_ne.mpr c3
      by_cases c4 : a0.toList = ([69, 67, 68, 72, 45, 69, 83, 43, 65, 49, 57, 50, 75, 87] : List UInt8)
      · rw [if_pos c4] at H
        have c4b0 : (a0.toList == ([69, 67, 68, 72, 45, 69, 83, 43, 65, 49, 57, 50, 75, 87] : List UInt8)) = true := beq_iff_eq.mpr c4
        have c4b1 : (a0.toList != ([69, 67, 68, 72, 45, 69, 83, 43, 65, 49, 57, 50, 75, 87] : List UInt8)) = false := bne_eq_false_iff_eq.mpr c4
        clear c4
        obtain rfl := Option.some.inj H
        go_enter Try.func46, Try.ntmps46
        go_wp2
        go_ret
        exact ⟨by first | rfl | (simp; done) | (simp [*]; done), by repeat (first | exact Drawn0.refl _ | apply Drawn0.step)⟩
      · rw [if_neg c4] at H
        have c4b0 : (a0.toList == ([69, 67, 68, 72, 45, 69, 83, 43, 65, 49, 57, 50, 75, 87] : List UInt8)) = false := beq_eq_false_iff_ne.mpr c4
        have c4b1 : (a0.toList != ([69, 67, 68, 72, 45, 69, 83, 43, 65, 49, 57, 50, 75, 87] : List UInt8)) = true := bne_iff_ne.mpr c4
        by_cases c5 : a0.toList = ([69, 67, 68, 72, 45, 69, 83, 43, 65, 50, 53, 54, 75, 87] : List UInt8)
        · rw [if_pos c5] at H
          have c5b0 : (a0.toList == ([69, 67, 68, 72, 45, 69, 83, 43, 65, 50, 53, 54, 75, 87] : List UInt8)) = true := beq_iff_eq.mpr c5
          have c5b1 : (a0.toList != ([69, 67, 68, 72, 45, 69, 83, 43, 65, 50, 53, 54, 75, 87] : List UInt8)) = false := bne_eq_false_iff_eq.mpr c5
          clear c5
          obtain rfl := Option.some.inj H
          go_enter Try.func46, Try.ntmps46
          go_wp2
          go_ret
          exact ⟨by first | rfl | (simp; done) | (simp [*]; done), by repeat (first | exact Drawn0.refl _ | apply Drawn0.step)⟩
        · rw [if_neg c5] at H
          have c5b0 : (a0.toList == ([69, 67, 68, 72, 45, 69, 83, 43, 65, 50, 53, 54, 75, 87] : List UInt8)) = false := beq_eq_false_iff_ne.mpr c5
          have c5b1 : (a0.toList != ([69, 67, 68, 72, 45, 69, 83, 43, 65, 50, 53, 54, 75, 87] : List UInt8)) = true := bne_iff_ne.mpr c5
          obtain rfl := Option.some.inj H
          go_enter Try.func46, Try.ntmps46
          go_wp2
          go_ret
          exact ⟨by first | rfl | (simp; done) | (simp [*]; done), by repeat (first | exact Drawn0.refl _ | apply Drawn0.step)⟩

/-! ### jwebb_IsPBES2: function 47 -/
def jwebb_IsPBES2.f (a0 : ByteArray) : Option (Bool) := if a0.toList = ([80, 66, 69, 83, 50, 45, 72, 83, 50, 53, 54, 43, 65, 49, 50, 56, 75, 87] : List UInt8) then (some true) else (if a0.toList = ([80, 66, 69, 83, 50, 45, 72, 83, 51, 56, 52, 43, 65, 49, 57, 50, 75, 87] : List UInt8) then (some true) else (if a0.toList = ([80, 66, 69, 83, 50, 45, 72, 83, 53, 49, 50, 43, 65, 50, 53, 54, 75, 87] : List UInt8) then (some true) else (some false)))
set_option maxHeartbeats 8000000 in
set_option maxRecDepth 100000 in
theorem jwebb_IsPBES2.calls (a0 : ByteArray) (r : Bool) (w : World) (h : jwebb_IsPBES2.f a0 = some r) :
    Calls Try.prog 47 #[.string a0] w fun e w' => e = .returned (.bool r) ∧ Drawn0 w w' := by
  have H : (if a0.toList = ([80, 66, 69, 83, 50, 45, 72, 83, 50, 53, 54, 43, 65, 49, 50, 56, 75, 87] : List UInt8) then (some true) else (if a0.toList = ([80, 66, 69, 83, 50, 45, 72, 83, 51, 56, 52, 43, 65, 49, 57, 50, 75, 87] : List UInt8) then (some true) else (if a0.toList = ([80, 66, 69, 83, 50, 45, 72, 83, 53, 49, 50, 43, 65, 50, 53, 54, 75, 87] : List UInt8) then (some true) else (some false)))) = some r := h
  clear h
  by_cases c2 : a0.toList = ([80, 66, 69, 83, 50, 45, 72, 83, 50, 53, 54, 43, 65, 49, 50, 56, 75, 87] : List UInt8)
  · rw [if_pos c2] at H
    have c2b0 : (a0.toList == ([80, 66, 69, 83, 50, 45, 72, 83, 50, 53, 54, 43, 65, 49, 50, 56, 75, 87] : List UInt8)) = true := beq_iff_eq.mpr c2
    have c2b1 : (a0.toList != ([80, 66, 69, 83, 50, 45, 72, 83, 50, 53, 54, 43, 65, 49, 50, 56, 75, 87] : List UInt8)) = false := bne_eq_false_iff_eq.mpr c2
    clear c2
    obtain rfl := Option.some.inj H
    go_enter Try.func47, Try.ntmps47
    go_wp2
    go_ret
    exact ⟨by first | rfl | (simp; done) | (simp [*]; done), by repeat (first | exact Drawn0.refl _ | apply Drawn0.step)⟩
  · rw [if_neg c2] at H
    have c2b0 : (a0.toList == ([80, 66, 69, 83, 50, 45, 72, 83, 50, 53, 54, 43, 65, 49, 50, 56, 75, 87] : List UInt8)) = false := beq_eq_false_iff_ne.mpr c2
    have c2b1 : (a0.toList != ([80, 66, 69, 83, 50, 45, 72, 83, 50, 53, 54, 43, 65, 49, 50, 56, 75, 87] : List UInt8)) = true := bne_iff_ne.mpr c2
    by_cases c3 : a0.toList = ([80, 66, 69, 83, 50, 45, 72, 83, 51, 56, 52, 43, 65, 49, 57, 50, 75, 87] : List UInt8)
    · rw [if_pos c3] at H
      have c3b0 : (a0.toList == ([80, 66, 69, 83, 50, 45, 72, 83, 51, 56, 52, 43, 65, 49, 57, 50, 75, 87] : List UInt8)) = true := beq_iff_eq.mpr c3
      have c3b1 : (a0.toList != ([80, 66, 69, 83, 50, 45, 72, 83, 51, 56, 52, 43, 65, 49, 57, 50, 75, 87] : List UInt8)) = false := bne_eq_false_iff_eq.mpr c3
      clear c3
      obtain rfl := Option.some.inj H
      go_enter Try.func47, Try.ntmps47
      go_wp2
      go_ret
      exact ⟨by first | rfl | (simp; done) | (simp [*]; done), by repeat (first | exact Drawn0.refl _ | apply Drawn0.step)⟩
    · rw [if_neg c3] at H
      have c3b0 : (a0.toList == ([80, 66, 69, 83, 50, 45, 72, 83, 51, 56, 52, 43, 65, 49, 57, 50, 75, 87] : List UInt8)) = false := beq_eq_false_iff_ne.mpr c3
      have c3b1 : (a0.toList != ([80, 66, 69, 83, 50, 45, 72, 83, 51, 56, 52, 43, 65, 49, 57, 50, 75, 87] : List UInt8)) = true := bne_iff_ne.mpr c3
      by_cases c4 : a0.toList = ([80, 66, 69, 83, 50, 45, 72, 83, 53, 49, 50, 43, 65, 50, 53, 54, 75, 87] : List UInt8)
      · rw [if_pos c4] at H
        have c4b0 : (a0.toList == ([80, 66, 69, 83, 50, 45, 72, 83, 53, 49, 50, 43, 65, 50, 53, 54, 75, 87] : List UInt8)) = true := beq_iff_eq.mpr c4
        have c4b1 : (a0.toList != ([80, 66, 69, 83, 50, 45, 72, 83, 53, 49, 50, 43, 65, 50, 53, 54, 75, 87] : List UInt8)) = false := bne_eq_false_iff_eq.mpr c4
        clear c4
        obtain rfl := Option.some.inj H
        go_enter Try.func47, Try.ntmps47
        go_wp2
        go_ret
        exact ⟨by first | rfl | (simp; done) | (simp [*]; done), by repeat (first | exact Drawn0.refl _ | apply Drawn0.step)⟩
      · rw [if_neg c4] at H
        have c4b0 : (a0.toList == ([80, 66, 69, 83, 50, 45, 72, 83, 53, 49, 50, 43, 65, 50, 53, 54, 75, 87] : List UInt8)) = false := beq_eq_false_iff_ne.mpr c4
        have c4b1 : (a0.toList != ([80, 66, 69, 83, 50, 45, 72, 83, 53, 49, 50, 43, 65, 50, 53, 54, 75, 87] : List UInt8)) = true := bne_iff_ne.mpr c4
        obtain rfl := Option.some.inj H
        go_enter Try.func47, Try.ntmps47
        go_wp2
        go_ret
        exact ⟨by first | rfl | (simp; done) | (simp [*]; done), by repeat (first | exact Drawn0.refl _ | apply Drawn0.step)⟩

/-! ### jwebb_IsRSA15: function 48 -/
def jwebb_IsRSA15.f (a0 : ByteArray) : Option (Bool) := some (a0.toList == ([82, 83, 65, 49, 95, 53] : List UInt8))
set_option maxHeartbeats 8000000 in
set_option maxRecDepth 100000 in
theorem jwebb_IsRSA15.calls (a0 : ByteArray) (r : Bool) (w : World) (h : jwebb_IsRSA15.f a0 = some r) :
    Calls Try.prog 48 #[.string a0] w fun e w' => e = .returned (.bool r) ∧ Drawn0 w w' := by
  have H : (some (a0.toList == ([82, 83, 65, 49, 95, 53] : List UInt8))) = some r := h
  clear h
  obtain rfl := Option.some.inj H
  go_enter Try.func48, Try.ntmps48
  go_wp2
  go_ret
  exact ⟨by first | rfl | (simp; done) | (simp [*]; done), by repeat (first | exact Drawn0.refl _ | apply Drawn0.step)⟩

/-! ### jwebb_IsRSAOAEP: function 49 -/
def jwebb_IsRSAOAEP.f (a0 : ByteArray) : Option (Bool) := if a0.toList = ([82, 83, 65, 45, 79, 65, 69, 80] : List UInt8) then (some true) else (if a0.toList = ([82, 83, 65, 45, 79, 65, 69, 80, 45, 50, 53, 54] : List UInt8) then (some true) else (if a0.toList = ([82, 83, 65, 45, 79, 65, 69, 80, 45, 51, 56, 52] : List UInt8) then (some true) else (if a0.toList = ([82, 83, 65, 45, 79, 65, 69, 80, 45, 53, 49, 50] : List UInt8) then (some true) else (some false))))
set_option maxHeartbeats 8000000 in
set_option maxRecDepth 100000 in
theorem jwebb_IsRSAOAEP.calls (a0 : ByteArray) (r : Bool) (w : World) (h : jwebb_IsRSAOAEP.f a0 = some r) :
    Calls Try.prog 49 #[.string a0] w fun e w' => e = .returned (.bool r) ∧ Drawn0 w w' := by
  have H : (if a0.toList = ([82, 83, 65, 45, 79, 65, 69, 80] : List UInt8) then (some true) else (if a0.toList = ([82, 83, 65, 45, 79, 65, 69, 80, 45, 50, 53, 54] : List UInt8) then (some true) else (if a0.toList = ([82, 83, 65, 45, 79, 65, 69, 80, 45, 51, 56, 52] : List UInt8) then (some true) else (if a0.toList = ([82, 83, 65, 45, 79, 65, 69, 80, 45, 53, 49, 50] : List UInt8) then (some true) else (some false))))) = some r := h
  clear h
  by_cases c2 : a0.toList = ([82, 83, 65, 45, 79, 65, 69, 80] : List UInt8)
  · rw [if_pos c2] at H
    have c2b0 : (a0.toList == ([82, 83, 65, 45, 79, 65, 69, 80] : List UInt8)) = true := beq_iff_eq.mpr c2
    have c2b1 : (a0.toList != ([82, 83, 65, 45, 79, 65, 69, 80] : List UInt8)) = false := bne_eq_false_iff_eq.mpr c2
    clear c2
    obtain rfl := Option.some.inj H
    go_enter Try.func49, Try.ntmps49
    go_wp2
    go_ret
    exact ⟨by first | rfl | (simp; done) | (simp [*]; done), by repeat (first | exact Drawn0.refl _ | apply Drawn0.step)⟩
  · rw [if_neg c2] at H
    have c2b0 : (a0.toList == ([82, 83, 65, 45, 79, 65, 69, 80] : List UInt8)) = false := beq_eq_false_iff_ne.mpr c2
    have c2b1 : (a0.toList != ([82, 83, 65, 45, 79, 65, 69, 80] : List UInt8)) = true := bne_iff_ne.mpr c2
    by_cases c3 : a0.toList = ([82, 83, 65, 45, 79, 65, 69, 80, 45, 50, 53, 54] : List UInt8)
    · rw [if_pos c3] at H
      have c3b0 : (a0.toList == ([82, 83, 65, 45, 79, 65, 69, 80, 45, 50, 53, 54] : List UInt8)) = true := beq_iff_eq.mpr c3
      have c3b1 : (a0.toList != ([82, 83, 65, 45, 79, 65, 69, 80, 45, 50, 53, 54] : List UInt8)) = false := bne_eq_false_iff_eq.mpr c3
      clear c3
      obtain rfl := Option.some.inj H
      go_enter Try.func49, Try.ntmps49
      go_wp2
      go_ret
      exact ⟨by first | rfl | (simp; done) | (simp [*]; done), by repeat (first | exact Drawn0.refl _ | apply Drawn0.step)⟩
    · rw [if_neg c3] at H
      have c3b0 : (a0.toList == ([82, 83, 65, 45, 79, 65, 69, 80, 45, 50, 53, 54] : List UInt8)) = false := beq_eq_false_iff_ne.mpr c3
      have c3b1 : (a0.toList != ([82, 83, 65, 45, 79, 65, 69, 80, 45, 50, 53, 54] : List UInt8)) = true := bne_iff_ne.mpr c3
      by_cases c4 : a0.toList = ([82, 83, 65, 45, 79, 65, 69, 80, 45, 51, 56, 52] : List UInt8)
      · rw [if_pos c4] at H
        have c4b0 : (a0.toList == ([82, 83, 65, 45, 79, 65, 69, 80, 45, 51, 56, 52] : List UInt8)) = true := beq_iff_eq.mpr c4
        have c4b1 : (a0.toList != ([82, 83, 65, 45, 79, 65, 69, 80, 45, 51, 56, 52] : List UInt8)) = false := bne_eq_false_iff_eq.mpr c4
        clear c4
        obtain rfl := Option.some.inj H
        go_enter Try.func49, Try.ntmps49
        go_wp2
        go_ret
        exact ⟨by first | rfl | (simp; done) | (simp [*]; done), by repeat (first | exact Drawn0.refl _ | apply Drawn0.step)⟩
      · rw [if_neg c4] at H
        have c4b0 : (a0.toList == ([82, 83, 65, 45, 79, 65, 69, 80, 45, 51, 56, 52] : List UInt8)) = false := beq_eq_false_iff_ne.mpr c4
        have c4b1 : (a0.toList != ([82, 83, 65, 45, 79, 65, 69, 80, 45, 51, 56, 52] : List UInt8)) = true := bne_iff_ne.mpr c4
        by_cases c5 : a0.toList = ([82, 83, 65, 45, 79, 65, 69, 80, 45, 53, 49, 50] : List UInt8)
        · rw [if_pos c5] at H
          have c5b0 : (a0.toList == ([82, 83, 65, 45, 79, 65, 69, 80, 45, 53, 49, 50] : List UInt8)) = true := beq_iff_eq.mpr c5
          have c5b1 : (a0.toList != ([82, 83, 65, 45, 79, 65, 69, 80, 45, 53, 49, 50] : List UInt8)) = false := bne_eq_false_iff_eq.mpr c5
          clear c5
          obtain rfl := Option.some.inj H
          go_enter Try.func49, Try.ntmps49
          go_wp2
          go_ret
          exact ⟨by first | rfl | (simp; done) | (simp [*]; done), by repeat (first | exact Drawn0.refl _ | apply Drawn0.step)⟩
        · rw [if_neg c5] at H
          have c5b0 : (a0.toList == ([82, 83, 65, 45, 79, 65, 69, 80, 45, 53, 49, 50] : List UInt8)) = false := beq_eq_false_iff_ne.mpr c5
          have c5b1 : (a0.toList != ([82, 83, 65, 45, 79, 65, 69, 80, 45, 53, 49, 50] : List UInt8)) = true := bne_iff_ne.mpr c5
          obtain rfl := Option.some.inj H
          go_enter Try.func49, Try.ntmps49
          go_wp2
          go_ret
          exact ⟨by first | rfl | (simp; done) | (simp [*]; done), by repeat (first | exact Drawn0.refl _ | apply Drawn0.step)⟩

/-! ### jwebb_IsSymmetric: function 50 -/
def jwebb_IsSymmetric.f (a0 : ByteArray) : Option (Bool) := (jwebb_IsAESKW.f a0).bind fun t104 => (if t104 = true then (some true) else ((jwebb_IsAESGCMKW.f a0).bind fun t105 => (if t105 = true then (some true) else ((jwebb_IsPBES2.f a0).bind fun t106 => (if t106 = true then (some true) else ((jwebb_IsDirect.f a0).bind fun t107 => (some t107)))))))
set_option maxHeartbeats 8000000 in
set_option maxRecDepth 100000 in
theorem jwebb_IsSymmetric.calls (a0 : ByteArray) (r : Bool) (w : World) (h : jwebb_IsSymmetric.f a0 = some r) :
    Calls Try.prog 50 #[.string a0] w fun e w' => e = .returned (.bool r) ∧ Drawn0 w w' := by
  have H : ((jwebb_IsAESKW.f a0).bind fun t104 => (if t104 = true then (some true) else ((jwebb_IsAESGCMKW.f a0).bind fun t105 => (if t105 = true then (some true) else ((jwebb_IsPBES2.f a0).bind fun t106 => (if t106 = true then (some true) else ((jwebb_IsDirect.f a0).bind fun t107 => (some t107)))))))) = some r := h
  clear h
  replace H := Option.bind_eq_some_iff.mp H
  obtain ⟨t104, A20, H⟩ := H
  replace H : (if t104 = true then (some true) else ((jwebb_IsAESGCMKW.f a0).bind fun t105 => (if t105 = true then (some true) else ((jwebb_IsPBES2.f a0).bind fun t106 => (if t106 = true then (some true) else ((jwebb_IsDirect.f a0).bind fun t107 => (some t107))))))) = some r := H
  have A2 := Aside0.mk A20
  clear A20
  by_cases c3 : t104 = true
  · subst c3
    have H1 : (some true) = some r := by rw [if_pos rfl] at H; exact H
    clear H
    have H := H1
    clear H1
    obtain rfl := Option.some.inj H
    go_enter Try.func50, Try.ntmps50
    go_wp2_with (first | ((with_reducible refine gate_callee (f := 44) rfl ?_); refine goesL_ (some 4) rfl rfl Try.func44 (by kernel_rfl) rfl #[.string a0] rfl (by (try simp only [List.map_toArray, List.map_cons, List.map_nil]); first | done | rfl | (simp only [List.length_drop, List.length_take]; rfl)) ?_; (with_reducible refine (jwebb_IsAESKW.calls a0 true _ A2.out).mono ?_); rintro e w' ⟨rfl, ⟨nd, rfl⟩⟩; refine ⟨_, rfl, ?_⟩))
    go_ret
    exact ⟨by first | rfl | (simp; done) | (simp [*]; done), by repeat (first | exact Drawn0.refl _ | apply Drawn0.step)⟩
  · replace c3 := Bool.eq_false_iff.mpr c3
    subst c3
    have H1 : ((jwebb_IsAESGCMKW.f a0).bind fun t105 => (if t105 = true then (some true) else ((jwebb_IsPBES2.f a0).bind fun t106 => (if t106 = true then (some true) else ((jwebb_IsDirect.f a0).bind fun t107 => (some t107)))))) = some r := by rw [if_neg (show ¬ (false = true) by decide)] at H; exact H
    clear H
    have H := H1
    clear H1
    replace H := Option.bind_eq_some_iff.mp H
    obtain ⟨t105, A40, H⟩ := H
    replace H : (if t105 = true then (some true) else ((jwebb_IsPBES2.f a0).bind fun t106 => (if t106 = true then (some true) else ((jwebb_IsDirect.f a0).bind fun t107 => (some t107))))) = some r := H
    have A4 := Aside0.mk A40
    clear A40
    by_cases c5 : t105 = true
    · subst c5
      have H1 : (some true) = some r := by rw [if_pos rfl] at H; exact H
      clear H
      have H := H1
      clear H1
      obtain rfl := Option.some.inj H
      go_enter Try.func50, Try.ntmps50
      go_wp2_with (first | ((with_reducible refine gate_callee (f := 44) rfl ?_); refine goesL_ (some 4) rfl rfl Try.func44 (by kernel_rfl) rfl #[.string a0] rfl (by (try simp only [List.map_toArray, List.map_cons, List.map_nil]); first | done | rfl | (simp only [List.length_drop, List.length_take]; rfl)) ?_; (with_reducible refine (jwebb_IsAESKW.calls a0 false _ A2.out).mono ?_); rintro e w' ⟨rfl, ⟨nd, rfl⟩⟩; refine ⟨_, rfl, ?_⟩) | (go_at_call 43; (with_reducible refine (jwebb_IsAESGCMKW.calls a0 true _ A4.out).mono ?_); rintro e w' ⟨rfl, ⟨nd, rfl⟩⟩))
      go_ret
      exact ⟨by first | rfl | (simp; done) | (simp [*]; done), by repeat (first | exact Drawn0.refl _ | apply Drawn0.step)⟩
    · replace c5 := Bool.eq_false_iff.mpr c5
      subst c5
      have H1 : ((jwebb_IsPBES2.f a0).bind fun t106 => (if t106 = true then (some true) else ((jwebb_IsDirect.f a0).bind fun t107 => (some t107)))) = some r := by rw [if_neg (show ¬ (false = true) by decide)] at H; exact H
      clear H
      have H := H1
      clear H1
      replace H := Option.bind_eq_some_iff.mp H
      obtain ⟨t106, A60, H⟩ := H
      replace H : (if t106 = true then (some true) else ((jwebb_IsDirect.f a0).bind fun t107 => (some t107))) = some r := H
      have A6 := Aside0.mk A60
      clear A60
      by_cases c7 : t106 = true
      · subst c7
        have H1 : (some true) = some r := by rw [if_pos rfl] at H; exact H
        clear H
        have H := H1
        clear H1
        obtain rfl := Option.some.inj H
        go_enter Try.func50, Try.ntmps50
        go_wp2_with (first | ((with_reducible refine gate_callee (f := 44) rfl ?_); refine goesL_ (some 4) rfl rfl Try.func44 (by kernel_rfl) rfl #[.string a0] rfl (by (try simp only [List.map_toArray, List.map_cons, List.map_nil]); first | done | rfl | (simp only [List.length_drop, List.length_take]; rfl)) ?_; (with_reducible refine (jwebb_IsAESKW.calls a0 false _ A2.out).mono ?_); rintro e w' ⟨rfl, ⟨nd, rfl⟩⟩; refine ⟨_, rfl, ?_⟩) | (go_at_call 43; (with_reducible refine (jwebb_IsAESGCMKW.calls a0 false _ A4.out).mono ?_); rintro e w' ⟨rfl, ⟨nd, rfl⟩⟩) | (go_at_call 47; (with_reducible refine (jwebb_IsPBES2.calls a0 true _ A6.out).mono ?_); rintro e w' ⟨rfl, ⟨nd, rfl⟩⟩))
        go_ret
        exact ⟨by first | rfl | (simp; done) | (simp [*]; done), by repeat (first | exact Drawn0.refl _ | apply Drawn0.step)⟩
      · replace c7 := Bool.eq_false_iff.mpr c7
        subst c7
        have H1 : ((jwebb_IsDirect.f a0).bind fun t107 => (some t107)) = some r := by rw [if_neg (show ¬ (false = true) by decide)] at H; exact H
        clear H
        have H := H1
        clear H1
        replace H := Option.bind_eq_some_iff.mp H
        obtain ⟨t107, A80, H⟩ := H
        replace H : (some t107) = some r := H
        have A8 := Aside0.mk A80
        clear A80
        obtain rfl := Option.some.inj H
        go_enter Try.func50, Try.ntmps50
        go_wp2_with (first | ((with_reducible refine gate_callee (f := 44) rfl ?_); refine goesL_ (some 4) rfl rfl Try.func44 (by kernel_rfl) rfl #[.string a0] rfl (by (try simp only [List.map_toArray, List.map_cons, List.map_nil]); first | done | rfl | (simp only [List.length_drop, List.length_take]; rfl)) ?_; (with_reducible refine (jwebb_IsAESKW.calls a0 false _ A2.out).mono ?_); rintro e w' ⟨rfl, ⟨nd, rfl⟩⟩; refine ⟨_, rfl, ?_⟩) | (go_at_call 43; (with_reducible refine (jwebb_IsAESGCMKW.calls a0 false _ A4.out).mono ?_); rintro e w' ⟨rfl, ⟨nd, rfl⟩⟩) | (go_at_call 47; (with_reducible refine (jwebb_IsPBES2.calls a0 false _ A6.out).mono ?_); rintro e w' ⟨rfl, ⟨nd, rfl⟩⟩) | (go_at_call 45; (with_reducible refine (jwebb_IsDirect.calls a0 t107 _ A8.out).mono ?_); rintro e w' ⟨rfl, ⟨nd, rfl⟩⟩))
        go_ret
        exact ⟨by first | rfl | (simp; done) | (simp [*]; done), by repeat (first | exact Drawn0.refl _ | apply Drawn0.step)⟩

/-! ### jwebb_ContentEncryptionIsSupported: function 51 -/
def jwebb_ContentEncryptionIsSupported.f (a0 : ByteArray) : Option (Bool) := if a0.toList = ([65, 49, 50, 56, 71, 67, 77] : List UInt8) then (some true) else (if a0.toList = ([65, 49, 57, 50, 71, 67, 77] : List UInt8) then (some true) else (if a0.toList = ([65, 50, 53, 54, 71, 67, 77] : List UInt8) then (some true) else (if a0.toList = ([65, 49, 50, 56, 67, 66, 67, 45, 72, 83, 50, 53, 54] : List UInt8) then (some true) else (if a0.toList = ([65, 49, 57, 50, 67, 66, 67, 45, 72, 83, 51, 56, 52] : List UInt8) then (some true) else (if a0.toList = ([65, 50, 53, 54, 67, 66, 67, 45, 72, 83, 53, 49, 50] : List UInt8) then (some true) else (some false))))))
set_option maxHeartbeats 8000000 in
set_option maxRecDepth 100000 in
theorem jwebb_ContentEncryptionIsSupported.calls (a0 : ByteArray) (r : Bool) (w : World) (h : jwebb_ContentEncryptionIsSupported.f a0 = some r) :
    Calls Try.prog 51 #[.string a0] w fun e w' => e = .returned (.bool r) ∧ Drawn0 w w' := by
  have H : (if a0.toList = ([65, 49, 50, 56, 71, 67, 77] : List UInt8) then (some true) else (if a0.toList = ([65, 49, 57, 50, 71, 67, 77] : List UInt8) then (some true) else (if a0.toList = ([65, 50, 53, 54, 71, 67, 77] : List UInt8) then (some true) else (if a0.toList = ([65, 49, 50, 56, 67, 66, 67, 45, 72, 83, 50, 53, 54] : List UInt8) then (some true) else (if a0.toList = ([65, 49, 57, 50, 67, 66, 67, 45, 72, 83, 51, 56, 52] : List UInt8) then (some true) else (if a0.toList = ([65, 50, 53, 54, 67, 66, 67, 45, 72, 83, 53, 49, 50] : List UInt8) then (some true) else (some false))))))) = some r := h
  clear h
  by_cases c2 : a0.toList = ([65, 49, 50, 56, 71, 67, 77] : List UInt8)
  · rw [if_pos c2] at H
    have c2b0 : (a0.toList == ([65, 49, 50, 56, 71, 67, 77] : List UInt8)) = true := beq_iff_eq.mpr c2
    have c2b1 : (a0.toList != ([65, 49, 50, 56, 71, 67, 77] : List UInt8)) = false := bne_eq_false_iff_eq.mpr c2
    clear c2
    obtain rfl := Option.some.inj H
    go_enter Try.func51, Try.ntmps51
    go_wp2
    go_ret
    exact ⟨by first | rfl | (simp; done) | (simp [*]; done), by repeat (first | exact Drawn0.refl _ | apply Drawn0.step)⟩
  · rw [if_neg c2] at H
    have c2b0 : (a0.toList == ([65, 49, 50, 56, 71, 67, 77] : List UInt8)) = false := beq_eq_false_iff_ne.mpr c2
    have c2b1 : (a0.toList != ([65, 49, 50, 56, 71, 67, 77] : List UInt8)) = true := bne_iff_ne.mpr c2
    by_cases c3 : a0.toList = ([65, 49, 57, 50, 71, 67, 77] : List UInt8)
    · rw [if_pos c3] at H
      have c3b0 : (a0.toList == ([65, 49, 57, 50, 71, 67, 77] : List UInt8)) = true := beq_iff_eq.mpr c3
      have c3b1 : (a0.toList != ([65, 49, 57, 50, 71, 67, 77] : List UInt8)) = false := bne_eq_false_iff_eq.mpr c3
      clear c3
      obtain rfl := Option.some.inj H
      go_enter Try.func51, Try.ntmps51
      go_wp2
      go_ret
      exact ⟨by first | rfl | (simp; done) | (simp [*]; done), by repeat (first | exact Drawn0.refl _ | apply Drawn0.step)⟩
    · rw [if_neg c3] at H
      have c3b0 : (a0.toList == ([65, 49, 57, 50, 71, 67, 77] : List UInt8)) = false := beq_eq_false_iff_ne.mpr c3
      have c3b1 : (a0.toList != ([65, 49, 57, 50, 71, 67, 77] : List UInt8)) = true := bne_iff_ne.mpr c3
      by_cases c4 : a0.toList = ([65, 50, 53, 54, 71, 67, 77] : List UInt8)
      · rw [if_pos c4] at H
        have c4b0 : (a0.toList == ([65, 50, 53, 54, 71, 67, 77] : List UInt8)) = true := beq_iff_eq.mpr c4
        have c4b1 : (a0.toList != ([65, 50, 53, 54, 71, 67, 77] : List UInt8)) = false := bne_eq_false_iff_eq.mpr c4
        clear c4
        obtain rfl := Option.some.inj H
        go_enter Try.func51, Try.ntmps51
        go_wp2
        go_ret
        exact ⟨by first | rfl | (simp; done) | (simp [*]; done), by repeat (first | exact Drawn0.refl _ | apply Drawn0.step)⟩
      · rw [if_neg c4] at H
        have c4b0 : (a0.toList == ([65, 50, 53, 54, 71, 67, 77] : List UInt8)) = false := beq_eq_false_iff_ne.mpr c4
        have c4b1 : (a0.toList != ([65, 50, 53, 54, 71, 67, 77] : List UInt8)) = true := bne_iff_ne.mpr c4
        by_cases c5 : a0.toList = ([65, 49, 50, 56, 67, 66, 67, 45, 72, 83, 50, 53, 54] : List UInt8)
        · rw [if_pos c5] at H
          have c5b0 : (a0.toList == ([65, 49, 50, 56, 67, 66, 67, 45, 72, 83, 50, 53, 54] : List UInt8)) = true := beq_iff_eq.mpr c5
          have c5b1 : (a0.toList != ([65, 49, 50, 56, 67, 66, 67, 45, 72, 83, 50, 53, 54] : List UInt8)) = false := bne_eq_false_iff_eq.mpr c5
          clear c5
          obtain rfl := Option.some.inj H
          go_enter Try.func51, Try.ntmps51
          go_wp2
          go_ret
          exact ⟨by first | rfl | (simp; done) | (simp [*]; done), by repeat (first | exact Drawn0.refl _ | apply Drawn0.step)⟩
        · rw [if_neg c5] at H
          have c5b0 : (a0.toList == ([65, 49, 50, 56, 67, 66, 67, 45, 72, 83, 50, 53, 54] : List UInt8)) = false := beq_eq_false_iff_ne.mpr c5
          have c5b1 : (a0.toList != ([65, 49, 50, 56, 67, 66, 67, 45, 72, 83, 50, 53, 54] : List UInt8)) = true := bne_iff_ne.mpr c5
          by_cases c6 : a0.toList = ([65, 49, 57, 50, 67, 66, 67, 45, 72, 83, 51, 56, 52] : List UInt8)
          · rw [if_pos c6] at H
            have c6b0 : (a0.toList == ([65, 49, 57, 50, 67, 66, 67, 45, 72, 83, 51, 56, 52] : List UInt8)) = true := beq_iff_eq.mpr c6
            have c6b1 : (a0.toList != ([65, 49, 57, 50, 67, 66, 67, 45, 72, 83, 51, 56, 52] : List UInt8)) = false := bne_eq_false_iff_eq.mpr c6
            clear c6
            obtain rfl := Option.some.inj H
            go_enter Try.func51, Try.ntmps51
            go_wp2
            go_ret
            exact ⟨by first | rfl | (simp; done) | (simp [*]; done), by repeat (first | exact Drawn0.refl _ | apply Drawn0.step)⟩
          · rw [if_neg c6] at H
            have c6b0 : (a0.toList == ([65, 49, 57, 50, 67, 66, 67, 45, 72, 83, 51, 56, 52] : List UInt8)) = false := beq_eq_false_iff_ne.mpr c6
            have c6b1 : (a0.toList != ([65, 49, 57, 50, 67, 66, 67, 45, 72, 83, 51, 56, 52] : List UInt8)) = true := bne_iff_ne.mpr c6
            by_cases c7 : a0.toList = ([65, 50, 53, 54, 67, 66, 67, 45, 72, 83, 53, 49, 50] : List UInt8)
            · rw [if_pos c7] at H
              have c7b0 : (a0.toList == ([65, 50, 53, 54, 67, 66, 67, 45, 72, 83, 53, 49, 50] : List UInt8)) = true := beq_iff_eq.mpr c7
              have c7b1 : (a0.toList != ([65, 50, 53, 54, 67, 66, 67, 45, 72, 83, 53, 49, 50] : List UInt8)) = false := bne_eq_false_iff_eq.mpr c7
              clear c7
              obtain rfl := Option.some.inj H
              go_enter Try.func51, Try.ntmps51
              go_wp2
              go_ret
              exact ⟨by first | rfl | (simp; done) | (simp [*]; done), by repeat (first | exact Drawn0.refl _ | apply Drawn0.step)⟩
            · rw [if_neg c7] at H
              have c7b0 : (a0.toList == ([65, 50, 53, 54, 67, 66, 67, 45, 72, 83, 53, 49, 50] : List UInt8)) = false := beq_eq_false_iff_ne.mpr c7
              have c7b1 : (a0.toList != ([65, 50, 53, 54, 67, 66, 67, 45, 72, 83, 53, 49, 50] : List UInt8)) = true := bne_iff_ne.mpr c7
              obtain rfl := Option.some.inj H
              go_enter Try.func51, Try.ntmps51
              go_wp2
              go_ret
              exact ⟨by first | rfl | (simp; done) | (simp [*]; done), by repeat (first | exact Drawn0.refl _ | apply Drawn0.step)⟩

/-! ### impl_Chosen: function 28 -/
def impl_Chosen.l0 : Nat → Int → List Bool → Int → Int → Option (Int)
  | 0, _, _, _, _ => none
  | k + 1, x3, x24, x25, x26 => if x26 < x25 then (if 0 ≤ x26 then (if x26 < (x24.length : Int) then (if rdOf false x24 x26 = true then (impl_Chosen.l0 k (Go.bits .or .i64 x3 (shl .i64 1 x26)) x24 x25 (wrap64 (x26 + 1))) else (impl_Chosen.l0 k x3 x24 x25 (wrap64 (x26 + 1)))) else (none)) else (none)) else (some x3)
def impl_Chosen.f (k : Nat) (a0 : ByteArray) : Option (Int) := (jwebb_IsAESGCMKW.f a0).bind fun t108 => ((jwebb_IsAESKW.f a0).bind fun t109 => ((jwebb_IsDirect.f a0).bind fun t110 => ((jwebb_IsECDHES.f a0).bind fun t111 => ((jwebb_IsPBES2.f a0).bind fun t112 => ((jwebb_IsRSA15.f a0).bind fun t113 => ((jwebb_IsRSAOAEP.f a0).bind fun t114 => ((jwebb_IsSymmetric.f a0).bind fun t115 => ((jwebb_ContentEncryptionIsSupported.f a0).bind fun t116 => ((some (([t108, t109, t110, t111, t112, t113, t114, t115, t116] : List Bool) : List Bool)).bind fun y117 => (impl_Chosen.l0 k 0 y117 (y117.length : Int) 0))))))))))
theorem impl_Chosen.mono_l : ∀ k, (∀ y0 y1 y2 y3, LeO (impl_Chosen.l0 k y0 y1 y2 y3) (impl_Chosen.l0 (k + 1) y0 y1 y2 y3))
  | 0 => fun _ _ _ _ r h => by simp [impl_Chosen.l0] at h
  | k + 1 => by
    have ih0 := impl_Chosen.mono_l k
    · intro y0 y1 y2 y3
      unfold impl_Chosen.l0
      repeat' first
      | (with_reducible exact ih0 _ _ _ _)
      | (with_reducible exact LeO.refl _)
      | (with_reducible exact LeO.none _)
      | (with_reducible refine LeO.ite ?_ ?_)
      | (with_reducible refine LeO.bind ?_ (fun _ => ?_))
      | exact ih0 _ _ _ _
      | exact LeO.none _
      | refine LeO.ite ?_ ?_
      | refine LeO.bind ?_ (fun _ => ?_)
theorem impl_Chosen.mono : ∀ a0 k, LeO (impl_Chosen.f k a0) (impl_Chosen.f (k + 1) a0) := by
  intro a0 k
  have ih0 := impl_Chosen.mono_l k
  unfold impl_Chosen.f
  repeat' first
      | (with_reducible exact ih0 _ _ _ _)
      | (with_reducible exact LeO.refl _)
      | (with_reducible exact LeO.none _)
      | (with_reducible refine LeO.ite ?_ ?_)
      | (with_reducible refine LeO.bind ?_ (fun _ => ?_))
      | exact ih0 _ _ _ _
      | exact LeO.none _
      | refine LeO.ite ?_ ?_
      | refine LeO.bind ?_ (fun _ => ?_)
set_option maxHeartbeats 8000000 in
set_option maxRecDepth 100000 in
theorem impl_Chosen.calls (k : Nat) (a0 : ByteArray) (r : Int) (w : World) (h : impl_Chosen.f k a0 = some r) :
    Calls Try.prog 28 #[.string a0] w fun e w' => e = .returned (.int .i64 r) ∧ Below w.heap.size w w' := by
  have HB := Aside0.mk (Below.refl w.heap.size w)
  have H : ((jwebb_IsAESGCMKW.f a0).bind fun t108 => ((jwebb_IsAESKW.f a0).bind fun t109 => ((jwebb_IsDirect.f a0).bind fun t110 => ((jwebb_IsECDHES.f a0).bind fun t111 => ((jwebb_IsPBES2.f a0).bind fun t112 => ((jwebb_IsRSA15.f a0).bind fun t113 => ((jwebb_IsRSAOAEP.f a0).bind fun t114 => ((jwebb_IsSymmetric.f a0).bind fun t115 => ((jwebb_ContentEncryptionIsSupported.f a0).bind fun t116 => ((some (([t108, t109, t110, t111, t112, t113, t114, t115, t116] : List Bool) : List Bool)).bind fun y117 => (impl_Chosen.l0 k 0 y117 (y117.length : Int) 0))))))))))) = some r := h
  clear h
  replace H := Option.bind_eq_some_iff.mp H
  obtain ⟨t108, A20, H⟩ := H
  replace H : ((jwebb_IsAESKW.f a0).bind fun t109 => ((jwebb_IsDirect.f a0).bind fun t110 => ((jwebb_IsECDHES.f a0).bind fun t111 => ((jwebb_IsPBES2.f a0).bind fun t112 => ((jwebb_IsRSA15.f a0).bind fun t113 => ((jwebb_IsRSAOAEP.f a0).bind fun t114 => ((jwebb_IsSymmetric.f a0).bind fun t115 => ((jwebb_ContentEncryptionIsSupported.f a0).bind fun t116 => ((some (([t108, t109, t110, t111, t112, t113, t114, t115, t116] : List Bool) : List Bool)).bind fun y117 => (impl_Chosen.l0 k 0 y117 (y117.length : Int) 0)))))))))) = some r := H
  have A2 := Aside0.mk A20
  clear A20
  replace H := Option.bind_eq_some_iff.mp H
  obtain ⟨t109, A30, H⟩ := H
  replace H : ((jwebb_IsDirect.f a0).bind fun t110 => ((jwebb_IsECDHES.f a0).bind fun t111 => ((jwebb_IsPBES2.f a0).bind fun t112 => ((jwebb_IsRSA15.f a0).bind fun t113 => ((jwebb_IsRSAOAEP.f a0).bind fun t114 => ((jwebb_IsSymmetric.f a0).bind fun t115 => ((jwebb_ContentEncryptionIsSupported.f a0).bind fun t116 => ((some (([t108, t109, t110, t111, t112, t113, t114, t115, t116] : List Bool) : List Bool)).bind fun y117 => (impl_Chosen.l0 k 0 y117 (y117.length : Int) 0))))))))) = some r := H
  have A3 := Aside0.mk A30
  clear A30
  replace H := Option.bind_eq_some_iff.mp H
  obtain ⟨t110, A40, H⟩ := H
  replace H : ((jwebb_IsECDHES.f a0).bind fun t111 => ((jwebb_IsPBES2.f a0).bind fun t112 => ((jwebb_IsRSA15.f a0).bind fun t113 => ((jwebb_IsRSAOAEP.f a0).bind fun t114 => ((jwebb_IsSymmetric.f a0).bind fun t115 => ((jwebb_ContentEncryptionIsSupported.f a0).bind fun t116 => ((some (([t108, t109, t110, t111, t112, t113, t114, t115, t116] : List Bool) : List Bool)).bind fun y117 => (impl_Chosen.l0 k 0 y117 (y117.length : Int) 0)))))))) = some r := H
  have A4 := Aside0.mk A40
  clear A40
  replace H := Option.bind_eq_some_iff.mp H
  obtain ⟨t111, A50, H⟩ := H
  replace H : ((jwebb_IsPBES2.f a0).bind fun t112 => ((jwebb_IsRSA15.f a0).bind fun t113 => ((jwebb_IsRSAOAEP.f a0).bind fun t114 => ((jwebb_IsSymmetric.f a0).bind fun t115 => ((jwebb_ContentEncryptionIsSupported.f a0).bind fun t116 => ((some (([t108, t109, t110, t111, t112, t113, t114, t115, t116] : List Bool) : List Bool)).bind fun y117 => (impl_Chosen.l0 k 0 y117 (y117.length : Int) 0))))))) = some r := H
  have A5 := Aside0.mk A50
  clear A50
  replace H := Option.bind_eq_some_iff.mp H
  obtain ⟨t112, A60, H⟩ := H
  replace H : ((jwebb_IsRSA15.f a0).bind fun t113 => ((jwebb_IsRSAOAEP.f a0).bind fun t114 => ((jwebb_IsSymmetric.f a0).bind fun t115 => ((jwebb_ContentEncryptionIsSupported.f a0).bind fun t116 => ((some (([t108, t109, t110, t111, t112, t113, t114, t115, t116] : List Bool) : List Bool)).bind fun y117 => (impl_Chosen.l0 k 0 y117 (y117.length : Int) 0)))))) = some r := H
  have A6 := Aside0.mk A60
  clear A60
  replace H := Option.bind_eq_some_iff.mp H
  obtain ⟨t113, A70, H⟩ := H
  replace H : ((jwebb_IsRSAOAEP.f a0).bind fun t114 => ((jwebb_IsSymmetric.f a0).bind fun t115 => ((jwebb_ContentEncryptionIsSupported.f a0).bind fun t116 => ((some (([t108, t109, t110, t111, t112, t113, t114, t115, t116] : List Bool) : List Bool)).bind fun y117 => (impl_Chosen.l0 k 0 y117 (y117.length : Int) 0))))) = some r := H
  have A7 := Aside0.mk A70
  clear A70
  replace H := Option.bind_eq_some_iff.mp H
  obtain ⟨t114, A80, H⟩ := H
  replace H : ((jwebb_IsSymmetric.f a0).bind fun t115 => ((jwebb_ContentEncryptionIsSupported.f a0).bind fun t116 => ((some (([t108, t109, t110, t111, t112, t113, t114, t115, t116] : List Bool) : List Bool)).bind fun y117 => (impl_Chosen.l0 k 0 y117 (y117.length : Int) 0)))) = some r := H
  have A8 := Aside0.mk A80
  clear A80
  replace H := Option.bind_eq_some_iff.mp H
  obtain ⟨t115, A90, H⟩ := H
  replace H : ((jwebb_ContentEncryptionIsSupported.f a0).bind fun t116 => ((some (([t108, t109, t110, t111, t112, t113, t114, t115, t116] : List Bool) : List Bool)).bind fun y117 => (impl_Chosen.l0 k 0 y117 (y117.length : Int) 0))) = some r := H
  have A9 := Aside0.mk A90
  clear A90
  replace H := Option.bind_eq_some_iff.mp H
  obtain ⟨t116, A100, H⟩ := H
  replace H : ((some (([t108, t109, t110, t111, t112, t113, t114, t115, t116] : List Bool) : List Bool)).bind fun y117 => (impl_Chosen.l0 k 0 y117 (y117.length : Int) 0)) = some r := H
  have A10 := Aside0.mk A100
  clear A100
  obtain ⟨y117, hy117⟩ : ∃ y_ : List Bool, y_ = (([t108, t109, t110, t111, t112, t113, t114, t115, t116] : List Bool)) := ⟨_, rfl⟩
  replace H : (impl_Chosen.l0 k 0 y117 (y117.length : Int) 0) = some r := by first | (rw [hy117]; with_reducible exact H) | (have H2_ := (Option.bind_some _ _).symm.trans H; rw [hy117]; with_reducible exact H2_) | (have H2_ := (Option.bind_some _ _).symm.trans H; with_reducible exact H2_) | with_reducible exact H | (rw [hy117]; exact H) | exact H
  have Ny117 := Aside0.mk hy117
  clear hy117
  have H' := Aside0.mk H
  clear H
  go_enter Try.func28, Try.ntmps28
  go_wp2_with (first | ((with_reducible refine gate_callee (f := 43) rfl ?_); refine goesL_ (some 7) rfl rfl Try.func43 (by kernel_rfl) rfl #[.string a0] rfl (by (try simp only [List.map_toArray, List.map_cons, List.map_nil]); first | done | rfl | (simp only [List.length_drop, List.length_take]; rfl)) ?_; (with_reducible refine (jwebb_IsAESGCMKW.calls a0 t108 _ A2.out).mono ?_); rintro e w' ⟨rfl, ⟨nd, rfl⟩⟩; refine ⟨_, rfl, ?_⟩) | ((with_reducible refine gate_callee (f := 44) rfl ?_); refine goesL_ (some 9) rfl rfl Try.func44 (by kernel_rfl) rfl #[.string a0] rfl (by (try simp only [List.map_toArray, List.map_cons, List.map_nil]); first | done | rfl | (simp only [List.length_drop, List.length_take]; rfl)) ?_; (with_reducible refine (jwebb_IsAESKW.calls a0 t109 _ A3.out).mono ?_); rintro e w' ⟨rfl, ⟨nd, rfl⟩⟩; refine ⟨_, rfl, ?_⟩) | ((with_reducible refine gate_callee (f := 45) rfl ?_); refine goesL_ (some 11) rfl rfl Try.func45 (by kernel_rfl) rfl #[.string a0] rfl (by (try simp only [List.map_toArray, List.map_cons, List.map_nil]); first | done | rfl | (simp only [List.length_drop, List.length_take]; rfl)) ?_; (with_reducible refine (jwebb_IsDirect.calls a0 t110 _ A4.out).mono ?_); rintro e w' ⟨rfl, ⟨nd, rfl⟩⟩; refine ⟨_, rfl, ?_⟩) | ((with_reducible refine gate_callee (f := 46) rfl ?_); refine goesL_ (some 13) rfl rfl Try.func46 (by kernel_rfl) rfl #[.string a0] rfl (by (try simp only [List.map_toArray, List.map_cons, List.map_nil]); first | done | rfl | (simp only [List.length_drop, List.length_take]; rfl)) ?_; (with_reducible refine (jwebb_IsECDHES.calls a0 t111 _ A5.out).mono ?_); rintro e w' ⟨rfl, ⟨nd, rfl⟩⟩; refine ⟨_, rfl, ?_⟩) | ((with_reducible refine gate_callee (f := 47) rfl ?_); refine goesL_ (some 15) rfl rfl Try.func47 (by kernel_rfl) rfl #[.string a0] rfl (by (try simp only [List.map_toArray, List.map_cons, List.map_nil]); first | done | rfl | (simp only [List.length_drop, List.length_take]; rfl)) ?_; (with_reducible refine (jwebb_IsPBES2.calls a0 t112 _ A6.out).mono ?_); rintro e w' ⟨rfl, ⟨nd, rfl⟩⟩; refine ⟨_, rfl, ?_⟩) | ((with_reducible refine gate_callee (f := 48) rfl ?_); refine goesL_ (some 17) rfl rfl Try.func48 (by kernel_rfl) rfl #[.string a0] rfl (by (try simp only [List.map_toArray, List.map_cons, List.map_nil]); first | done | rfl | (simp only [List.length_drop, List.length_take]; rfl)) ?_; (with_reducible refine (jwebb_IsRSA15.calls a0 t113 _ A7.out).mono ?_); rintro e w' ⟨rfl, ⟨nd, rfl⟩⟩; refine ⟨_, rfl, ?_⟩) | ((with_reducible refine gate_callee (f := 49) rfl ?_); refine goesL_ (some 19) rfl rfl Try.func49 (by kernel_rfl) rfl #[.string a0] rfl (by (try simp only [List.map_toArray, List.map_cons, List.map_nil]); first | done | rfl | (simp only [List.length_drop, List.length_take]; rfl)) ?_; (with_reducible refine (jwebb_IsRSAOAEP.calls a0 t114 _ A8.out).mono ?_); rintro e w' ⟨rfl, ⟨nd, rfl⟩⟩; refine ⟨_, rfl, ?_⟩) | ((with_reducible refine gate_callee (f := 50) rfl ?_); refine goesL_ (some 21) rfl rfl Try.func50 (by kernel_rfl) rfl #[.string a0] rfl (by (try simp only [List.map_toArray, List.map_cons, List.map_nil]); first | done | rfl | (simp only [List.length_drop, List.length_take]; rfl)) ?_; (with_reducible refine (jwebb_IsSymmetric.calls a0 t115 _ A9.out).mono ?_); rintro e w' ⟨rfl, ⟨nd, rfl⟩⟩; refine ⟨_, rfl, ?_⟩) | ((with_reducible refine gate_callee (f := 51) rfl ?_); refine goesL_ (some 23) rfl rfl Try.func51 (by kernel_rfl) rfl #[.string a0] rfl (by (try simp only [List.map_toArray, List.map_cons, List.map_nil]); first | done | rfl | (simp only [List.length_drop, List.length_take]; rfl)) ?_; (with_reducible refine (jwebb_ContentEncryptionIsSupported.calls a0 t116 _ A10.out).mono ?_); rintro e w' ⟨rfl, ⟨nd, rfl⟩⟩; refine ⟨_, rfl, ?_⟩) | ((with_reducible refine gate_dst (N := 24) rfl ?_); refine Kd.R_lit Kd.bool _ 4 ?hg (N := 24) ?hd (xs := ([t108, t109, t110, t111, t112, t113, t114, t115, t116] : List Bool)) (inner := [.bool t108, .bool t109, .bool t110, .bool t111, .bool t112, .bool t113, .bool t114, .bool t115, .bool t116]) (ok := fun _ => True) (okp := fun _ => True) ?hr ?hp (fun _ hk => hk) trivial (Below.refl _ _) (Nat.le_refl _) (by simp) ?_; (case hd => rfl); (case hg => rfl); (case hr => first | (go_simp; done) | (go_simp; rfl)); (case hp => exact (Reps.one (show Kd.M Kd.bool _ _ _ t108 [.bool t108] from rfl) (Reps.one (show Kd.M Kd.bool _ _ _ t109 [.bool t109] from rfl) (Reps.one (show Kd.M Kd.bool _ _ _ t110 [.bool t110] from rfl) (Reps.one (show Kd.M Kd.bool _ _ _ t111 [.bool t111] from rfl) (Reps.one (show Kd.M Kd.bool _ _ _ t112 [.bool t112] from rfl) (Reps.one (show Kd.M Kd.bool _ _ _ t113 [.bool t113] from rfl) (Reps.one (show Kd.M Kd.bool _ _ _ t114 [.bool t114] from rfl) (Reps.one (show Kd.M Kd.bool _ _ _ t115 [.bool t115] from rfl) (Reps.one (show Kd.M Kd.bool _ _ _ t116 [.bool t116] from rfl) (Reps.none _ _))))))))))); intro v118 w11 ho12 hb hg_ hnew_; clear hg_ hnew_; (first | rw [← Ny117.out] at ho12 | (simp only [Int.reduceToNat] at ho12; rw [← Ny117.out] at ho12)); have n0_ := Aside0.mk (Kd.R_lower ho12 (below_size (by repeat (first | (with_reducible first | exact HB.out | apply below_alloc | apply pw_below_drewN | apply below_drew1) | exact HB.out)))); have n1_ := Aside0.mk (below_step (by repeat (first | (with_reducible first | exact HB.out | apply below_alloc | apply pw_below_drewN | apply below_drew1) | exact HB.out)) hb); clear HB; have HO119 := n0_; have HB := n1_; clear n0_ n1_; clear hb ho12; obtain ⟨Ao13, co13, eo13⟩ := Kd.R_slice HO119.out; subst eo13))
  go_loopg [3, 26] k (fun kq v3 v26 w' => ∃ (x3_1 : Int) (x26_1 : Int), v3 = .int .i64 x3_1 ∧ v26 = .int .i64 x26_1 ∧ Aside0 (impl_Chosen.l0 kq x3_1 y117 (y117.length : Int) x26_1 = some r) ∧ Aside0 (kq ≤ k) ∧ Aside0 (Kd.R Kd.bool 4 w' w.heap.size (fun _ => True) (.slice Ao13 y117.length co13) y117) ∧ Aside0 (Below w.heap.size w w'))
  case atStart => exact ⟨(0), (0), (by first | rfl | (simp; done) | (simp [*]; done)), (by first | rfl | (simp; done) | (simp [*]; done)), H', ⟨Nat.le_refl _⟩, ⟨by (with_reducible repeat (first | apply Kd.R_alloc | apply Kd.R_drewN | apply Kd.R_drew)); exact HO119.out⟩, ⟨by repeat (first | (with_reducible first | exact HB.out | apply below_alloc | apply pw_below_drewN | apply below_drew1) | exact HB.out)⟩⟩
  case round =>
    clear H'
    try clear c2
    try clear p2
    try clear c4
    try clear c5
    obtain ⟨x3_1, x26_1, rfl, rfl, HA, HK1, HO_24, HB⟩ := hrel
    cases gk with
    | zero => exact absurd HA.out (by simp [impl_Chosen.l0])
    | succ k1 =>
      have H := HA.out
      clear HA
      simp only [impl_Chosen.l0] at H
      by_cases c14 : x26_1 < (y117.length : Int)
      · rw [if_pos c14] at H
        have c14b0 : decide (x26_1 < (y117.length : Int)) = true := decide_eq_true c14
        clear c14
        by_cases c15 : 0 ≤ x26_1
        · rw [if_pos c15] at H
          have c15b0 : decide (0 ≤ x26_1) = true := decide_eq_true c15
          clear c15
          by_cases c16 : x26_1 < (y117.length : Int)
          · rw [if_pos c16] at H
            have c16b0 : decide (x26_1 < (y117.length : Int)) = true := decide_eq_true c16
            clear c16
            obtain ⟨bq17, hbq17⟩ : ∃ b_ : Bool, b_ = (rdOf false y117 x26_1) := ⟨_, rfl⟩
            replace H : (if bq17 = true then (impl_Chosen.l0 k1 (Go.bits .or .i64 x3_1 (shl .i64 1 x26_1)) y117 (y117.length : Int) (wrap64 (x26_1 + 1))) else (impl_Chosen.l0 k1 x3_1 y117 (y117.length : Int) (wrap64 (x26_1 + 1)))) = some r := by rw [← hbq17] at H; exact H
            have Nbq17 := Aside0.mk hbq17
            clear hbq17
            by_cases c18 : bq17 = true
            · subst c18
              have H1 : (impl_Chosen.l0 k1 (Go.bits .or .i64 x3_1 (shl .i64 1 x26_1)) y117 (y117.length : Int) (wrap64 (x26_1 + 1))) = some r := by rw [if_pos rfl] at H; exact H
              clear H
              have H := H1
              clear H1
              have c19b0 := eq_true (of_decide_eq_true (by first | (with_reducible assumption) | assumption) : 0 ≤ x26_1)
              obtain ⟨ji20, hji20⟩ : ∃ j_ : Int, (shl .i64 1 x26_1) = j_ := ⟨_, rfl⟩
              replace H : (impl_Chosen.l0 k1 (Go.bits .or .i64 x3_1 (ji20)) y117 (y117.length : Int) (wrap64 (x26_1 + 1))) = some r := by first | (rw [hji20] at H; exact H) | (simp only [hji20] at H ⊢; exact H)
              have hji20_ : (IntKind.i64.wrap (1 * 2 ^ min x26_1.toNat 64)) = ji20 := hji20
              have hji20z : x26_1 ≤ 64 → (IntKind.i64.wrap (1 * 2 ^ x26_1.toNat)) = ji20 := shl_small hji20
              have hji20u : (IntKind.i64.wrap (2 ^ min x26_1.toNat 64)) = ji20 := by have h_ := hji20_; rw [Int.one_mul] at h_; exact h_
              have hji20v : x26_1 ≤ 64 → (IntKind.i64.wrap (2 ^ x26_1.toNat)) = ji20 := fun hle_ => by have h_ := hji20z hle_; rw [Int.one_mul] at h_; exact h_
              have hji20y : (wrap64 (1 * 2 ^ min x26_1.toNat 64)) = ji20 := (i64_w _).symm.trans hji20_
              have hji20x : x26_1 ≤ 64 → (wrap64 (1 * 2 ^ x26_1.toNat)) = ji20 := fun h_ => (i64_w _).symm.trans (hji20z h_)
              have H' := Aside0.mk H
              clear H
              have p120 : 0 ≤ (x26_1 : Int) := of_decide_eq_true (by first | (with_reducible assumption) | assumption)
              have q120 : x26_1 < (y117.length : Int) := of_decide_eq_true (by first | (with_reducible assumption) | assumption)
              obtain ⟨ad120, e120, hx120_0⟩ := Kd.at_bool (Kd.R_reads' HO_24.out).2.2 x26_1 p120 q120
              (try rw [← Nbq17.out] at hx120_0)
              cases e120
              replace p120 := eq_true p120
              replace q120 := eq_true q120
              go_wp2
              go_roundg k1
              case measure => have := HK1.out; omega
              case rel => exact ⟨(Go.bits .or .i64 x3_1 (ji20)), (wrap64 (x26_1 + 1)), (by first | rfl | (simp; done) | (simp only [← hji20] <;> (first | rfl | simp)) | (simp [*]; done)), (by first | rfl | (simp; done) | (simp [*]; done)), H', ⟨by have := HK1.out; omega⟩, ⟨by (with_reducible repeat (first | apply Kd.R_alloc | apply Kd.R_drewN | apply Kd.R_drew)); exact HO_24.out⟩, ⟨by repeat (first | (with_reducible first | exact HB.out | apply below_alloc | apply pw_below_drewN | apply below_drew1) | exact HB.out)⟩⟩
            · replace c18 := Bool.eq_false_iff.mpr c18
              subst c18
              have H1 : (impl_Chosen.l0 k1 x3_1 y117 (y117.length : Int) (wrap64 (x26_1 + 1))) = some r := by rw [if_neg (show ¬ (false = true) by decide)] at H; exact H
              clear H
              have H := H1
              clear H1
              have H' := Aside0.mk H
              clear H
              have p120 : 0 ≤ (x26_1 : Int) := of_decide_eq_true (by first | (with_reducible assumption) | assumption)
              have q120 : x26_1 < (y117.length : Int) := of_decide_eq_true (by first | (with_reducible assumption) | assumption)
              obtain ⟨ad120, e120, hx120_0⟩ := Kd.at_bool (Kd.R_reads' HO_24.out).2.2 x26_1 p120 q120
              (try rw [← Nbq17.out] at hx120_0)
              cases e120
              replace p120 := eq_true p120
              replace q120 := eq_true q120
              go_wp2
              go_roundg k1
              case measure => have := HK1.out; omega
              case rel => exact ⟨(x3_1), (wrap64 (x26_1 + 1)), (by first | rfl | (simp; done) | (simp [*]; done)), (by first | rfl | (simp; done) | (simp [*]; done)), H', ⟨by have := HK1.out; omega⟩, ⟨by (with_reducible repeat (first | apply Kd.R_alloc | apply Kd.R_drewN | apply Kd.R_drew)); exact HO_24.out⟩, ⟨by repeat (first | (with_reducible first | exact HB.out | apply below_alloc | apply pw_below_drewN | apply below_drew1) | exact HB.out)⟩⟩
          · rw [if_neg c16] at H
            exact absurd H (by simp)
        · rw [if_neg c15] at H
          exact absurd H (by simp)
      · rw [if_neg c14] at H
        have c14b0 : decide (x26_1 < (y117.length : Int)) = false := decide_eq_false c14
        clear c14
        obtain rfl := Option.some.inj H
        go_wp2
        go_ret
        exact ⟨by first | rfl | (simp [errW_none, errW_some] <;> rfl) | (simp [*, errW_none, errW_some] <;> rfl), by repeat (first | (with_reducible first | exact HB.out | apply below_alloc | apply pw_below_drewN | apply below_drew1) | exact HB.out)⟩

end Go.Proofs.Ytlncbbmmlhammaa.PFnPartKind
