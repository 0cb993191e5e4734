-- PRINTED BY print.sh 35421559b90ae4d0a3588c463048766b98c2df88dd9212a6774a882060cdf62d: not written by this session
import Derived.Test.YtlncbbmmlhammaaPFnPartKindx0
namespace Go.Proofs.Ytlncbbmmlhammaa.PFnPartKind
open Go.RowKit Go.Proofs.YtlncbbmmlhammaaW.PrintWords Go.Proofs.YtlncbbmmlhammaaW.PrintLast Go.Proofs.YtlncbbmmlhammaaW.PrintMore
attribute [local go_sem] max2_int min2_int max_two min_two max_three min_three max_four min_four   -- for this text's walks alone
set_option linter.unusedVariables false
set_option linter.unusedSimpArgs false

/-! ### spec_PartKind: function 29 -/
mutual
def spec_PartKind.j0 : Nat → ByteArray → Bool → Option (Int)
  | 0, _, _ => none
  | k + 1, x3, x4 => if x4 = true then (some 129) else (if x3.toList = ([65, 49, 50, 56, 75, 87] : List UInt8) then (spec_PartKind.j1 k x3 (x3.toList == ([65, 49, 50, 56, 75, 87] : List UInt8))) else (if x3.toList = ([65, 49, 57, 50, 75, 87] : List UInt8) then (spec_PartKind.j1 k x3 (x3.toList == ([65, 49, 57, 50, 75, 87] : List UInt8))) else (spec_PartKind.j1 k x3 (x3.toList == ([65, 50, 53, 54, 75, 87] : List UInt8)))))
def spec_PartKind.j1 : Nat → ByteArray → Bool → Option (Int)
  | 0, _, _ => none
  | k + 1, x3, x8 => if x8 = true then (some 130) else (if x3.toList = ([100, 105, 114] : List UInt8) then (some 132) else (if x3.toList = ([69, 67, 68, 72, 45, 69, 83] : List UInt8) then (spec_PartKind.j2 k x3 (x3.toList == ([69, 67, 68, 72, 45, 69, 83] : List UInt8))) else (if x3.toList = ([69, 67, 68, 72, 45, 69, 83, 43, 65, 49, 50, 56, 75, 87] : List UInt8) then (spec_PartKind.j2 k x3 (x3.toList == ([69, 67, 68, 72, 45, 69, 83, 43, 65, 49, 50, 56, 75, 87] : List UInt8))) else (if x3.toList = ([69, 67, 68, 72, 45, 69, 83, 43, 65, 49, 57, 50, 75, 87] : List UInt8) then (spec_PartKind.j2 k x3 (x3.toList == ([69, 67, 68, 72, 45, 69, 83, 43, 65, 49, 57, 50, 75, 87] : List UInt8))) else (spec_PartKind.j2 k x3 (x3.toList == ([69, 67, 68, 72, 45, 69, 83, 43, 65, 50, 53, 54, 75, 87] : List UInt8)))))))
def spec_PartKind.j2 : Nat → ByteArray → Bool → Option (Int)
  | 0, _, _ => none
  | k + 1, x3, x14 => if x14 = true then (some 8) else (if x3.toList = ([80, 66, 69, 83, 50, 45, 72, 83, 50, 53, 54, 43, 65, 49, 50, 56, 75, 87] : List UInt8) then (spec_PartKind.j3 k x3 (x3.toList == ([80, 66, 69, 83, 50, 45, 72, 83, 50, 53, 54, 43, 65, 49, 50, 56, 75, 87] : List UInt8))) else (if x3.toList = ([80, 66, 69, 83, 50, 45, 72, 83, 51, 56, 52, 43, 65, 49, 57, 50, 75, 87] : List UInt8) then (spec_PartKind.j3 k x3 (x3.toList == ([80, 66, 69, 83, 50, 45, 72, 83, 51, 56, 52, 43, 65, 49, 57, 50, 75, 87] : List UInt8))) else (spec_PartKind.j3 k x3 (x3.toList == ([80, 66, 69, 83, 50, 45, 72, 83, 53, 49, 50, 43, 65, 50, 53, 54, 75, 87] : List UInt8)))))
def spec_PartKind.j3 : Nat → ByteArray → Bool → Option (Int)
  | 0, _, _ => none
  | k + 1, x3, x19 => if x19 = true then (some 144) else (if x3.toList = ([82, 83, 65, 49, 95, 53] : List UInt8) then (some 32) else (if x3.toList = ([82, 83, 65, 45, 79, 65, 69, 80] : List UInt8) then (spec_PartKind.j4 k x3 (x3.toList == ([82, 83, 65, 45, 79, 65, 69, 80] : List UInt8))) else (if x3.toList = ([82, 83, 65, 45, 79, 65, 69, 80, 45, 50, 53, 54] : List UInt8) then (spec_PartKind.j4 k x3 (x3.toList == ([82, 83, 65, 45, 79, 65, 69, 80, 45, 50, 53, 54] : List UInt8))) else (if x3.toList = ([82, 83, 65, 45, 79, 65, 69, 80, 45, 51, 56, 52] : List UInt8) then (spec_PartKind.j4 k x3 (x3.toList == ([82, 83, 65, 45, 79, 65, 69, 80, 45, 51, 56, 52] : List UInt8))) else (spec_PartKind.j4 k x3 (x3.toList == ([82, 83, 65, 45, 79, 65, 69, 80, 45, 53, 49, 50] : List UInt8)))))))
def spec_PartKind.j4 : Nat → ByteArray → Bool → Option (Int)
  | 0, _, _ => none
  | k + 1, x3, x25 => if x25 = true then (some 64) else (if x3.toList = ([65, 49, 50, 56, 71, 67, 77] : List UInt8) then (some 256) else (if x3.toList = ([65, 49, 57, 50, 71, 67, 77] : List UInt8) then (some 256) else (if x3.toList = ([65, 50, 53, 54, 71, 67, 77] : List UInt8) then (some 256) else (if x3.toList = ([65, 49, 50, 56, 67, 66, 67, 45, 72, 83, 50, 53, 54] : List UInt8) then (some 256) else (if x3.toList = ([65, 49, 57, 50, 67, 66, 67, 45, 72, 83, 51, 56, 52] : List UInt8) then (some 256) else (if x3.toList = ([65, 50, 53, 54, 67, 66, 67, 45, 72, 83, 53, 49, 50] : List UInt8) then (some 256) else (some 0)))))))
end
def spec_PartKind.f (k : Nat) (a0 : ByteArray) : Option (Int) := if a0.toList = ([65, 49, 50, 56, 71, 67, 77, 75, 87] : List UInt8) then (spec_PartKind.j0 k a0 (a0.toList == ([65, 49, 50, 56, 71, 67, 77, 75, 87] : List UInt8))) else (if a0.toList = ([65, 49, 57, 50, 71, 67, 77, 75, 87] : List UInt8) then (spec_PartKind.j0 k a0 (a0.toList == ([65, 49, 57, 50, 71, 67, 77, 75, 87] : List UInt8))) else (spec_PartKind.j0 k a0 (a0.toList == ([65, 50, 53, 54, 71, 67, 77, 75, 87] : List UInt8))))
theorem spec_PartKind.mono_l : ∀ k, (∀ y0 y1, LeO (spec_PartKind.j0 k y0 y1) (spec_PartKind.j0 (k + 1) y0 y1)) ∧ (∀ y0 y1, LeO (spec_PartKind.j1 k y0 y1) (spec_PartKind.j1 (k + 1) y0 y1)) ∧ (∀ y0 y1, LeO (spec_PartKind.j2 k y0 y1) (spec_PartKind.j2 (k + 1) y0 y1)) ∧ (∀ y0 y1, LeO (spec_PartKind.j3 k y0 y1) (spec_PartKind.j3 (k + 1) y0 y1)) ∧ (∀ y0 y1, LeO (spec_PartKind.j4 k y0 y1) (spec_PartKind.j4 (k + 1) y0 y1))
  | 0 => ⟨fun _ _ r h => by simp [spec_PartKind.j0] at h, fun _ _ r h => by simp [spec_PartKind.j1] at h, fun _ _ r h => by simp [spec_PartKind.j2] at h, fun _ _ r h => by simp [spec_PartKind.j3] at h, fun _ _ r h => by simp [spec_PartKind.j4] at h⟩
  | k + 1 => by
    obtain ⟨ih0, ih1, ih2, ih3, ih4⟩ := spec_PartKind.mono_l k
    refine ⟨?_, ?_, ?_, ?_, ?_⟩
    · intro y0 y1
      unfold spec_PartKind.j0
      repeat' first
      | (with_reducible exact ih0 _ _)
      | (with_reducible exact ih1 _ _)
      | (with_reducible exact ih2 _ _)
      | (with_reducible exact ih3 _ _)
      | (with_reducible exact ih4 _ _)
      | (with_reducible exact LeO.refl _)
      | (with_reducible exact LeO.none _)
      | (with_reducible refine LeO.ite ?_ ?_)
      | (with_reducible refine LeO.bind ?_ (fun _ => ?_))
      | exact ih0 _ _
      | exact ih1 _ _
      | exact ih2 _ _
      | exact ih3 _ _
      | exact ih4 _ _
      | exact LeO.none _
      | refine LeO.ite ?_ ?_
      | refine LeO.bind ?_ (fun _ => ?_)
    · intro y0 y1
      unfold spec_PartKind.j1
      repeat' first
      | (with_reducible exact ih0 _ _)
      | (with_reducible exact ih1 _ _)
      | (with_reducible exact ih2 _ _)
      | (with_reducible exact ih3 _ _)
      | (with_reducible exact ih4 _ _)
      | (with_reducible exact LeO.refl _)
      | (with_reducible exact LeO.none _)
      | (with_reducible refine LeO.ite ?_ ?_)
      | (with_reducible refine LeO.bind ?_ (fun _ => ?_))
      | exact ih0 _ _
      | exact ih1 _ _
      | exact ih2 _ _
      | exact ih3 _ _
      | exact ih4 _ _
      | exact LeO.none _
      | refine LeO.ite ?_ ?_
      | refine LeO.bind ?_ (fun _ => ?_)
    · intro y0 y1
      unfold spec_PartKind.j2
      repeat' first
      | (with_reducible exact ih0 _ _)
      | (with_reducible exact ih1 _ _)
      | (with_reducible exact ih2 _ _)
      | (with_reducible exact ih3 _ _)
      | (with_reducible exact ih4 _ _)
      | (with_reducible exact LeO.refl _)
      | (with_reducible exact LeO.none _)
      | (with_reducible refine LeO.ite ?_ ?_)
      | (with_reducible refine LeO.bind ?_ (fun _ => ?_))
      | exact ih0 _ _
      | exact ih1 _ _
      | exact ih2 _ _
      | exact ih3 _ _
      | exact ih4 _ _
      | exact LeO.none _
      | refine LeO.ite ?_ ?_
      | refine LeO.bind ?_ (fun _ => ?_)
    · intro y0 y1
      unfold spec_PartKind.j3
      repeat' first
      | (with_reducible exact ih0 _ _)
      | (with_reducible exact ih1 _ _)
      | (with_reducible exact ih2 _ _)
      | (with_reducible exact ih3 _ _)
      | (with_reducible exact ih4 _ _)
      | (with_reducible exact LeO.refl _)
      | (with_reducible exact LeO.none _)
      | (with_reducible refine LeO.ite ?_ ?_)
      | (with_reducible refine LeO.bind ?_ (fun _ => ?_))
      | exact ih0 _ _
      | exact ih1 _ _
      | exact ih2 _ _
      | exact ih3 _ _
      | exact ih4 _ _
      | exact LeO.none _
      | refine LeO.ite ?_ ?_
      | refine LeO.bind ?_ (fun _ => ?_)
    · intro y0 y1
      unfold spec_PartKind.j4
      repeat' first
      | (with_reducible exact ih0 _ _)
      | (with_reducible exact ih1 _ _)
      | (with_reducible exact ih2 _ _)
      | (with_reducible exact ih3 _ _)
      | (with_reducible exact ih4 _ _)
      | (with_reducible exact LeO.refl _)
      | (with_reducible exact LeO.none _)
      | (with_reducible refine LeO.ite ?_ ?_)
      | (with_reducible refine LeO.bind ?_ (fun _ => ?_))
      | exact ih0 _ _
      | exact ih1 _ _
      | exact ih2 _ _
      | exact ih3 _ _
      | exact ih4 _ _
      | exact LeO.none _
      | refine LeO.ite ?_ ?_
      | refine LeO.bind ?_ (fun _ => ?_)
theorem spec_PartKind.mono : ∀ a0 k, LeO (spec_PartKind.f k a0) (spec_PartKind.f (k + 1) a0) := by
  intro a0 k
  obtain ⟨ih0, ih1, ih2, ih3, ih4⟩ := spec_PartKind.mono_l k
  unfold spec_PartKind.f
  repeat' first
      | (with_reducible exact ih0 _ _)
      | (with_reducible exact ih1 _ _)
      | (with_reducible exact ih2 _ _)
      | (with_reducible exact ih3 _ _)
      | (with_reducible exact ih4 _ _)
      | (with_reducible exact LeO.refl _)
      | (with_reducible exact LeO.none _)
      | (with_reducible refine LeO.ite ?_ ?_)
      | (with_reducible refine LeO.bind ?_ (fun _ => ?_))
      | exact ih0 _ _
      | exact ih1 _ _
      | exact ih2 _ _
      | exact ih3 _ _
      | exact ih4 _ _
      | exact LeO.none _
      | refine LeO.ite ?_ ?_
      | refine LeO.bind ?_ (fun _ => ?_)
set_option maxHeartbeats 8000000 in
set_option maxRecDepth 100000 in
theorem spec_PartKind.calls (k : Nat) (a0 : ByteArray) (r : Int) (w : World) (h : spec_PartKind.f k a0 = some r) :
    Calls Try.prog 29 #[.string a0] w fun e w' => e = .returned (.int .i64 r) ∧ Drawn0 w w' := by
  have H : (if a0.toList = ([65, 49, 50, 56, 71, 67, 77, 75, 87] : List UInt8) then (spec_PartKind.j0 k a0 (a0.toList == ([65, 49, 50, 56, 71, 67, 77, 75, 87] : List UInt8))) else (if a0.toList = ([65, 49, 57, 50, 71, 67, 77, 75, 87] : List UInt8) then (spec_PartKind.j0 k a0 (a0.toList == ([65, 49, 57, 50, 71, 67, 77, 75, 87] : List UInt8))) else (spec_PartKind.j0 k a0 (a0.toList == ([65, 50, 53, 54, 71, 67, 77, 75, 87] : List UInt8))))) = some r := h
  clear h
  have HC2 := Aside0.mk H
  clear H
  go_enter Try.func29, Try.ntmps29
  go_upto_if 4 with (fail)
  go_cut [4] (fun v4 wc => ∃ (kq : Nat) (x4_1 : Bool), v4 = .bool x4_1 ∧ Aside0 (spec_PartKind.j0 kq a0 x4_1 = some r) ∧ Aside0 (kq ≤ k) ∧ Drawn0 w wc)
  case first =>
    have H := HC2.out
    clear HC2
    by_cases c3 : a0.toList = ([65, 49, 50, 56, 71, 67, 77, 75, 87] : List UInt8)
    · rw [if_pos c3] at H
      have c3b0 : (a0.toList == ([65, 49, 50, 56, 71, 67, 77, 75, 87] : List UInt8)) = true := beq_iff_eq.mpr c3
      have c3b1 : (a0.toList != ([65, 49, 50, 56, 71, 67, 77, 75, 87] : List UInt8)) = false := bne_eq_false_iff_eq.mpr c3
      clear c3
      (first | rw [c3b0] | (simp only [i64_w, i32_w]; rw [c3b0]) | skip)
      have H' := Aside0.mk H
      clear H
      go_wp2
      go_meet
      case rel => exact ⟨_, ((a0.toList == ([65, 49, 50, 56, 71, 67, 77, 75, 87] : List UInt8))), (by first | rfl | (simp; done) | (simp [*]; done)), H', ⟨by first | omega | exact Nat.le_refl _⟩, by repeat (first | exact Drawn0.refl _ | apply Drawn0.step)⟩
    · rw [if_neg c3] at H
      have c3b0 : (a0.toList == ([65, 49, 50, 56, 71, 67, 77, 75, 87] : List UInt8)) = false := beq_eq_false_iff_ne.mpr c3
      have c3b1 : (a0.toList != ([65, 49, 50, 56, 71, 67, 77, 75, 87] : List UInt8)) = true := bne_iff_ne.mpr c3
      (first | rw [c3b0] | (simp only [i64_w, i32_w]; rw [c3b0]) | skip)
      by_cases c4 : a0.toList = ([65, 49, 57, 50, 71, 67, 77, 75, 87] : List UInt8)
      · rw [if_pos c4] at H
        have c4b0 : (a0.toList == ([65, 49, 57, 50, 71, 67, 77, 75, 87] : List UInt8)) = true := beq_iff_eq.mpr c4
        have c4b1 : (a0.toList != ([65, 49, 57, 50, 71, 67, 77, 75, 87] : List UInt8)) = false := bne_eq_false_iff_eq.mpr c4
        clear c4
        have H' := Aside0.mk H
        clear H
        go_wp2
        go_meet
        case rel => exact ⟨_, ((a0.toList == ([65, 49, 57, 50, 71, 67, 77, 75, 87] : List UInt8))), (by first | rfl | (simp; done) | (simp [*]; done)), H', ⟨by first | omega | exact Nat.le_refl _⟩, by repeat (first | exact Drawn0.refl _ | apply Drawn0.step)⟩
      · rw [if_neg c4] at H
        have c4b0 : (a0.toList == ([65, 49, 57, 50, 71, 67, 77, 75, 87] : List UInt8)) = false := beq_eq_false_iff_ne.mpr c4
        have c4b1 : (a0.toList != ([65, 49, 57, 50, 71, 67, 77, 75, 87] : List UInt8)) = true := bne_iff_ne.mpr c4
        have H' := Aside0.mk H
        clear H
        go_wp2
        go_meet
        case rel => exact ⟨_, ((a0.toList == ([65, 50, 53, 54, 71, 67, 77, 75, 87] : List UInt8))), (by first | rfl | (simp; done) | (simp [*]; done)), H', ⟨by first | omega | exact Nat.le_refl _⟩, by repeat (first | exact Drawn0.refl _ | apply Drawn0.step)⟩
  case rest =>
    clear HC2
    try clear c2
    try clear p2
    try clear c3
    try clear c3b0
    try clear c3b1
    try clear c4
    try clear c4b0
    try clear c4b1
    obtain ⟨kq, x4_1, rfl, HA, HJ1, ⟨mc1, rfl⟩⟩ := hcut
    cases kq with
    | zero => exact absurd HA.out (by simp [spec_PartKind.j0])
    | succ kj1 =>
      have H := HA.out
      clear HA
      simp only [spec_PartKind.j0] at H
      by_cases c5 : x4_1 = true
      · subst c5
        have H1 : (some 129) = some r := by rw [if_pos rfl] at H; exact H
        clear H
        have H := H1
        clear H1
        obtain rfl := Option.some.inj H
        go_wp2
        go_ret
        exact ⟨by first | rfl | (simp; done) | (simp [*]; done), by repeat (first | exact Drawn0.refl _ | apply Drawn0.step)⟩
      · replace c5 := Bool.eq_false_iff.mpr c5
        subst c5
        have H1 : (if a0.toList = ([65, 49, 50, 56, 75, 87] : List UInt8) then (spec_PartKind.j1 kj1 a0 (a0.toList == ([65, 49, 50, 56, 75, 87] : List UInt8))) else (if a0.toList = ([65, 49, 57, 50, 75, 87] : List UInt8) then (spec_PartKind.j1 kj1 a0 (a0.toList == ([65, 49, 57, 50, 75, 87] : List UInt8))) else (spec_PartKind.j1 kj1 a0 (a0.toList == ([65, 50, 53, 54, 75, 87] : List UInt8))))) = some r := by rw [if_neg (show ¬ (false = true) by decide)] at H; exact H
        clear H
        have H := H1
        clear H1
        have HC6 := Aside0.mk H
        clear H
        go_upto_if 8 with (fail)
        go_cut [8] (fun v8 wc => ∃ (kq : Nat) (x8_5 : Bool), v8 = .bool x8_5 ∧ Aside0 (spec_PartKind.j1 kq a0 x8_5 = some r) ∧ Aside0 (kq ≤ kj1) ∧ Drawn0 w wc)
        case first =>
          have H := HC6.out
          clear HC6
          by_cases c7 : a0.toList = ([65, 49, 50, 56, 75, 87] : List UInt8)
          · rw [if_pos c7] at H
            have c7b0 : (a0.toList == ([65, 49, 50, 56, 75, 87] : List UInt8)) = true := beq_iff_eq.mpr c7
            have c7b1 : (a0.toList != ([65, 49, 50, 56, 75, 87] : List UInt8)) = false := bne_eq_false_iff_eq.mpr c7
            clear c7
            (first | rw [c7b0] | (simp only [i64_w, i32_w]; rw [c7b0]) | skip)
            have H' := Aside0.mk H
            clear H
            go_wp2
            go_meet
            case rel => exact ⟨_, ((a0.toList == ([65, 49, 50, 56, 75, 87] : List UInt8))), (by first | rfl | (simp; done) | (simp [*]; done)), H', ⟨by have := HJ1.out; first | omega | exact Nat.le_refl _⟩, by repeat (first | exact Drawn0.refl _ | apply Drawn0.step)⟩
          · rw [if_neg c7] at H
            have c7b0 : (a0.toList == ([65, 49, 50, 56, 75, 87] : List UInt8)) = false := beq_eq_false_iff_ne.mpr c7
            have c7b1 : (a0.toList != ([65, 49, 50, 56, 75, 87] : List UInt8)) = true := bne_iff_ne.mpr c7
            (first | rw [c7b0] | (simp only [i64_w, i32_w]; rw [c7b0]) | skip)
            by_cases c8 : a0.toList = ([65, 49, 57, 50, 75, 87] : List UInt8)
            · rw [if_pos c8] at H
              have c8b0 : (a0.toList == ([65, 49, 57, 50, 75, 87] : List UInt8)) = true := beq_iff_eq.mpr c8
              have c8b1 : (a0.toList != ([65, 49, 57, 50, 75, 87] : List UInt8)) = false := bne_eq_false_iff_eq.mpr c8
              clear c8
              have H' := Aside0.mk H
              clear H
              go_wp2
              go_meet
              case rel => exact ⟨_, ((a0.toList == ([65, 49, 57, 50, 75, 87] : List UInt8))), (by first | rfl | (simp; done) | (simp [*]; done)), H', ⟨by have := HJ1.out; first | omega | exact Nat.le_refl _⟩, by repeat (first | exact Drawn0.refl _ | apply Drawn0.step)⟩
            · rw [if_neg c8] at H
              have c8b0 : (a0.toList == ([65, 49, 57, 50, 75, 87] : List UInt8)) = false := beq_eq_false_iff_ne.mpr c8
              have c8b1 : (a0.toList != ([65, 49, 57, 50, 75, 87] : List UInt8)) = true := bne_iff_ne.mpr c8
              have H' := Aside0.mk H
              clear H
              go_wp2
              go_meet
              case rel => exact ⟨_, ((a0.toList == ([65, 50, 53, 54, 75, 87] : List UInt8))), (by first | rfl | (simp; done) | (simp [*]; done)), H', ⟨by have := HJ1.out; first | omega | exact Nat.le_refl _⟩, by repeat (first | exact Drawn0.refl _ | apply Drawn0.step)⟩
        case rest =>
          clear HC6
          try clear c1
          try clear c2
          try clear p2
          try clear c3
          try clear c3b0
          try clear c3b1
          try clear c4
          try clear c4b0
          try clear c4b1
          try clear c5
          try clear c7
          try clear c7b0
          try clear c7b1
          try clear c8
          try clear c8b0
          try clear c8b1
          try clear p2
          obtain ⟨kq, x8_5, rfl, HA, HJ5, ⟨mc5, rfl⟩⟩ := hcut
          cases kq with
          | zero => exact absurd HA.out (by simp [spec_PartKind.j1])
          | succ kj5 =>
            have H := HA.out
            clear HA
            simp only [spec_PartKind.j1] at H
            by_cases c9 : x8_5 = true
            · subst c9
              have H1 : (some 130) = some r := by rw [if_pos rfl] at H; exact H
              clear H
              have H := H1
              clear H1
              obtain rfl := Option.some.inj H
              go_wp2
              go_ret
              exact ⟨by first | rfl | (simp; done) | (simp [*]; done), by repeat (first | exact Drawn0.refl _ | apply Drawn0.step)⟩
            · replace c9 := Bool.eq_false_iff.mpr c9
              subst c9
              have H1 : (if a0.toList = ([100, 105, 114] : List UInt8) then (some 132) else (if a0.toList = ([69, 67, 68, 72, 45, 69, 83] : List UInt8) then (spec_PartKind.j2 kj5 a0 (a0.toList == ([69, 67, 68, 72, 45, 69, 83] : List UInt8))) else (if a0.toList = ([69, 67, 68, 72, 45, 69, 83, 43, 65, 49, 50, 56, 75, 87] : List UInt8) then (spec_PartKind.j2 kj5 a0 (a0.toList == ([69, 67, 68, 72, 45, 69, 83, 43, 65, 49, 50, 56, 75, 87] : List UInt8))) else (if a0.toList = ([69, 67, 68, 72, 45, 69, 83, 43, 65, 49, 57, 50, 75, 87] : List UInt8) then (spec_PartKind.j2 kj5 a0 (a0.toList == ([69, 67, 68, 72, 45, 69, 83, 43, 65, 49, 57, 50, 75, 87] : List UInt8))) else (spec_PartKind.j2 kj5 a0 (a0.toList == ([69, 67, 68, 72, 45, 69, 83, 43, 65, 50, 53, 54, 75, 87] : List UInt8))))))) = some r := by rw [if_neg (show ¬ (false = true) by decide)] at H; exact H
              clear H
              have H := H1
              clear H1
              by_cases c10 : a0.toList = ([100, 105, 114] : List UInt8)
              · rw [if_pos c10] at H
                have c10b0 : (a0.toList == ([100, 105, 114] : List UInt8)) = true := beq_iff_eq.mpr c10
                have c10b1 : (a0.toList != ([100, 105, 114] : List UInt8)) = false := bne_eq_false_iff_eq.mpr c10
                clear c10
                obtain rfl := Option.some.inj H
                go_wp2
                go_ret
                exact ⟨by first | rfl | (simp; done) | (simp [*]; done), by repeat (first | exact Drawn0.refl _ | apply Drawn0.step)⟩
              · rw [if_neg c10] at H
                have c10b0 : (a0.toList == ([100, 105, 114] : List UInt8)) = false := beq_eq_false_iff_ne.mpr c10
                have c10b1 : (a0.toList != ([100, 105, 114] : List UInt8)) = true := bne_iff_ne.mpr c10
                have HC11 := Aside0.mk H
                clear H
                go_upto_if 14 with (fail)
                go_cut [14] (fun v14 wc => ∃ (kq : Nat) (x14_10 : Bool), v14 = .bool x14_10 ∧ Aside0 (spec_PartKind.j2 kq a0 x14_10 = some r) ∧ Aside0 (kq ≤ kj5) ∧ Drawn0 w wc)
                case first =>
                  have H := HC11.out
                  clear HC11
                  by_cases c12 : a0.toList = ([69, 67, 68, 72, 45, 69, 83] : List UInt8)
                  · rw [if_pos c12] at H
                    have c12b0 : (a0.toList == ([69, 67, 68, 72, 45, 69, 83] : List UInt8)) = true := beq_iff_eq.mpr c12
                    have c12b1 : (a0.toList != ([69, 67, 68, 72, 45, 69, 83] : List UInt8)) = false := bne_eq_false_iff_eq.mpr c12
                    clear c12
                    (first | rw [c12b0] | (simp only [i64_w, i32_w]; rw [c12b0]) | skip)
                    have H' := Aside0.mk H
                    clear H
                    go_wp2
                    go_meet
                    case rel => exact ⟨_, ((a0.toList == ([69, 67, 68, 72, 45, 69, 83] : List UInt8))), (by first | rfl | (simp; done) | (simp [*]; done)), H', ⟨by have := HJ1.out; have := HJ5.out; first | omega | exact Nat.le_refl _⟩, by repeat (first | exact Drawn0.refl _ | apply Drawn0.step)⟩
                  · rw [if_neg c12] at H
                    have c12b0 : (a0.toList == ([69, 67, 68, 72, 45, 69, 83] : List UInt8)) = false := beq_eq_false_iff_ne.mpr c12
                    have c12b1 : (a0.toList != ([69, 67, 68, 72, 45, 69, 83] : List UInt8)) = true := bne_iff_ne.mpr c12
                    (first | rw [c12b0] | (simp only [i64_w, i32_w]; rw [c12b0]) | skip)
                    by_cases c13 : a0.toList = ([69, 67, 68, 72, 45, 69, 83, 43, 65, 49, 50, 56, 75, 87] : List UInt8)
                    · rw [if_pos c13] at H
                      have c13b0 : (a0.toList == ([69, 67, 68, 72, 45, 69, 83, 43, 65, 49, 50, 56, 75, 87] : List UInt8)) = true := beq_iff_eq.mpr c13
                      have c13b1 : (a0.toList != ([69, 67, 68, 72, 45, 69, 83, 43, 65, 49, 50, 56, 75, 87] : List UInt8)) = false := bne_eq_false_iff_eq.mpr c13
                      clear c13
                      have H' := Aside0.mk H
                      clear H
                      go_wp2
                      go_meet
                      case rel => exact ⟨_, ((a0.toList == ([69, 67, 68, 72, 45, 69, 83, 43, 65, 49, 50, 56, 75, 87] : List UInt8))), (by first | rfl | (simp; done) | (simp [*]; done)), H', ⟨by have := HJ1.out; have := HJ5.out; first | omega | exact Nat.le_refl _⟩, by repeat (first | exact Drawn0.refl _ | apply Drawn0.step)⟩
                    · rw [if_neg c13] at H
                      have c13b0 : (a0.toList == ([69, 67, 68, 72, 45, 69, 83, 43, 65, 49, 50, 56, 75, 87] : List UInt8)) = false := beq_eq_false_iff_ne.mpr c13
                      have c13b1 : (a0.toList != ([69, 67, 68, 72, 45, 69, 83, 43, 65, 49, 50, 56, 75, 87] : List UInt8)) = true := bne_iff_ne.mpr c13
                      by_cases c14 : a0.toList = ([69, 67, 68, 72, 45, 69, 83, 43, 65, 49, 57, 50, 75, 87] : List UInt8)
                      · rw [if_pos c14] at H
                        have c14b0 : (a0.toList == ([69, 67, 68, 72, 45, 69, 83, 43, 65, 49, 57, 50, 75, 87] : List UInt8)) = true := beq_iff_eq.mpr c14
                        have c14b1 : (a0.toList != ([69, 67, 68, 72, 45, 69, 83, 43, 65, 49, 57, 50, 75, 87] : List UInt8)) = false := bne_eq_false_iff_eq.mpr c14
                        clear c14
                        have H' := Aside0.mk H
                        clear H
                        go_wp2
                        go_meet
                        case rel => exact ⟨_, ((a0.toList == ([69, 67, 68, 72, 45, 69, 83, 43, 65, 49, 57, 50, 75, 87] : List UInt8))), (by first | rfl | (simp; done) | (simp [*]; done)), H', ⟨by have := HJ1.out; have := HJ5.out; first | omega | exact Nat.le_refl _⟩, by repeat (first | exact Drawn0.refl _ | apply Drawn0.step)⟩
                      · rw [if_neg c14] at H
                        have c14b0 : (a0.toList == ([69, 67, 68, 72, 45, 69, 83, 43, 65, 49, 57, 50, 75, 87] : List UInt8)) = false := beq_eq_false_iff_ne.mpr c14
                        have c14b1 : (a0.toList != ([69, 67, 68, 72, 45, 69, 83, 43, 65, 49, 57, 50, 75, 87] : List UInt8)) = true := bne_iff_ne.mpr c14
                        have H' := Aside0.mk H
                        clear H
                        go_wp2
                        go_meet
                        case rel => exact ⟨_, ((a0.toList == ([69, 67, 68, 72, 45, 69, 83, 43, 65, 50, 53, 54, 75, 87] : List UInt8))), (by first | rfl | (simp; done) | (simp [*]; done)), H', ⟨by have := HJ1.out; have := HJ5.out; first | omega | exact Nat.le_refl _⟩, by repeat (first | exact Drawn0.refl _ | apply Drawn0.step)⟩
                case rest =>
                  clear HC11
                  try clear c1
                  try clear c2
                  try clear p2
                  try clear c3
                  try clear c3b0
                  try clear c3b1
                  try clear c4
                  try clear c4b0
                  try clear c4b1
                  try clear c5
                  try clear c7
                  try clear c7b0
                  try clear c7b1
                  try clear c8
                  try clear c8b0
                  try clear c8b1
                  try clear c9
                  try clear c10
                  try clear c10b0
                  try clear c10b1
                  try clear c12
                  try clear c12b0
                  try clear c12b1
                  try clear c13
                  try clear c13b0
                  try clear c13b1
                  try clear c14
                  try clear c14b0
                  try clear c14b1
                  try clear p2
                  obtain ⟨kq, x14_10, rfl, HA, HJ10, ⟨mc10, rfl⟩⟩ := hcut
                  cases kq with
                  | zero => exact absurd HA.out (by simp [spec_PartKind.j2])
                  | succ kj10 =>
                    have H := HA.out
                    clear HA
                    simp only [spec_PartKind.j2] at H
                    by_cases c15 : x14_10 = true
                    · subst c15
                      have H1 : (some 8) = some r := by rw [if_pos rfl] at H; exact H
                      clear H
                      have H := H1
                      clear H1
                      obtain rfl := Option.some.inj H
                      go_wp2
                      go_ret
                      exact ⟨by first | rfl | (simp; done) | (simp [*]; done), by repeat (first | exact Drawn0.refl _ | apply Drawn0.step)⟩
                    · replace c15 := Bool.eq_false_iff.mpr c15
                      subst c15
                      have H1 : (if a0.toList = ([80, 66, 69, 83, 50, 45, 72, 83, 50, 53, 54, 43, 65, 49, 50, 56, 75, 87] : List UInt8) then (spec_PartKind.j3 kj10 a0 (a0.toList == ([80, 66, 69, 83, 50, 45, 72, 83, 50, 53, 54, 43, 65, 49, 50, 56, 75, 87] : List UInt8))) else (if a0.toList = ([80, 66, 69, 83, 50, 45, 72, 83, 51, 56, 52, 43, 65, 49, 57, 50, 75, 87] : List UInt8) then (spec_PartKind.j3 kj10 a0 (a0.toList == ([80, 66, 69, 83, 50, 45, 72, 83, 51, 56, 52, 43, 65, 49, 57, 50, 75, 87] : List UInt8))) else (spec_PartKind.j3 kj10 a0 (a0.toList == ([80, 66, 69, 83, 50, 45, 72, 83, 53, 49, 50, 43, 65, 50, 53, 54, 75, 87] : List UInt8))))) = some r := by rw [if_neg (show ¬ (false = true) by decide)] at H; exact H
                      clear H
                      have H := H1
                      clear H1
                      have HC16 := Aside0.mk H
                      clear H
                      go_upto_if 19 with (fail)
                      go_cut [19] (fun v19 wc => ∃ (kq : Nat) (x19_15 : Bool), v19 = .bool x19_15 ∧ Aside0 (spec_PartKind.j3 kq a0 x19_15 = some r) ∧ Aside0 (kq ≤ kj10) ∧ Drawn0 w wc)
                      case first =>
                        have H := HC16.out
                        clear HC16
                        by_cases c17 : a0.toList = ([80, 66, 69, 83, 50, 45, 72, 83, 50, 53, 54, 43, 65, 49, 50, 56, 75, 87] : List UInt8)
                        · rw [if_pos c17] at H
                          have c17b0 : (a0.toList == ([80, 66, 69, 83, 50, 45, 72, 83, 50, 53, 54, 43, 65, 49, 50, 56, 75, 87] : List UInt8)) = true := beq_iff_eq.mpr c17
                          have c17b1 : (a0.toList != ([80, 66, 69, 83, 50, 45, 72, 83, 50, 53, 54, 43, 65, 49, 50, 56, 75, 87] : List UInt8)) = false := bne_eq_false_iff_eq.mpr c17
                          clear c17
                          (first | rw [c17b0] | (simp only [i64_w, i32_w]; rw [c17b0]) | skip)
                          have H' := Aside0.mk H
                          clear H
                          go_wp2
                          go_meet
                          case rel => exact ⟨_, ((a0.toList == ([80, 66, 69, 83, 50, 45, 72, 83, 50, 53, 54, 43, 65, 49, 50, 56, 75, 87] : List UInt8))), (by first | rfl | (simp; done) | (simp [*]; done)), H', ⟨by have := HJ1.out; have := HJ5.out; have := HJ10.out; first | omega | exact Nat.le_refl _⟩, by repeat (first | exact Drawn0.refl _ | apply Drawn0.step)⟩
                        · rw [if_neg c17] at H
                          have c17b0 : (a0.toList == ([80, 66, 69, 83, 50, 45, 72, 83, 50, 53, 54, 43, 65, 49, 50, 56, 75, 87] : List UInt8)) = false := beq_eq_false_iff_ne.mpr c17
                          have c17b1 : (a0.toList != ([80, 66, 69, 83, 50, 45, 72, 83, 50, 53, 54, 43, 65, 49, 50, 56, 75, 87] : List UInt8)) = true := bne_iff_ne.mpr c17
                          (first | rw [c17b0] | (simp only [i64_w, i32_w]; rw [c17b0]) | skip)
                          by_cases c18 : a0.toList = ([80, 66, 69, 83, 50, 45, 72, 83, 51, 56, 52, 43, 65, 49, 57, 50, 75, 87] : List UInt8)
                          · rw [if_pos c18] at H
                            have c18b0 : (a0.toList == ([80, 66, 69, 83, 50, 45, 72, 83, 51, 56, 52, 43, 65, 49, 57, 50, 75, 87] : List UInt8)) = true := beq_iff_eq.mpr c18
                            have c18b1 : (a0.toList != ([80, 66, 69, 83, 50, 45, 72, 83, 51, 56, 52, 43, 65, 49, 57, 50, 75, 87] : List UInt8)) = false := bne_eq_false_iff_eq.mpr c18
                            clear c18
                            have H' := Aside0.mk H
                            clear H
                            go_wp2
                            go_meet
                            case rel => exact ⟨_, ((a0.toList == ([80, 66, 69, 83, 50, 45, 72, 83, 51, 56, 52, 43, 65, 49, 57, 50, 75, 87] : List UInt8))), (by first | rfl | (simp; done) | (simp [*]; done)), H', ⟨by have := HJ1.out; have := HJ5.out; have := HJ10.out; first | omega | exact Nat.le_refl _⟩, by repeat (first | exact Drawn0.refl _ | apply Drawn0.step)⟩
                          · rw [if_neg c18] at H
                            have c18b0 : (a0.toList == ([80, 66, 69, 83, 50, 45, 72, 83, 51, 56, 52, 43, 65, 49, 57, 50, 75, 87] : List UInt8)) = false := beq_eq_false_iff_ne.mpr c18
                            have c18b1 : (a0.toList != ([80, 66, 69, 83, 50, 45, 72, 83, 51, 56, 52, 43, 65, 49, 57, 50, 75, 87] : List UInt8)) = true := bne_iff_ne.mpr c18
                            have H' := Aside0.mk H
                            clear H
                            go_wp2
                            go_meet
                            case rel => exact ⟨_, ((a0.toList == ([80, 66, 69, 83, 50, 45, 72, 83, 53, 49, 50, 43, 65, 50, 53, 54, 75, 87] : List UInt8))), (by first | rfl | (simp; done) | (simp [*]; done)), H', ⟨by have := HJ1.out; have := HJ5.out; have := HJ10.out; first | omega | exact Nat.le_refl _⟩, by repeat (first | exact Drawn0.refl _ | apply Drawn0.step)⟩
                      case rest =>
                        clear HC16
                        try clear c1
                        try clear c2
                        try clear p2
                        try clear c3
                        try clear c3b0
                        try clear c3b1
                        try clear c4
                        try clear c4b0
                        try clear c4b1
                        try clear c5
                        try clear c7
                        try clear c7b0
                        try clear c7b1
                        try clear c8
                        try clear c8b0
                        try clear c8b1
                        try clear c9
                        try clear c10
                        try clear c10b0
                        try clear c10b1
                        try clear c12
                        try clear c12b0
                        try clear c12b1
                        try clear c13
                        try clear c13b0
                        try clear c13b1
                        try clear c14
                        try clear c14b0
                        try clear c14b1
                        try clear c15
                        try clear c17
                        try clear c17b0
                        try clear c17b1
                        try clear c18
                        try clear c18b0
                        try clear c18b1
                        try clear p2
                        obtain ⟨kq, x19_15, rfl, HA, HJ15, ⟨mc15, rfl⟩⟩ := hcut
                        cases kq with
                        | zero => exact absurd HA.out (by simp [spec_PartKind.j3])
                        | succ kj15 =>
                          have H := HA.out
                          clear HA
                          simp only [spec_PartKind.j3] at H
                          by_cases c19 : x19_15 = true
                          · subst c19
                            have H1 : (some 144) = some r := by rw [if_pos rfl] at H; exact H
                            clear H
                            have H := H1
                            clear H1
                            obtain rfl := Option.some.inj H
                            go_wp2
                            go_ret
                            exact ⟨by first | rfl | (simp; done) | (simp [*]; done), by repeat (first | exact Drawn0.refl _ | apply Drawn0.step)⟩
                          · replace c19 := Bool.eq_false_iff.mpr c19
                            subst c19
                            have H1 : (if a0.toList = ([82, 83, 65, 49, 95, 53] : List UInt8) then (some 32) else (if a0.toList = ([82, 83, 65, 45, 79, 65, 69, 80] : List UInt8) then (spec_PartKind.j4 kj15 a0 (a0.toList == ([82, 83, 65, 45, 79, 65, 69, 80] : List UInt8))) else (if a0.toList = ([82, 83, 65, 45, 79, 65, 69, 80, 45, 50, 53, 54] : List UInt8) then (spec_PartKind.j4 kj15 a0 (a0.toList == ([82, 83, 65, 45, 79, 65, 69, 80, 45, 50, 53, 54] : List UInt8))) else (if a0.toList = ([82, 83, 65, 45, 79, 65, 69, 80, 45, 51, 56, 52] : List UInt8) then (spec_PartKind.j4 kj15 a0 (a0.toList == ([82, 83, 65, 45, 79, 65, 69, 80, 45, 51, 56, 52] : List UInt8))) else (spec_PartKind.j4 kj15 a0 (a0.toList == ([82, 83, 65, 45, 79, 65, 69, 80, 45, 53, 49, 50] : List UInt8))))))) = some r := by rw [if_neg (show ¬ (false = true) by decide)] at H; exact H
                            clear H
                            have H := H1
                            clear H1
                            by_cases c20 : a0.toList = ([82, 83, 65, 49, 95, 53] : List UInt8)
                            · rw [if_pos c20] at H
                              have c20b0 : (a0.toList == ([82, 83, 65, 49, 95, 53] : List UInt8)) = true := beq_iff_eq.mpr c20
                              have c20b1 : (a0.toList != ([82, 83, 65, 49, 95, 53] : List UInt8)) = false := bne_eq_false_iff_eq.mpr c20
                              clear c20
                              obtain rfl := Option.some.inj H
                              go_wp2
                              go_ret
                              exact ⟨by first | rfl | (simp; done) | (simp [*]; done), by repeat (first | exact Drawn0.refl _ | apply Drawn0.step)⟩
                            · rw [if_neg c20] at H
                              have c20b0 : (a0.toList == ([82, 83, 65, 49, 95, 53] : List UInt8)) = false := beq_eq_false_iff_ne.mpr c20
                              have c20b1 : (a0.toList != ([82, 83, 65, 49, 95, 53] : List UInt8)) = true := bne_iff_ne.mpr c20
                              have HC21 := Aside0.mk H
                              clear H
                              go_upto_if 25 with (fail)
                              go_cut [25] (fun v25 wc => ∃ (kq : Nat) (x25_20 : Bool), v25 = .bool x25_20 ∧ Aside0 (spec_PartKind.j4 kq a0 x25_20 = some r) ∧ Aside0 (kq ≤ kj15) ∧ Drawn0 w wc)
                              case first =>
                                have H := HC21.out
                                clear HC21
                                by_cases c22 : a0.toList = ([82, 83, 65, 45, 79, 65, 69, 80] : List UInt8)
                                · rw [if_pos c22] at H
                                  have c22b0 : (a0.toList == ([82, 83, 65, 45, 79, 65, 69, 80] : List UInt8)) = true := beq_iff_eq.mpr c22
                                  have c22b1 : (a0.toList != ([82, 83, 65, 45, 79, 65, 69, 80] : List UInt8)) = false := bne_eq_false_iff_eq.mpr c22
                                  clear c22
                                  (first | rw [c22b0] | (simp only [i64_w, i32_w]; rw [c22b0]) | skip)
                                  have H' := Aside0.mk H
                                  clear H
                                  go_wp2
                                  go_meet
                                  case rel => exact ⟨_, ((a0.toList == ([82, 83, 65, 45, 79, 65, 69, 80] : List UInt8))), (by first | rfl | (simp; done) | (simp [*]; done)), H', ⟨by have := HJ1.out; have := HJ5.out; have := HJ10.out; have := HJ15.out; first | omega | exact Nat.le_refl _⟩, by repeat (first | exact Drawn0.refl _ | apply Drawn0.step)⟩
                                · rw [if_neg c22] at H
                                  have c22b0 : (a0.toList == ([82, 83, 65, 45, 79, 65, 69, 80] : List UInt8)) = false := beq_eq_false_iff_ne.mpr c22
                                  have c22b1 : (a0.toList != ([82, 83, 65, 45, 79, 65, 69, 80] : List UInt8)) = true := bne_iff_ne.mpr c22
                                  (first | rw [c22b0] | (simp only [i64_w, i32_w]; rw [c22b0]) | skip)
                                  by_cases c23 : a0.toList = ([82, 83, 65, 45, 79, 65, 69, 80, 45, 50, 53, 54] : List UInt8)
                                  · rw [if_pos c23] at H
                                    have c23b0 : (a0.toList == ([82, 83, 65, 45, 79, 65, 69, 80, 45, 50, 53, 54] : List UInt8)) = true := beq_iff_eq.mpr c23
                                    have c23b1 : (a0.toList != ([82, 83, 65, 45, 79, 65, 69, 80, 45, 50, 53, 54] : List UInt8)) = false := bne_eq_false_iff_eq.mpr c23
                                    clear c23
                                    have H' := Aside0.mk H
                                    clear H
                                    go_wp2
                                    go_meet
                                    case rel => exact ⟨_, ((a0.toList == ([82, 83, 65, 45, 79, 65, 69, 80, 45, 50, 53, 54] : List UInt8))), (by first | rfl | (simp; done) | (simp [*]; done)), H', ⟨by have := HJ1.out; have := HJ5.out; have := HJ10.out; have := HJ15.out; first | omega | exact Nat.le_refl _⟩, by repeat (first | exact Drawn0.refl _ | apply Drawn0.step)⟩
                                  · rw [if_neg c23] at H
                                    have c23b0 : (a0.toList == ([82, 83, 65, 45, 79, 65, 69, 80, 45, 50, 53, 54] : List UInt8)) = false := beq_eq_false_iff_ne.mpr c23
                                    have c23b1 : (a0.toList != ([82, 83, 65, 45, 79, 65, 69, 80, 45, 50, 53, 54] : List UInt8)) = true := bne_iff_ne.mpr c23
                                    by_cases c24 : a0.toList = ([82, 83, 65, 45, 79, 65, 69, 80, 45, 51, 56, 52] : List UInt8)
                                    · rw [if_pos c24] at H
                                      have c24b0 : (a0.toList == ([82, 83, 65, 45, 79, 65, 69, 80, 45, 51, 56, 52] : List UInt8)) = true := beq_iff_eq.mpr c24
                                      have c24b1 : (a0.toList != ([82, 83, 65, 45, 79, 65, 69, 80, 45, 51, 56, 52] : List UInt8)) = false := bne_eq_false_iff_eq.mpr c24
                                      clear c24
                                      have H' := Aside0.mk H
                                      clear H
                                      go_wp2
                                      go_meet
                                      case rel => exact ⟨_, ((a0.toList == ([82, 83, 65, 45, 79, 65, 69, 80, 45, 51, 56, 52] : List UInt8))), (by first | rfl | (simp; done) | (simp [*]; done)), H', ⟨by have := HJ1.out; have := HJ5.out; have := HJ10.out; have := HJ15.out; first | omega | exact Nat.le_refl _⟩, by repeat (first | exact Drawn0.refl _ | apply Drawn0.step)⟩
                                    · rw [if_neg c24] at H
                                      have c24b0 : (a0.toList == ([82, 83, 65, 45, 79, 65, 69, 80, 45, 51, 56, 52] : List UInt8)) = false := beq_eq_false_iff_ne.mpr c24
                                      have c24b1 : (a0.toList != ([82, 83, 65, 45, 79, 65, 69, 80, 45, 51, 56, 52] : List UInt8)) = true := bne_iff_ne.mpr c24
                                      have H' := Aside0.mk H
                                      clear H
                                      go_wp2
                                      go_meet
                                      case rel => exact ⟨_, ((a0.toList == ([82, 83, 65, 45, 79, 65, 69, 80, 45, 53, 49, 50] : List UInt8))), (by first | rfl | (simp; done) | (simp [*]; done)), H', ⟨by have := HJ1.out; have := HJ5.out; have := HJ10.out; have := HJ15.out; first | omega | exact Nat.le_refl _⟩, by repeat (first | exact Drawn0.refl _ | apply Drawn0.step)⟩
                              case rest =>
                                clear HC21
                                try clear c1
                                try clear c2
                                try clear p2
                                try clear c3
                                try clear c3b0
                                try clear c3b1
                                try clear c4
                                try clear c4b0
                                try clear c4b1
                                try clear c5
                                try clear c7
                                try clear c7b0
                                try clear c7b1
                                try clear c8
                                try clear c8b0
                                try clear c8b1
                                try clear c9
                                try clear c10
                                try clear c10b0
                                try clear c10b1
                                try clear c12
                                try clear c12b0
                                try clear c12b1
                                try clear c13
                                try clear c13b0
                                try clear c13b1
                                try clear c14
                                try clear c14b0
                                try clear c14b1
                                try clear c15
                                try clear c17
                                try clear c17b0
                                try clear c17b1
                                try clear c18
                                try clear c18b0
                                try clear c18b1
                                try clear c19
                                try clear c20
                                try clear c20b0
                                try clear c20b1
                                try clear c22
                                try clear c22b0
                                try clear c22b1
                                try clear c23
                                try clear c23b0
                                try clear c23b1
                                try clear c24
                                try clear c24b0
                                try clear c24b1
                                try clear p2
                                obtain ⟨kq, x25_20, rfl, HA, HJ20, ⟨mc20, rfl⟩⟩ := hcut
                                cases kq with
                                | zero => exact absurd HA.out (by simp [spec_PartKind.j4])
                                | succ kj20 =>
                                  have H := HA.out
                                  clear HA
                                  simp only [spec_PartKind.j4] at H
                                  by_cases c25 : x25_20 = true
                                  · subst c25
                                    have H1 : (some 64) = some r := by rw [if_pos rfl] at H; exact H
                                    clear H
                                    have H := H1
                                    clear H1
                                    obtain rfl := Option.some.inj H
                                    go_wp2
                                    go_ret
                                    exact ⟨by first | rfl | (simp; done) | (simp [*]; done), by repeat (first | exact Drawn0.refl _ | apply Drawn0.step)⟩
                                  · replace c25 := Bool.eq_false_iff.mpr c25
                                    subst c25
                                    have H1 : (if a0.toList = ([65, 49, 50, 56, 71, 67, 77] : List UInt8) then (some 256) else (if a0.toList = ([65, 49, 57, 50, 71, 67, 77] : List UInt8) then (some 256) else (if a0.toList = ([65, 50, 53, 54, 71, 67, 77] : List UInt8) then (some 256) else (if a0.toList = ([65, 49, 50, 56, 67, 66, 67, 45, 72, 83, 50, 53, 54] : List UInt8) then (some 256) else (if a0.toList = ([65, 49, 57, 50, 67, 66, 67, 45, 72, 83, 51, 56, 52] : List UInt8) then (some 256) else (if a0.toList = ([65, 50, 53, 54, 67, 66, 67, 45, 72, 83, 53, 49, 50] : List UInt8) then (some 256) else (some 0))))))) = some r := by rw [if_neg (show ¬ (false = true) by decide)] at H; exact H
                                    clear H
                                    have H := H1
                                    clear H1
                                    by_cases c26 : a0.toList = ([65, 49, 50, 56, 71, 67, 77] : List UInt8)
                                    · rw [if_pos c26] at H
                                      have c26b0 : (a0.toList == ([65, 49, 50, 56, 71, 67, 77] : List UInt8)) = true := beq_iff_eq.mpr c26
                                      have c26b1 : (a0.toList != ([65, 49, 50, 56, 71, 67, 77] : List UInt8)) = false := bne_eq_false_iff_eq.mpr c26
                                      clear c26
                                      obtain rfl := Option.some.inj H
                                      go_wp2
                                      go_ret
                                      exact ⟨by first | rfl | (simp; done) | (simp [*]; done), by repeat (first | exact Drawn0.refl _ | apply Drawn0.step)⟩
                                    · rw [if_neg c26] at H
                                      have c26b0 : (a0.toList == ([65, 49, 50, 56, 71, 67, 77] : List UInt8)) = false := beq_eq_false_iff_ne.mpr c26
                                      have c26b1 : (a0.toList != ([65, 49, 50, 56, 71, 67, 77] : List UInt8)) = true := bne_iff_ne.mpr c26
                                      by_cases c27 : a0.toList = ([65, 49, 57, 50, 71, 67, 77] : List UInt8)
                                      · rw [if_pos c27] at H
                                        have c27b0 : (a0.toList == ([65, 49, 57, 50, 71, 67, 77] : List UInt8)) = true := beq_iff_eq.mpr c27
                                        have c27b1 : (a0.toList != ([65, 49, 57, 50, 71, 67, 77] : List UInt8)) = false := bne_eq_false_iff_eq.mpr c27
                                        clear c27
                                        obtain rfl := Option.some.inj H
                                        go_wp2
                                        go_ret
                                        exact ⟨by first | rfl | (simp; done) | (simp [*]; done), by repeat (first | exact Drawn0.refl _ | apply Drawn0.step)⟩
                                      · rw [if_neg c27] at H
                                        have c27b0 : (a0.toList == ([65, 49, 57, 50, 71, 67, 77] : List UInt8)) = false := beq_eq_false_iff_ne.mpr c27
                                        have c27b1 : (a0.toList != ([65, 49, 57, 50, 71, 67, 77] : List UInt8)) = true := bne_iff_ne.mpr c27
                                        by_cases c28 : a0.toList = ([65, 50, 53, 54, 71, 67, 77] : List UInt8)
                                        · rw [if_pos c28] at H
                                          have c28b0 : (a0.toList == ([65, 50, 53, 54, 71, 67, 77] : List UInt8)) = true := beq_iff_eq.mpr c28
                                          have c28b1 : (a0.toList != ([65, 50, 53, 54, 71, 67, 77] : List UInt8)) = false := bne_eq_false_iff_eq.mpr c28
                                          clear c28
                                          obtain rfl := Option.some.inj H
                                          go_wp2
                                          go_ret
                                          exact ⟨by first | rfl | (simp; done) | (simp [*]; done), by repeat (first | exact Drawn0.refl _ | apply Drawn0.step)⟩
                                        · rw [if_neg c28] at H
                                          have c28b0 : (a0.toList == ([65, 50, 53, 54, 71, 67, 77] : List UInt8)) = false := beq_eq_false_iff_ne.mpr c28
                                          have c28b1 : (a0.toList != ([65, 50, 53, 54, 71, 67, 77] : List UInt8)) = true := bne_iff_ne.mpr c28
                                          by_cases c29 : a0.toList = ([65, 49, 50, 56, 67, 66, 67, 45, 72, 83, 50, 53, 54] : List UInt8)
                                          · rw [if_pos c29] at H
                                            have c29b0 : (a0.toList == ([65, 49, 50, 56, 67, 66, 67, 45, 72, 83, 50, 53, 54] : List UInt8)) = true := beq_iff_eq.mpr c29
                                            have c29b1 : (a0.toList != ([65, 49, 50, 56, 67, 66, 67, 45, 72, 83, 50, 53, 54] : List UInt8)) = false := bne_eq_false_iff_eq.mpr c29
                                            clear c29
                                            obtain rfl := Option.some.inj H
                                            go_wp2
                                            go_ret
                                            exact ⟨by first | rfl | (simp; done) | (simp [*]; done), by repeat (first | exact Drawn0.refl _ | apply Drawn0.step)⟩
                                          · rw [if_neg c29] at H
                                            have c29b0 : (a0.toList == ([65, 49, 50, 56, 67, 66, 67, 45, 72, 83, 50, 53, 54] : List UInt8)) = false := beq_eq_false_iff_ne.mpr c29
                                            have c29b1 : (a0.toList != ([65, 49, 50, 56, 67, 66, 67, 45, 72, 83, 50, 53, 54] : List UInt8)) = true := bne_iff_ne.mpr c29
                                            by_cases c30 : a0.toList = ([65, 49, 57, 50, 67, 66, 67, 45, 72, 83, 51, 56, 52] : List UInt8)
                                            · rw [if_pos c30] at H
                                              have c30b0 : (a0.toList == ([65, 49, 57, 50, 67, 66, 67, 45, 72, 83, 51, 56, 52] : List UInt8)) = true := beq_iff_eq.mpr c30
                                              have c30b1 : (a0.toList != ([65, 49, 57, 50, 67, 66, 67, 45, 72, 83, 51, 56, 52] : List UInt8)) = false := bne_eq_false_iff_eq.mpr c30
                                              clear c30
                                              obtain rfl := Option.some.inj H
                                              go_wp2
                                              go_ret
                                              exact ⟨by first | rfl | (simp; done) | (simp [*]; done), by repeat (first | exact Drawn0.refl _ | apply Drawn0.step)⟩
                                            · rw [if_neg c30] at H
                                              have c30b0 : (a0.toList == ([65, 49, 57, 50, 67, 66, 67, 45, 72, 83, 51, 56, 52] : List UInt8)) = false := beq_eq_false_iff_ne.mpr c30
                                              have c30b1 : (a0.toList != ([65, 49, 57, 50, 67, 66, 67, 45, 72, 83, 51, 56, 52] : List UInt8)) = true := bne_iff_ne.mpr c30
                                              by_cases c31 : a0.toList = ([65, 50, 53, 54, 67, 66, 67, 45, 72, 83, 53, 49, 50] : List UInt8)
                                              · rw [if_pos c31] at H
                                                have c31b0 : (a0.toList == ([65, 50, 53, 54, 67, 66, 67, 45, 72, 83, 53, 49, 50] : List UInt8)) = true := beq_iff_eq.mpr c31
                                                have c31b1 : (a0.toList != ([65, 50, 53, 54, 67, 66, 67, 45, 72, 83, 53, 49, 50] : List UInt8)) = false := bne_eq_false_iff_eq.mpr c31
                                                clear c31
                                                obtain rfl := Option.some.inj H
                                                go_wp2
                                                go_ret
                                                exact ⟨by first | rfl | (simp; done) | (simp [*]; done), by repeat (first | exact Drawn0.refl _ | apply Drawn0.step)⟩
                                              · rw [if_neg c31] at H
                                                have c31b0 : (a0.toList == ([65, 50, 53, 54, 67, 66, 67, 45, 72, 83, 53, 49, 50] : List UInt8)) = false := beq_eq_false_iff_ne.mpr c31
                                                have c31b1 : (a0.toList != ([65, 50, 53, 54, 67, 66, 67, 45, 72, 83, 53, 49, 50] : List UInt8)) = true := bne_iff_ne.mpr c31
                                                obtain rfl := Option.some.inj H
                                                go_wp2
                                                go_ret
                                                exact ⟨by first | rfl | (simp; done) | (simp [*]; done), by repeat (first | exact Drawn0.refl _ | apply Drawn0.step)⟩

-- NOT PRINTED: function 10 (laws_FnPartKind)

end Go.Proofs.Ytlncbbmmlhammaa.PFnPartKind
