/-
  FnWrapPad, FnWrapTail: the plain law of paddings, and the walks of the laws.
-/
import Derived.Test.YtocjolboglcamaaPadImpl
namespace Go.Proofs.Ytocjolboglcamaa
open Go.RowKit Go.Proofs.YtocjolboglcamaaW.PrintWords
set_option linter.unusedVariables false
set_option linter.unusedSimpArgs false
theorem u8_ff (p : UInt8) : 255 &&& p = p := UInt8.toBitVec_inj.1 (by
  show (BitVec.allOnes 8) &&& p.toBitVec = p.toBitVec
  exact BitVec.allOnes_and)
theorem u8_fg (p : UInt8) : p &&& 255 = p := by rw [UInt8.and_comm, u8_ff]
theorem u8_z (g p b : UInt8) : g &&& ~~~((0 &&& p) ^^^ (0 &&& b)) = g := by
  rw [UInt8.zero_and, UInt8.zero_and, UInt8.xor_self]
  exact u8_fg g
theorem mskB_iff (x y : Nat) : mskB x y = 255 ↔ y ≤ x := by
  unfold mskB
  split
  · simp [*]
  · simp; omega
theorem good_iff (ys : List UInt8) (p : UInt8) : ∀ k, goodTo ys p k = 255 ↔ p.toNat ≤ ys.length ∧ ∀ i, i < k → i + 1 ≤ p.toNat → ys[ys.length - (i + 1)]?.getD 0 = p
  | 0 => by simp only [goodTo, mskB_iff]; simp
  | k + 1 => by
    simp only [goodTo]
    by_cases h : k + 1 ≤ p.toNat
    · rw [(mskB_iff p.toNat (k + 1)).2 h, u8_ff, u8_ff, b8_full, good_iff ys p k]
      constructor
      · rintro ⟨⟨h1, h2⟩, h3⟩
        refine ⟨h1, fun i hi hip => ?_⟩
        rcases Nat.lt_or_ge i k with hlt | hge
        · exact h2 i hlt hip
        · obtain rfl : i = k := by omega
          exact h3.symm
      · rintro ⟨h1, h2⟩
        exact ⟨⟨h1, fun i hi hip => h2 i (by omega) hip⟩, (h2 k (by omega) h).symm⟩
    · have hz : mskB p.toNat (k + 1) = 0 := by unfold mskB; rw [if_neg h]
      rw [hz, u8_z, good_iff ys p k]
      constructor
      · rintro ⟨h1, h2⟩
        exact ⟨h1, fun i hi hip => h2 i (by omega) hip⟩
      · rintro ⟨h1, h2⟩
        exact ⟨h1, fun i hi hip => h2 i (by omega) hip⟩
/-- What stands j places ahead of the end of bytes behind which a byte stands k times. -/
theorem tail_at (xs : List UInt8) (p : UInt8) (k i : Nat) (hi : i < k) : (xs ++ List.replicate k p)[(xs ++ List.replicate k p).length - (i + 1)]?.getD 0 = p := by
  have h1 : (xs ++ List.replicate k p).length - (i + 1) = xs.length + (k - (i + 1)) := by simp; omega
  rw [h1, List.getElem?_append_right (by omega), Nat.add_sub_cancel_left, List.getElem?_replicate, if_pos (by omega)]
  rfl
theorem ex_last {ys : List UInt8} {m : Nat} (hm : ys.length = m + 1) : ys[m]? = ys[ys.length - (0 + 1)]? := by rw [hm]; rfl
/-- As many as it tells, or more. -/
theorem ex_good (xs : List UInt8) (p : UInt8) (k m : Nat) (hk : 0 < k) (hp : p.toNat ≤ k) (hm : (xs ++ List.replicate k p).length = m + 1) :
    exN (xs ++ List.replicate k p) m = (p.toNat : Int) ∧ exV (xs ++ List.replicate k p) m = 255 := by
  have hl : (xs ++ List.replicate k p)[m]?.getD 0 = p := by rw [ex_last hm]; exact tail_at xs p k 0 hk
  have hg : exG (xs ++ List.replicate k p) m = 255 := by
    unfold exG
    rw [hl, (good_iff _ p _).2 ⟨by simp; omega, fun i _ hip => tail_at xs p k i (by omega)⟩]
    rfl
  constructor
  · unfold exN
    rw [hg, hl, u8_fg]
  · unfold exV
    rw [hg]
    rfl
/-- Fewer than it tells. -/
theorem ex_bad (xs : List UInt8) (p : UInt8) (k m : Nat) (hk : 0 < k) (hp : k < p.toNat) (hm : (xs ++ List.replicate k p).length = m + 1) (hx : ∀ h : xs ≠ [], xs.getLast h ≠ p) :
    exN (xs ++ List.replicate k p) m = 0 ∧ exV (xs ++ List.replicate k p) m = 0 := by
  have hl : (xs ++ List.replicate k p)[m]?.getD 0 = p := by rw [ex_last hm]; exact tail_at xs p k 0 hk
  have hg : exG (xs ++ List.replicate k p) m = 0 := by
    unfold exG foldB
    rw [hl, if_neg]
    intro h
    obtain ⟨h1, h2⟩ := (good_iff _ p _).1 h
    have hpl := p.toNat_lt
    have hkx : 0 < xs.length := by simp at h1; omega
    have h3 := h2 k (by simp at hm; omega) (by omega)
    have h4 : (xs ++ List.replicate k p).length - (k + 1) = xs.length - 1 := by simp; omega
    rw [h4, List.getElem?_append_left (by omega), List.getElem?_eq_getElem (by omega)] at h3
    refine hx (by rintro rfl; simp at hkx) ?_
    rw [List.getLast_eq_getElem]
    exact h3
  constructor
  · unfold exN
    rw [hg]
    simp
  · unfold exV
    rw [hg]
    rfl
theorem padded_length (xs : List UInt8) (b : Nat) : (padded xs b).length = xs.length + padN xs.length b := by simp [padded]
theorem padded_mod (xs : List UInt8) (b : Nat) (hb : 0 < b) : (padded xs b).length % b = 0 := by
  rw [padded_length]
  unfold padN
  have h1 := Nat.mod_lt xs.length hb
  have h2 := Nat.div_add_mod xs.length b
  have h3 : xs.length + (b - xs.length % b) = b * (xs.length / b + 1) := by rw [Nat.mul_add]; omega
  rw [h3, Nat.mul_mod_right]
theorem C1_bytes (w : World) (e g : Nat) (hg : w.heap.size = g) (xs : List UInt8) (hm : xs.length ≤ 1000) : kB.C (w.alloc (.cells (xs.map bV).toArray e)) (some ⟨g, 0, none⟩) xs.length xs :=
  C1_lit w e g hg xs (by unfold maxLen; omega)
theorem exAwake : exN [7, 2, 2] 2 = 2 ∧ exV [7, 2, 2] 2 = 255 := by constructor <;> kernel_rfl
set_option maxHeartbeats 1000000 in
theorem padAwake_any (w : World) : Calls Try.prog 15 #[] w fun e w' => e = .returned (.bool true) ∧ Hold w w.heap.size w' [] := by
  have E1 := Aside0.mk exAwake.1
  have E2 := Aside0.mk exAwake.2
  go_enter Try.func15, Try.ntmps15
  go_wp2_with fail
  refine (Unpadded_any _ _ _ _ [7, 2, 2] 2 rfl (by decide) (C1_bytes w 5 _ rfl [7, 2, 2] (by decide))).mono ?_
  rintro e w1 ⟨rfl, hR⟩
  have H1 := Aside0.mk (((Hold.start w).alloc_ _).app hR)
  clear hR
  rw [E1.out, E2.out]
  go_wp2_with fail
  refine (Padded_any _ _ _ _ [7] 3 (by decide) (by decide) (by decide) (C1_bytes _ 5 _ rfl [7] (by decide))).mono ?_
  rintro e w2 ⟨v, rfl, hR⟩
  rw [show padded [7] 3 = [7, 2, 2] from by kernel_rfl] at hR
  obtain ⟨A1, c1, rfl, _, hC1⟩ := hR.reads 0 rfl
  have H2 := Aside0.mk ((H1.out.alloc_ _).app hR)
  have HC1 := Aside0.mk hC1
  clear hR H1 hC1
  go_wp2_with fail
  refine (same_any _ A1 _ _ _ _ _ [7, 2, 2] [7, 2, 2] (Kd.C_below HC1.out (Hold.start _ |>.alloc_ _).below) (C1_bytes _ 5 _ rfl [7, 2, 2] (by decide))).mono ?_
  rintro e w3 ⟨rfl, n, rfl⟩
  rw [decide_eq_true rfl]
  go_wp2
  go_ret
  exact ⟨rfl, ((H2.out.pick [] (by decide) (L' := []) rfl).alloc_ _).drewN n⟩
end Go.Proofs.Ytocjolboglcamaa
