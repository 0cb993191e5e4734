/-
  laws.FnWrapKey: its walk.
-/
import Derived.Test.YthbdlghkfibbaaaWr7
import Derived.Test.YthbdlghkfibbaaaWr9
namespace Go.Proofs.Ythbdlghkfibbaaa
open Go.RowKit Go.Proofs.YthbdlghkfibbaaaW.PrintWords Go.Lib
set_option linter.unusedVariables false
set_option linter.unusedSimpArgs false
theorem take_len {xs : List UInt8} {n : Nat} (h : xs.length = n) : (xs.take (8 * (n / 8))).length = 8 * (n / 8) := by rw [List.length_take, h]; omega
set_option maxRecDepth 100000 in
set_option maxHeartbeats 2000000 in
theorem wrapKey_any (w : World) (s : UInt64) (A : Option Addr) (n c : Nat) (xs : List UInt8) (hn : n ≤ 140737488351232) (hnc : n ≤ c) (hC : kB.C w A n xs) :
    Calls Try.prog 3 #[hv s, .slice A n c] w fun e w' => e = .returned (.bool true) ∧ Below w.heap.size w w' := by
  by_cases hbig : 2147483647 < n
  · have hb1 : (2147483647 : Int) < (n : Int) := by omega
    clear hC
    unfold hv
    go_enter Try.func3, Try.ntmps3
    go_wp2
    go_ret
    exact ⟨rfl, Below.refl _ _⟩
  · have hb1 : ¬ (2147483647 : Int) < (n : Int) := by omega
    have HC := Aside0.mk hC
    have hyl := take_len hC.1
    obtain ⟨m, hm⟩ : ∃ m, m = n / 8 := ⟨_, rfl⟩
    have HW := Aside0.mk (whole_any w A n c xs (by omega) hnc hC)
    rw [← hm] at HW hyl
    obtain ⟨ys, hys⟩ : ∃ ys, ys = xs.take (8 * m) := ⟨_, rfl⟩
    rw [← hys] at HW hyl
    have HYl := Aside0.mk hyl
    clear hC hm hys hyl
    by_cases hb : 16 ≤ 8 * m ∧ 8 * m ≤ 400
    · rw [decide_eq_true hb] at HW
      unfold hv
      go_enter Try.func3, Try.ntmps3
      go_wp2_with fail
      refine HW.out.mono ?_
      rintro e w1 ⟨v1, rfl, hH⟩
      obtain ⟨A1, c1, rfl, hc1, hC1⟩ := hH.reads 0 rfl
      rw [HYl.out] at hC1 hc1 ⊢
      have H1 := Aside0.mk hH
      have HC1 := Aside0.mk (And.intro hC1 hc1)
      clear hH hC1 hc1 HW
      go_wp2_with fail
      refine (own_any _ A1 (8 * m) c1 ys (by omega) HC1.out.1).mono ?_
      rintro e w2 ⟨v2, rfl, hH⟩
      obtain ⟨A2, c2, rfl, hc2, hC2⟩ := hH.reads 0 rfl
      rw [HYl.out] at hC2 ⊢
      have H2 := Aside0.mk (H1.out.app hH)
      have HC2 := Aside0.mk hC2
      have HC1b := Aside0.mk (hH.C HC1.out.1)
      clear hH hC2 hc2
      go_wp2_with fail
      refine (wrapped_any _ s A2 (8 * m) c2 m ys rfl (by omega) HYl.out (by omega) HC2.out).mono ?_
      rintro e w3 ⟨v3, rfl, hH⟩
      obtain ⟨A3, c3, rfl, hc3, hC3⟩ := hH.reads 0 rfl
      have H3 := Aside0.mk (H2.out.app hH)
      have HC3 := Aside0.mk hC3
      have HC1c := Aside0.mk (hH.C HC1b.out)
      clear hH hC3 hc3
      go_wp2_with fail
      refine (skey_any _ s A1 (8 * m) c1 m ys rfl (by omega) HYl.out HC1.out.2 (by omega) HC1c.out).mono ?_
      rintro e w4 ⟨v4, rfl, hH⟩
      obtain ⟨A4, c4, rfl, hc4, hC4⟩ := hH.reads 0 rfl
      have H4 := Aside0.mk (H3.out.app hH)
      have HC4 := Aside0.mk hC4
      have HC3b := Aside0.mk (hH.C HC3.out)
      clear hH hC4 hc4
      go_wp2_with fail
      refine (same_any _ _ _ _ _ _ _ _ _ HC3b.out HC4.out).mono ?_
      rw [decide_eq_true (show wrapOut s ys = wrapOut s ys from rfl)]
      rintro e w5 ⟨rfl, k, rfl⟩
      have H5 := Aside0.mk (H4.out.drewN k)
      go_wp2_with fail
      refine (awake_any _).mono ?_
      rintro e w6 ⟨rfl, hH⟩
      have H6 := Aside0.mk (H5.out.app hH)
      clear hH
      go_wp2
      go_ret
      exact ⟨rfl, H6.out.below⟩
    · rw [decide_eq_false hb] at HW
      unfold hv
      go_enter Try.func3, Try.ntmps3
      go_wp2_with fail
      refine HW.out.mono ?_
      rintro e w1 ⟨v1, rfl, hH⟩
      have H1 := Aside0.mk hH
      clear hH HW
      go_wp2_with fail
      refine (awake_any _).mono ?_
      rintro e w6 ⟨rfl, hH⟩
      have H6 := Aside0.mk (H1.out.app hH)
      clear hH
      go_wp2
      go_ret
      exact ⟨rfl, H6.out.below⟩
theorem wf_u64 {n : Int} (h : (Lit.int .u64 n).wf = true) : ∃ s : UInt64, n = (s.toNat : Int) := by
  have h2 : 0 ≤ n ∧ n < 18446744073709551616 := by
    simp [Lit.wf, IntKind.min, IntKind.max, IntKind.bits, IntKind.signed] at h
    omega
  refine ⟨UInt64.ofNat n.toNat, ?_⟩
  rw [UInt64.toNat_ofNat_of_lt' (show n.toNat < 18446744073709551616 by omega)]
  omega
theorem wrapKey_row (a : Int) (A : Option Addr) (n c : Nat) (xs : List UInt8) (w : World) (ha : (Lit.int .u64 a).wf = true) (hC : kB.C w A n xs) (_ho : AllOk AnyOk xs) (hw : xs.length * 1 ≤ 140737488351232 ∧ n ≤ c) :
    Calls Try.prog 3 #[.int .u64 a, .slice A n c] w fun e w' => e = .returned (.bool true) ∧ Below w.heap.size w w' := by
  obtain ⟨s, rfl⟩ := wf_u64 ha
  exact wrapKey_any w s A n c xs (by have := hC.1; omega) hw.2 hC
end Go.Proofs.Ythbdlghkfibbaaa
