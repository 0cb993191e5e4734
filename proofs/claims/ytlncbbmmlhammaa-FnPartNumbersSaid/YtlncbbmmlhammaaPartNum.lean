/-
  FnPartNumbers: its walk.
-/
import Derived.Test.YtlncbbmmlhammaaNumLaw
import Derived.Test.YtlncbbmmlhammaaAwake2
namespace Go.Proofs.Ytlncbbmmlhammaa
open Go.RowKit Go.Proofs.YtlncbbmmlhammaaW.PrintWords Go.Lib
set_option linter.unusedVariables false
set_option linter.unusedSimpArgs false
set_option maxHeartbeats 4000000 in
theorem partNum_any (w : World) (u v : Nat) (hu : u < 18446744073709551616) (hv : v < 18446744073709551616) :
    Calls Try.prog 8 #[.int .u64 (u : Int), .int .u64 (v : Int)] w fun e w' => e = .returned (.bool true) ∧ Below w.heap.size w w' := by
  have key : ∀ (a b : Nat), a < 18446744073709551616 → b < 18446744073709551616 → a ≤ b → ∃ s t : ByteArray, (∀ w, Calls Try.prog 24 #[.int .u64 (a : Int)] w fun e w' => e = .returned (.string s) ∧ Hold w w.heap.size w' []) ∧
      (∀ w, Calls Try.prog 24 #[.int .u64 (b : Int)] w fun e w' => e = .returned (.string t) ∧ Hold w w.heap.size w' []) ∧ (s.toList == t.toList) = ((a : Int) == (b : Int)) ∧ (s.size : Int) ≤ t.size := fun a b ha hb hab =>
    ⟨numTxt a, numTxt b, fun w => encodedNum_any w a ha, fun w => encodedNum_any w b hb, numTxt_eq ha hb, by have := numTxt_len ha hb hab; omega⟩
  have H0 := Aside0.mk (Hold.start w)
  by_cases h : v < u
  · obtain ⟨s, t, h1, h2, h3, h4⟩ := key v u hv hu (by omega)
    have h5 : (u : Int) > (v : Int) := by omega
    have HE1 := Aside0.mk h1
    have HE2 := Aside0.mk h2
    have HB : Aside0 (((s.toList == t.toList) == ((v : Int) == (u : Int))) = true) := ⟨by rw [h3]; simp⟩
    clear key h1 h2 h3 h hu hv
    obtain ⟨b1, hb1⟩ : ∃ b1, (s.toList == t.toList) = b1 := ⟨_, rfl⟩
    obtain ⟨b2, hb2⟩ : ∃ b2, ((v : Int) == (u : Int)) = b2 := ⟨_, rfl⟩
    rw [hb1, hb2] at HB
    have hbb : (b1 == b2) = true := HB.out
    go_enter Try.func8, Try.ntmps8
    go_wp2_with fail
    refine (HE1.out _).mono ?_
    rintro e w1 ⟨rfl, hH⟩
    have H1 := Aside0.mk (H0.out.app hH)
    clear hH
    go_wp2_with fail
    refine (HE2.out _).mono ?_
    rintro e w2 ⟨rfl, hH⟩
    have H2 := Aside0.mk (H1.out.app hH)
    clear hH
    go_wp2_with fail
    refine (partAwake_any _).mono ?_
    rintro e w5 ⟨rfl, hM⟩
    have HZ := Aside0.mk (H2.out.of_below hM.below)
    clear hM
    go_wp2
    go_ret
    exact ⟨rfl, HZ.out.below⟩
  · obtain ⟨s, t, h1, h2, h3, h4⟩ := key u v hu hv (by omega)
    have h5 : ¬ ((u : Int) > (v : Int)) := by omega
    have HE1 := Aside0.mk h1
    have HE2 := Aside0.mk h2
    have HB : Aside0 (((s.toList == t.toList) == ((u : Int) == (v : Int))) = true) := ⟨by rw [h3]; simp⟩
    clear key h1 h2 h3 h hu hv
    obtain ⟨b1, hb1⟩ : ∃ b1, (s.toList == t.toList) = b1 := ⟨_, rfl⟩
    obtain ⟨b2, hb2⟩ : ∃ b2, ((u : Int) == (v : Int)) = b2 := ⟨_, rfl⟩
    rw [hb1, hb2] at HB
    have hbb : (b1 == b2) = true := HB.out
    go_enter Try.func8, Try.ntmps8
    go_wp2_with fail
    refine (HE1.out _).mono ?_
    rintro e w1 ⟨rfl, hH⟩
    have H1 := Aside0.mk (H0.out.app hH)
    clear hH
    go_wp2_with fail
    refine (HE2.out _).mono ?_
    rintro e w2 ⟨rfl, hH⟩
    have H2 := Aside0.mk (H1.out.app hH)
    clear hH
    go_wp2_with fail
    refine (partAwake_any _).mono ?_
    rintro e w5 ⟨rfl, hM⟩
    have HZ := Aside0.mk (H2.out.of_below hM.below)
    clear hM
    go_wp2
    go_ret
    exact ⟨rfl, HZ.out.below⟩
theorem wf_u64 {n : Int} (h : WfI .u64 n) : 0 ≤ n ∧ n < 18446744073709551616 := by
  unfold WfI at h
  simp [Lit.wf, IntKind.min, IntKind.max, IntKind.bits, IntKind.signed] at h
  omega
theorem partNum_row (a b : Int) (w : World) (ha : (Lit.int .u64 a).wf = true) (hb : (Lit.int .u64 b).wf = true) :
    Calls Try.prog 8 #[.int .u64 a, .int .u64 b] w fun e w' => e = .returned (.bool true) ∧ Below w.heap.size w w' := by
  obtain ⟨h0, h1⟩ := wf_u64 ha
  obtain ⟨k0, k1⟩ := wf_u64 hb
  obtain ⟨u, rfl⟩ := Int.eq_ofNat_of_zero_le h0
  obtain ⟨v, rfl⟩ := Int.eq_ofNat_of_zero_le k0
  exact partNum_any w u v (by omega) (by omega)
end Go.Proofs.Ytlncbbmmlhammaa
