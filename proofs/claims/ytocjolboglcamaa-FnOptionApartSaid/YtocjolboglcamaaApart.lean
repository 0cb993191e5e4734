/-
  FnOptionApart: the walk of the law.
-/
import Derived.Test.YtocjolboglcamaaOpt
import Derived.Test.YtocjolboglcamaaB64
namespace Go.Proofs.Ytocjolboglcamaa
open Go.RowKit Go.Proofs.YtocjolboglcamaaW.PrintWords
set_option linter.unusedVariables false
set_option linter.unusedSimpArgs false
set_option maxHeartbeats 1000000 in
theorem apart_walk (s a X Y Z : Int) (w : World) (E1 : Aside0 (optSt 0 [(3, bits .andNot .u64 s a), (0, a), (1, a)] = X)) (E2 : Aside0 (optSt 0 [(3, s), (0, a)] = Y)) (E3 : Aside0 (optSt 0 [(3, bits .xor .u64 IntKind.u64.max s), (1, a)] = Z))
    (t1 : (X == bits .andNot .u64 s a) = true) (t2 : (Y == bits .xor .u64 IntKind.u64.max Z) = true) :
    Calls Try.prog 3 #[.int .u64 s, .int .u64 a] w fun e w' => e = .returned (.bool true) ∧ Below w.heap.size w w' := by
  go_enter Try.func3, Try.ntmps3
  go_wp2_with fail
  refine (last_any _ _ _ _ [(3, bits .andNot .u64 s a), (0, a), (1, a)] (by simp) (by simp) (kOpt_lit _ _ _ rfl [(3, bits .andNot .u64 s a), (0, a), (1, a)] (by simp))).mono ?_
  rintro e w1 ⟨rfl, hR⟩
  have H1 := Aside0.mk (((Hold.start w).alloc_ _).app hR)
  clear hR
  rw [E1.out]
  go_wp2_with fail
  refine (last_any _ _ _ _ [(3, s), (0, a)] (by simp) (by simp) (kOpt_lit _ _ _ rfl [(3, s), (0, a)] (by simp))).mono ?_
  rintro e w2 ⟨rfl, hR⟩
  have H2 := Aside0.mk ((H1.out.alloc_ _).app hR)
  clear hR
  rw [E2.out]
  go_wp2_with fail
  refine (last_any _ _ _ _ [(3, bits .xor .u64 IntKind.u64.max s), (1, a)] (by simp) (by simp) (kOpt_lit _ _ _ rfl [(3, bits .xor .u64 IntKind.u64.max s), (1, a)] (by simp))).mono ?_
  rintro e w3 ⟨rfl, hR⟩
  have H3 := Aside0.mk ((H2.out.alloc_ _).app hR)
  clear hR
  rw [E3.out]
  go_wp2_with fail
  refine (optAwake_any _).mono ?_
  rintro e w4 ⟨rfl, hR⟩
  have H4 := Aside0.mk (H3.out.app hR)
  clear hR
  go_wp2
  go_ret
  exact ⟨rfl, H4.out.below⟩
theorem apart_any (s a : Int) (w : World) (hs0 : 0 ≤ s) (hs1 : s < 18446744073709551616) (ha0 : 0 ≤ a) (ha1 : a < 18446744073709551616) :
    Calls Try.prog 3 #[.int .u64 s, .int .u64 a] w fun e w' => e = .returned (.bool true) ∧ Below w.heap.size w w' := by
  obtain ⟨s, rfl⟩ := b64_of hs0 hs1
  obtain ⟨a, rfl⟩ := b64_of ha0 ha1
  refine apart_walk _ _ ((s &&& ~~~a).toNat : Int) ((s ||| a).toNat : Int) ((~~~s &&& ~~~a).toNat : Int) w ⟨?_⟩ ⟨?_⟩ ⟨?_⟩ ?_ ?_
  · show bits .and .u64 (bits .or .u64 (bits .andNot .u64 s.toNat a.toNat) a.toNat) (bits .xor .u64 IntKind.u64.max a.toNat) = _
    rw [b64_andNot, b64_or, b64_not, b64_and, b64_apart1]
  · show bits .or .u64 s.toNat a.toNat = _
    rw [b64_or]
  · show bits .and .u64 (bits .xor .u64 IntKind.u64.max s.toNat) (bits .xor .u64 IntKind.u64.max a.toNat) = _
    rw [b64_not, b64_not, b64_and]
  · rw [b64_andNot]; exact beq_self_eq_true _
  · rw [b64_not, b64_apart2]; exact beq_self_eq_true _
theorem wf_u64 {n : Int} (h : (Lit.int .u64 n).wf = true) : 0 ≤ n ∧ n < 18446744073709551616 := by
  simp [Lit.wf, IntKind.min, IntKind.max, IntKind.bits, IntKind.signed] at h
  omega
theorem apart_row (s a : Int) (w : World) (hs : (Lit.int .u64 s).wf = true) (ha : (Lit.int .u64 a).wf = true) :
    Calls Try.prog 3 #[.int .u64 s, .int .u64 a] w fun e w' => e = .returned (.bool true) ∧ Below w.heap.size w w' :=
  apart_any s a w (wf_u64 hs).1 (wf_u64 hs).2 (wf_u64 ha).1 (wf_u64 ha).2
end Go.Proofs.Ytocjolboglcamaa
