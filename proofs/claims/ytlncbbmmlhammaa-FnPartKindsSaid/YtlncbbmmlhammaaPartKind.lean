/-
  FnPartKind and FnPartKinds: their walks.
-/
import Derived.Test.YtlncbbmmlhammaaKindLaw
import Derived.Test.YtlncbbmmlhammaaAwake2
import Derived.LoopN
namespace Go.Proofs.Ytlncbbmmlhammaa
open Go.RowKit Go.Proofs.YtlncbbmmlhammaaW.PrintWords Go.Lib
open PFnPartKind (impl_Chosen.f spec_PartKind.f)
set_option linter.unusedVariables false
set_option linter.unusedSimpArgs false
set_option maxRecDepth 100000 in
set_option maxHeartbeats 4000000 in
theorem partKind_any (w : World) (a : ByteArray) :
    Calls Try.prog 10 #[.string a] w fun e w' => e = .returned (.bool true) ∧ Below w.heap.size w w' := by
  have H0 := Aside0.mk (Hold.start w)
  have HD := Aside0.mk kinds_dir
  obtain ⟨r, _, h1, h2⟩ := kinds_of a
  have HC := Aside0.mk h1
  have HS := Aside0.mk h2
  clear h1 h2
  by_cases hl : 2147483647 < a.size
  · go_enter Try.func10, Try.ntmps10
    go_wp2
    go_ret
    exact ⟨rfl, Below.refl _ _⟩
  · by_cases hs : 100 < a.size
    · go_enter Try.func10, Try.ntmps10
      go_wp2
      go_ret
      exact ⟨rfl, Below.refl _ _⟩
    · go_enter Try.func10, Try.ntmps10
      go_wp2_with fail
      refine (PFnPartKind.impl_Chosen.calls 10 a r _ HC.out).mono ?_
      rintro e w1 ⟨rfl, hM⟩
      have H1 := Aside0.mk (H0.out.of_below hM)
      clear hM
      go_wp2_with fail
      refine (PFnPartKind.spec_PartKind.calls 6 a r _ HS.out).mono ?_
      rintro e w2 ⟨rfl, hM⟩
      have H2 := Aside0.mk (H1.out.of_below hM.below)
      clear hM
      go_wp2_with fail
      refine (PFnPartKind.impl_Chosen.calls 10 _ _ _ HD.out.1).mono ?_
      rintro e w3 ⟨rfl, hM⟩
      have H3 := Aside0.mk (H2.out.of_below hM)
      clear hM
      go_wp2_with fail
      refine (PFnPartKind.spec_PartKind.calls 6 _ _ _ HD.out.2).mono ?_
      rintro e w4 ⟨rfl, hM⟩
      have H4 := Aside0.mk (H3.out.of_below hM.below)
      clear hM
      go_wp2_with fail
      refine (partAwake_any _).mono ?_
      rintro e w5 ⟨rfl, hM⟩
      have HZ := Aside0.mk (H4.out.of_below hM.below)
      clear hM
      go_wp2
      go_ret
      exact ⟨rfl, HZ.out.below⟩
theorem partKind_row (a : ByteArray) (w : World) (hw : a.size ≤ 140737488351232) : Calls Try.prog 10 #[.string a] w fun e w' => e = .returned (.bool true) ∧ Below w.heap.size w w' := partKind_any w a
set_option maxRecDepth 100000 in
set_option maxHeartbeats 8000000 in
theorem partKinds_any (w : World) (a : ByteArray) :
    Calls Try.prog 11 #[.string a] w fun e w' => e = .returned (.bool true) ∧ Below w.heap.size w w' := by
  have H0 := Aside0.mk (Hold.start w)
  have HD := Aside0.mk kinds_dir
  obtain ⟨r, hr, h1, h2⟩ := kinds_of a
  have HC := Aside0.mk h1
  clear h1 h2
  by_cases hl : 2147483647 < a.size
  · clear hr
    go_enter Try.func11, Try.ntmps11
    go_wp2
    go_ret
    exact ⟨rfl, Below.refl _ _⟩
  · by_cases hs : 100 < a.size
    · clear hr
      go_enter Try.func11, Try.ntmps11
      go_wp2_with fail
      refine (partAwake_any _).mono ?_
      rintro e w5 ⟨rfl, hM⟩
      have HZ := Aside0.mk (H0.out.of_below hM.below)
      clear hM
      go_wp2
      go_ret
      exact ⟨rfl, HZ.out.below⟩
    · simp only [kindNums, List.mem_cons, List.not_mem_nil, or_false] at hr
      rcases hr with rfl | rfl | rfl | rfl | rfl | rfl | rfl | rfl | rfl
      all_goals
      go_enter Try.func11, Try.ntmps11
      go_wp2_with fail
      refine (PFnPartKind.impl_Chosen.calls 10 a _ _ HC.out).mono ?_
      rintro e w1 ⟨rfl, hM⟩
      have H1 := Aside0.mk (H0.out.of_below hM)
      clear hM
      go_wp2
      refine wp_loop_rounds 10 ?_
      rw [rounds_succ]
      go_wp2
      rw [rounds_succ]
      go_wp2
      rw [rounds_succ]
      go_wp2
      rw [rounds_succ]
      go_wp2
      rw [rounds_succ]
      go_wp2
      rw [rounds_succ]
      go_wp2
      rw [rounds_succ]
      go_wp2
      rw [rounds_succ]
      go_wp2
      rw [rounds_succ]
      go_wp2
      rw [rounds_succ]
      go_wp2_with fail
      refine (PFnPartKind.impl_Chosen.calls 10 _ _ _ HD.out.1).mono ?_
      rintro e w3 ⟨rfl, hM⟩
      have H3 := Aside0.mk (H1.out.of_below hM)
      clear hM
      go_wp2_with fail
      refine (partAwake_any _).mono ?_
      rintro e w5 ⟨rfl, hM⟩
      have HZ := Aside0.mk (H3.out.of_below hM.below)
      clear hM
      go_wp2
      go_ret
      exact ⟨rfl, HZ.out.below⟩
theorem partKinds_row (a : ByteArray) (w : World) (hw : a.size ≤ 140737488351232) : Calls Try.prog 11 #[.string a] w fun e w' => e = .returned (.bool true) ∧ Below w.heap.size w w' := partKinds_any w a
end Go.Proofs.Ytlncbbmmlhammaa
