/-
  FnPartLengths: its walk.
-/
import Derived.Test.YtlncbbmmlhammaaDecoded
import Derived.Test.YtlncbbmmlhammaaAwake2
namespace Go.Proofs.Ytlncbbmmlhammaa
open Go.RowKit Go.Proofs.YtlncbbmmlhammaaW.PrintWords Go.Lib
set_option linter.unusedVariables false
set_option linter.unusedSimpArgs false
theorem lenAwake_any (w : World) (k : Int) (h : k < 0 ∨ 5000 < k) :
    Calls Try.prog 6 #[.int .i64 k] w fun e w' => e = .returned (.bool true) ∧ Below w.heap.size w w' := by
  have H0 := Aside0.mk (Hold.start w)
  rcases h with h | h
  · go_enter Try.func6, Try.ntmps6
    go_wp2_with fail
    refine (partAwake_any _).mono ?_
    rintro e w5 ⟨rfl, hM⟩
    have HZ := Aside0.mk (H0.out.of_below hM.below)
    clear hM
    go_wp2
    go_ret
    exact ⟨rfl, HZ.out.below⟩
  · have h2 : ¬ k < 0 := by omega
    have h3 : k > 5000 := h
    clear h
    go_enter Try.func6, Try.ntmps6
    go_wp2_with fail
    refine (partAwake_any _).mono ?_
    rintro e w5 ⟨rfl, hM⟩
    have HZ := Aside0.mk (H0.out.of_below hM.below)
    clear hM
    go_wp2
    go_ret
    exact ⟨rfl, HZ.out.below⟩
set_option maxRecDepth 100000 in
set_option maxHeartbeats 4000000 in
theorem partLen_any (w : World) (n : Nat) (hn : n ≤ 5000) :
    Calls Try.prog 6 #[.int .i64 (n : Int)] w fun e w' => e = .returned (.bool true) ∧ Below w.heap.size w w' := by
  have H0 := Aside0.mk (Hold.start w)
  obtain ⟨zs, hzs⟩ : ∃ zs, zs = b64 true (List.replicate n 0) := ⟨_, rfl⟩
  have hzl : zs.length = encLen n := by rw [hzs, b64_len, List.length_replicate]
  have hzl2 : zs.length ≤ 10000 := by rw [hzl]; unfold encLen; omega
  have HG := Aside0.mk (guess_raw (ts := zs) (by rw [hzs]; exact b64_isL true _))
  have HD : Aside0 (decAll true true zs = some (List.replicate n 0)) := ⟨by rw [hzs]; exact decAll_b64 true _⟩
  have HZs := Aside0.mk hzs
  have HE : Aside0 (encLen n = (8 * n + 5) / 6) := ⟨by unfold encLen; omega⟩
  clear hzs hzl
  go_enter Try.func6, Try.ntmps6
  go_upto_region 4 with ((with_reducible refine at_dst (N := 14) rfl ?_); refine Hold.make (enc := bV) (h1 := fun _ => rfl) H0.out 5 rfl rfl 22 (.tmp 13) (.tmp 13) rfl ((n : Int)) rfl rfl Try.underlying22 (0 : UInt8) 1 infoB rfl (by omega) (by omega) (by omega) ?_; intro v_ _ H1'; have H1 := Aside0.mk H1'; clear H1' H0)
  rw [Int.toNat_natCast] at H1
  have H2 : Hold w w.heap.size _ [.row kB 5 v_ (List.replicate n 0)] := H1.out
  obtain ⟨A2, c2, rfl, hc2, hC2⟩ := H2.reads 0 rfl
  have HC2 := Aside0.mk hC2
  clear H2 hC2
  rw [List.length_replicate] at HC2 hc2 ⊢
  go_wp2_with fail
  refine (encoded_any _ A2 n c2 _ (by omega) HC2.out).mono ?_
  rw [← HZs.out]
  rintro e w2 ⟨v2, rfl, hH⟩
  obtain ⟨A3, c3, rfl, hc3, hC3⟩ := hH.reads 0 rfl
  have H3 := Aside0.mk (H1.out.app hH)
  have HC3 := Aside0.mk hC3
  clear hH hC3 H1
  go_wp2_with fail
  refine (decoded_any _ true A3 _ c3 zs (by omega) HC3.out HG.out.1 HG.out.2).mono ?_
  rw [HD.out]
  rintro e w3 ⟨v3, rfl, hH⟩
  obtain ⟨A4, c4, rfl, hc4, _⟩ := hH.reads 0 rfl
  have H4 := Aside0.mk (H3.out.app hH)
  clear hH H3
  rw [List.length_replicate] at hc4 ⊢
  go_wp2_with fail
  refine (implEncLen_any _ n (by omega)).mono ?_
  rw [HE.out]
  rintro e w4 ⟨rfl, hH⟩
  have H5 := Aside0.mk (H4.out.app hH)
  clear hH H4
  go_wp2_with fail
  refine (partAwake_any _).mono ?_
  rintro e w5 ⟨rfl, hM⟩
  have HZ := Aside0.mk (H5.out.of_below hM.below)
  clear hM
  go_wp2
  go_ret
  exact ⟨rfl, HZ.out.below⟩
theorem partLen_row (k : Int) (w : World) (hk : (Lit.int .i64 k).wf = true) :
    Calls Try.prog 6 #[.int .i64 k] w fun e w' => e = .returned (.bool true) ∧ Below w.heap.size w w' := by
  by_cases h : 0 ≤ k ∧ k ≤ 5000
  · obtain ⟨n, rfl⟩ := Int.eq_ofNat_of_zero_le h.1
    exact partLen_any w n (by omega)
  · exact lenAwake_any w k (by omega)
end Go.Proofs.Ytlncbbmmlhammaa
