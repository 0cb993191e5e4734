/-
  FnPartCut: its walk.
-/
import Derived.Test.YtlncbbmmlhammaaDecoded
import Derived.Test.YtlncbbmmlhammaaAwake2
import Derived.Test.YtlncbbmmlhammaaArg
import Derived.Test.YtlncbbmmlhammaaOwn
namespace Go.Proofs.Ytlncbbmmlhammaa
open Go.RowKit Go.Proofs.YtlncbbmmlhammaaW.PrintWords Go.Lib
set_option linter.unusedVariables false
set_option linter.unusedSimpArgs false
theorem C_take' {w : World} {A : Option Addr} {n : Nat} {xs : List UInt8} (h : kB.C w A n xs) (k : Nat) (hk : k ≤ n) : kB.C w A k (xs.take k) := by
  obtain ⟨h1, h2, h3⟩ := h
  refine ⟨by rw [List.length_take]; omega, by omega, fun hn => ?_⟩
  obtain ⟨ad, e, hc⟩ := h3 (by omega)
  refine ⟨ad, e, fun j p hj => ?_⟩
  have hjk : j < k := by
    have := (List.getElem?_eq_some_iff.1 hj).1
    rw [List.length_take] at this
    omega
  rw [List.getElem?_take, if_pos hjk] at hj
  exact hc j p hj
set_option maxRecDepth 100000 in
set_option maxHeartbeats 4000000 in
theorem partCut_any (w : World) (A : Option Addr) (n c : Nat) (xs : List UInt8) (hnc : n ≤ c) (hC : kB.C w A n xs) :
    Calls Try.prog 3 #[.slice A n c] w fun e w' => e = .returned (.bool true) ∧ Below w.heap.size w w' := by
  obtain rfl := hC.1
  have hx : xs.length ≤ 9223372036854775807 := hC.2.1
  have HC := Aside0.mk hC
  by_cases hl : 2147483647 < xs.length
  · clear hC
    go_enter Try.func3, Try.ntmps3
    go_wp2
    go_ret
    exact ⟨rfl, Below.refl _ _⟩
  · have hl' : xs.length ≤ 2147483647 := by omega
    have hCS := CS_lit w 22 _ rfl [.slice A xs.length c] [xs] rfl (by simp) (fun j hj => by
      obtain rfl : j = 0 := by simp at hj; omega
      exact RdS.mk' hC hnc)
    have HCS := Aside0.mk hCS
    have H1 := Aside0.mk ((Hold.start w).alloc_ (.cells #[.slice A xs.length c] 22))
    clear hC hCS
    go_enter Try.func3, Try.ntmps3
    go_wp2_with fail
    refine (short_any _ _ _ _ [xs] HCS.out).mono ?_
    rintro e w1 ⟨rfl, rfl⟩
    cases hb : shortOk [xs] with
    | false =>
      clear hb
      go_wp2_with fail
      refine (partAwake_any _).mono ?_
      rintro e w2 ⟨rfl, hM⟩
      have HZ := Aside0.mk (H1.out.of_below hM.below)
      clear hM
      go_wp2
      go_ret
      exact ⟨rfl, HZ.out.below⟩
    | true =>
      have hlen : xs.length ≤ 2000 := by
        unfold shortOk at hb
        simpa using hb
      clear hb
      obtain ⟨ys, hys⟩ : ∃ ys, ys = xs.take (xs.length / 3 * 3) := ⟨_, rfl⟩
      have hyl : ys.length = 3 * (xs.length / 3) := by rw [hys, List.length_take]; omega
      have HY := Aside0.mk (C_take' (H1.out.C HC.out) (xs.length / 3 * 3) (by omega))
      rw [← hys] at HY
      have HN : Aside0 (decAll true true (b64 true ys ++ [65]) = none) := ⟨decAll_cut true 65 (xs.length / 3) ys hyl⟩
      have HG := Aside0.mk (guess_raw (ts := b64 true ys ++ [65]) (fun k hk => by
        rcases List.mem_append.1 hk with hk | hk
        · exact b64_isL true ys k hk
        · obtain rfl := List.mem_singleton.1 hk
          decide +kernel))
      have HL : Aside0 ((b64 true ys).length ≤ 10000) := ⟨by rw [b64_len, hyl]; unfold encLen; omega⟩
      clear hys hyl
      go_wp2_with fail
      refine (partOf_any _ A (xs.length / 3 * 3) c ys (by omega) (by omega) HY.out).mono ?_
      rintro e w2 ⟨v2, rfl, hH⟩
      have H2 := Aside0.mk (H1.out.app hH)
      have HL2 : Aside0 (((b64 true ys).length + 1) * 1 ≤ 140737488355328) := ⟨by have := HL.out; omega⟩
      clear hH H1
      go_wp2_with ((with_reducible refine at_bi (b := .append) (xs := #[.tmp 22, .tmp 23]) rfl ?_); at_builtin; refine Hold.append1 (kB) 0 H2.out rfl rfl (.tmp 22) (.tmp 23) 22 (.int .u8 0) 1 rfl Try.underlying22 info5 rfl (by decide) (by omega) (65) [.int .u8 65] rfl rfl rfl HL2.out ?_; intro _ _ H3'; have H3 := Aside0.mk H3'; clear H3' H2)
      have H4 : Hold w w.heap.size _ [.row kB 5 _ (b64 true ys ++ [65])] := H3.out
      obtain ⟨A4, c4, rfl, hc4, hC4⟩ := H4.reads 0 rfl
      have H5 := Aside0.mk H4
      have HC4 := Aside0.mk hC4
      have hl4 : (b64 true ys ++ [65]).length ≤ 1000000000 := by have := HL.out; simp; omega
      have HL4 := Aside0.mk hl4
      clear H4 hC4 H3 hc4 hl4
      go_wp2_with fail
      refine (decoded_any _ true A4 _ c4 _ HL4.out HC4.out HG.out.1 HG.out.2).mono ?_
      rw [HN.out]
      rintro e w3 ⟨rfl, hH⟩
      have H6 := Aside0.mk (H5.out.app hH)
      clear hH
      go_wp2_with fail
      refine (partAwake_any _).mono ?_
      rintro e w5 ⟨rfl, hM⟩
      have HZ := Aside0.mk (H6.out.of_below hM.below)
      clear hM
      go_wp2
      go_ret
      exact ⟨rfl, HZ.out.below⟩
theorem partCut_row (A : Option Addr) (n c : Nat) (xs : List UInt8) (w : World) (hC : kB.C w A n xs) (_ : AllOk AnyOk xs) (hn : xs.length * 1 ≤ 140737488351232 ∧ n ≤ c) :
    Calls Try.prog 3 #[.slice A n c] w fun e w' => e = .returned (.bool true) ∧ Below w.heap.size w w' := partCut_any w A n c xs hn.2 hC
end Go.Proofs.Ytlncbbmmlhammaa
