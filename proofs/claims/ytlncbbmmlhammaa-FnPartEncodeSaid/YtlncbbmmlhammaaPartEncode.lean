/-
  FnPartEncode: its walk.
-/
import Derived.Test.YtlncbbmmlhammaaBehind
import Derived.Test.YtlncbbmmlhammaaAwake2
import Derived.Test.YtlncbbmmlhammaaArg
namespace Go.Proofs.Ytlncbbmmlhammaa
open Go.RowKit Go.Proofs.YtlncbbmmlhammaaW.PrintWords Go.Lib
set_option linter.unusedVariables false
set_option linter.unusedSimpArgs false
set_option maxRecDepth 100000 in
set_option maxHeartbeats 4000000 in
theorem partEncode_any (w : World) (A : Option Addr) (n c : Nat) (xs : List UInt8) (D : Option Addr) (m d : Nat) (ys : List UInt8) (hnc : n ≤ c) (hmd : m ≤ d) (hC1 : kB.C w A n xs) (hC2 : kB.C w D m ys) :
    Calls Try.prog 7 #[.slice A n c, .slice D m d] w fun e w' => e = .returned (.bool true) ∧ Below w.heap.size w w' := by
  obtain rfl := hC1.1
  obtain rfl := hC2.1
  have hx : xs.length ≤ 9223372036854775807 := hC1.2.1
  have hy : ys.length ≤ 9223372036854775807 := hC2.2.1
  have HC1 := Aside0.mk hC1
  have HC2 := Aside0.mk hC2
  by_cases hl : 2147483647 < xs.length
  · clear hC1 hC2
    go_enter Try.func7, Try.ntmps7
    go_wp2
    go_ret
    exact ⟨rfl, Below.refl _ _⟩
  · by_cases hl2 : 2147483647 < ys.length
    · clear hC1 hC2
      go_enter Try.func7, Try.ntmps7
      go_wp2
      go_ret
      exact ⟨rfl, Below.refl _ _⟩
    · have hCS := CS_lit w 22 _ rfl [.slice A xs.length c, .slice D ys.length d] [xs, ys] rfl (by simp) (fun j hj => by
        match j, hj with
        | 0, _ => exact RdS.mk' hC1 hnc
        | 1, _ => exact RdS.mk' hC2 hmd)
      have HCS := Aside0.mk hCS
      have H1 := Aside0.mk ((Hold.start w).alloc_ (.cells #[.slice A xs.length c, .slice D ys.length d] 22))
      clear hC1 hC2 hCS
      go_enter Try.func7, Try.ntmps7
      go_wp2_with fail
      refine (short_any _ _ _ _ [xs, ys] HCS.out).mono ?_
      rintro e w1 ⟨rfl, rfl⟩
      cases hb : shortOk [xs, ys] with
      | false =>
        clear hb
        go_wp2_with fail
        refine (partAwake_any _).mono ?_
        rintro e w2 ⟨rfl, hM⟩
        have HZ := Aside0.mk (H1.out.of_below hM.below)
        clear hM
        go_wp2
        go_ret
        exact ⟨rfl, HZ.out.below⟩
      | true =>
        have hlen : xs.length ≤ 2000 ∧ ys.length ≤ 2000 := by
          unfold shortOk at hb
          simpa using hb
        obtain ⟨hlx, hly⟩ := hlen
        clear hb
        have HlX : Aside0 (xs.length ≤ 2000) := ⟨hlx⟩
        have HlY : Aside0 (ys.length ≤ 2000) := ⟨hly⟩
        go_wp2_with fail
        refine (partOf_any _ D _ d ys (by omega) hmd (H1.out.C HC2.out)).mono ?_
        rintro e w2 ⟨v2, rfl, hH⟩
        obtain ⟨A2, c2, rfl, hc2, _⟩ := hH.reads 0 rfl
        have H2 := Aside0.mk (H1.out.app hH)
        clear hH H1
        go_wp2_with fail
        refine (own_any _ A _ c xs (by omega) (H2.out.C HC1.out)).mono ?_
        rintro e w3 ⟨v3, rfl, hH⟩
        obtain ⟨A3, c3, rfl, hc3, _⟩ := hH.reads 0 rfl
        have H3 := Aside0.mk (H2.out.app hH)
        clear hH H2
        go_wp2_with fail
        refine (own_any _ D _ d ys (by omega) (H3.out.C HC2.out)).mono ?_
        rintro e w4 ⟨v4, rfl, hH⟩
        obtain ⟨A4, c4, rfl, hc4, _⟩ := hH.reads 0 rfl
        have H4 := Aside0.mk (H3.out.app hH)
        clear hH H3
        go_wp2_with fail
        obtain ⟨zs, hzs⟩ : ∃ zs, zs = xs ++ b64 true ys := ⟨_, rfl⟩
        have HZS := Aside0.mk hzs
        clear hzs
        refine (behind_any _ A3 A4 _ c3 _ c4 xs ys (by omega) (by omega) (H4.out.Cat 1 rfl) (H4.out.Cat 0 rfl)).mono ?_
        rw [← HZS.out]
        rintro e w5 ⟨v5, rfl, hH⟩
        obtain ⟨A5, c5, rfl, hc5, _⟩ := hH.reads 0 rfl
        have H5 := Aside0.mk ((H4.out.app hH).pick [0, 3] (by decide) (L' := [.row kB 5 (.slice A5 zs.length c5) zs, .row kB 5 (.slice A2 (b64 true ys).length c2) (b64 true ys)]) rfl)
        clear hH H4
        go_wp2_with fail
        obtain ⟨s, hs⟩ : ∃ s, s = bStr (b64 true ys) := ⟨_, rfl⟩
        have HS := Aside0.mk hs
        have HL : Aside0 ((xs.length + (b64 true ys).length) * 1 ≤ 140737488355328) := ⟨by rw [b64_len]; unfold encLen; omega⟩
        have HR := Aside0.mk H5.out.drew
        clear hs H5 HCS
        go_region_law (first
          | ((with_reducible refine stepAppend (.tmp 44) (.tmp 45) 22 rfl ?_); refine Hold.appendStep 0 HR.out rfl (by rfl) (.tmp 44) (.tmp 45) 22 (.int .u8 0) 1 rfl Try.underlying22 infoB rfl (by decide) A2 _ c2 rfl rfl (HR.out.Cat 2 rfl) HL.out ?_; intro v8 w8 HD; rw [← HZS.out] at HD; obtain ⟨A8, c8, rfl, hc8, _⟩ := HD.reads 0 rfl; replace HR := Aside0.mk HD; clear HD)
          | (go_simp; first
            | (go_at_call 22; (have q1 := HR.out.C HC2.out; with_reducible refine (own_any _ D _ d ys (by omega) q1).mono ?_; clear q1); rintro e w6 ⟨v6, rfl, hH⟩; obtain ⟨A6, c6, rfl, hc6, _⟩ := hH.reads 0 rfl; replace HR := Aside0.mk (HR.out.app hH); clear hH; have gk := kB_string (P := Try.prog) c2 Try.underlying22 Try.underlying5 Try.underlying9 (HR.out.Cat 2 rfl); rw [← HS.out] at gk)
            | (go_at_call 22; (have q1 := HR.out.C HC1.out; with_reducible refine (own_any _ A _ c xs (by omega) q1).mono ?_; clear q1); rintro e w6 ⟨v6, rfl, hH⟩; obtain ⟨A6, c6, rfl, hc6, _⟩ := hH.reads 0 rfl; replace HR := Aside0.mk (HR.out.app hH); clear hH)
            | (go_at_call 19; refine (encoded_any _ A6 _ c6 ys (by omega) (HR.out.Cat 0 rfl)).mono ?_; rintro e w6 ⟨v7, rfl, hH⟩; obtain ⟨A7, c7, rfl, hc7, _⟩ := hH.reads 0 rfl; replace HR := Aside0.mk ((HR.out.app hH).swap.tail); clear hH)
            | (go_at_call 16; have q1 := HR.out.Cat 0 rfl; have q2 := HR.out.Cat 2 rfl; with_reducible refine (same_any _ _ _ _ _ _ _ _ _ q1 q2).mono ?_; clear q1 q2; rintro e w6 ⟨rfl, k, rfl⟩; rw [decide_eq_true rfl]; replace HR := Aside0.mk ((HR.out.tail).drewN k); have gk := kB_string (P := Try.prog) c2 Try.underlying22 Try.underlying5 Try.underlying9 (HR.out.Cat 1 rfl); rw [← HS.out] at gk)
            | (go_at_call 16; have q1 := HR.out.Cat 1 rfl; have q2 := HR.out.Cat 0 rfl; with_reducible refine (same_any _ _ _ _ _ _ _ _ _ q1 q2).mono ?_; clear q1 q2; rintro e w6 ⟨rfl, k, rfl⟩; rw [decide_eq_true rfl]; replace HR := Aside0.mk ((HR.out.tail).drewN k))
            | (go_at_call 23; refine (encodedText_any _ A6 _ c6 ys (by omega) (HR.out.Cat 0 rfl)).mono ?_; rw [← HS.out]; rintro e w6 ⟨rfl, hH⟩; replace HR := Aside0.mk (Hold.tail (HR.out.app hH)); clear hH; have gk := kB_string (P := Try.prog) c2 Try.underlying22 Try.underlying5 Try.underlying9 (HR.out.Cat 1 rfl); rw [← HS.out] at gk)
            | (go_at_call 20; refine (implEncLen_any _ ys.length (by omega)).mono ?_; rw [← b64_len true ys]; rintro e w6 ⟨rfl, hH⟩; replace HR := Aside0.mk (HR.out.of_below hH.below); clear hH)
            | (go_at_call 13; refine (partAwake_any _).mono ?_; rintro e w6 ⟨rfl, hH⟩; replace HR := Aside0.mk (HR.out.of_below hH.below); clear hH)))
        all_goals
        go_wp2
        go_ret
        exact ⟨rfl, HR.out.below⟩
theorem partEncode_row (A : Option Addr) (n c : Nat) (xs : List UInt8) (D : Option Addr) (m d : Nat) (ys : List UInt8) (w : World) (hC : kB.C w A n xs) (_ : AllOk AnyOk xs) (hn : xs.length * 1 ≤ 140737488351232 ∧ n ≤ c) (hD : kB.C w D m ys) (_ : AllOk AnyOk ys) (hm : ys.length * 1 ≤ 140737488351232 ∧ m ≤ d) :
    Calls Try.prog 7 #[.slice A n c, .slice D m d] w fun e w' => e = .returned (.bool true) ∧ Below w.heap.size w w' := partEncode_any w A n c xs D m d ys hn.2 hm.2 hC hD
end Go.Proofs.Ytlncbbmmlhammaa
