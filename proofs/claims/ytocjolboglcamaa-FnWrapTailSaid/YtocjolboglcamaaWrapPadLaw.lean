/-
  FnWrapPad: the walk of the law.
-/
import Derived.Test.YtocjolboglcamaaWrapPad
namespace Go.Proofs.Ytocjolboglcamaa
open Go.RowKit Go.Proofs.YtocjolboglcamaaW.PrintWords
set_option linter.unusedVariables false
set_option linter.unusedSimpArgs false
theorem short_one (xs : List UInt8) : shortOk [xs] = decide (xs.length ≤ 2000) := by simp [shortOk]
theorem wf_u8 {n : Int} (h : WfI .u8 n) : 0 ≤ n ∧ n < 256 := by
  unfold WfI at h
  simp [Lit.wf, IntKind.min, IntKind.max, IntKind.bits, IntKind.signed] at h
  omega
set_option maxRecDepth 100000 in
set_option maxHeartbeats 1000000 in
theorem wrapPad_any (w : World) (A : Option Addr) (n c : Nat) (xs : List UInt8) (k : Nat) (hk : k < 256) (hnc : n ≤ c) (hC : kB.C w A n xs) :
    Calls Try.prog 5 #[.slice A n c, .int .u8 (k : Int)] w fun e w' => e = .returned (.bool true) ∧ Below w.heap.size w w' := by
  obtain rfl := hC.1
  have hCS := CS_lit w 38 _ rfl [.slice A xs.length c] [xs] rfl (by simp) (fun j hj => by
    obtain rfl : j = 0 := by simp at hj; omega
    exact RdS.mk' hC hnc)
  have HC := Aside0.mk hC
  have HCS := Aside0.mk hCS
  clear hC hCS
  by_cases h1 : 2147483647 < xs.length
  · go_enter Try.func5, Try.ntmps5
    go_wp2
    go_ret
    exact ⟨rfl, Below.refl _ _⟩
  · have h1' : xs.length ≤ 2147483647 := by omega
    by_cases h2 : xs.length ≤ 2000 ∧ 0 < k
    · obtain ⟨h2, h3⟩ := h2
      have t0 : ((k : Int) == 0) = false := beq_eq_false_iff_ne.2 (by omega)
      have HS1 : Aside0 (shortOk [xs] = true) := ⟨by rw [short_one]; exact decide_eq_true h2⟩
      have hq := padN_pos xs.length k h3
      have hyl := padded_length xs k
      have hym := padded_mod xs k h3
      obtain ⟨m, hm⟩ : ∃ m, (padded xs k).length = m + 1 := ⟨(padded xs k).length - 1, by omega⟩
      have hpn : (UInt8.ofNat (padN xs.length k)).toNat = padN xs.length k := by rw [UInt8.toNat_ofNat', Nat.mod_eq_of_lt (by omega)]
      obtain ⟨x1, x2⟩ := ex_good xs (UInt8.ofNat (padN xs.length k)) (padN xs.length k) m hq.1 (by omega) hm
      have hpd : xs ++ List.replicate (padN xs.length k) (UInt8.ofNat (padN xs.length k)) = padded xs k := rfl
      rw [hpn, hpd] at x1
      rw [hpd] at x2
      have HX1 := Aside0.mk x1
      have HX2 := Aside0.mk x2
      have HM := Aside0.mk hm
      have HYL := Aside0.mk hyl
      have hyl2 : (padded xs k).length ≤ 4000 := by omega
      have t1 : (((xs.length : Int) + (padN xs.length k : Int)) % (k : Int) == 0) = true := by
        rw [hyl] at hym
        rw [beq_iff_eq, ← Int.natCast_add, ← Int.natCast_emod, hym]
        rfl
      clear hyl hym hm hpn x1 x2 hpd
      obtain ⟨ys, hys⟩ : ∃ ys, padded xs k = ys := ⟨_, rfl⟩
      rw [hys] at HX1 HX2 HM HYL hyl2
      have HYS := Aside0.mk hys
      clear hys
      generalize padN xs.length k = q at *
      go_enter Try.func5, Try.ntmps5
      go_wp2_with fail
      refine (short_any _ _ _ _ [xs] HCS.out).mono ?_
      rintro e w1 ⟨rfl, rfl⟩
      rw [HS1.out]
      have HL := Aside0.mk ((Hold.start w).alloc_ (.cells #[.slice A xs.length c] 38))
      go_wp2_with fail
      refine (own_any _ A _ c xs (by omega) (Kd.C_below HC.out HL.out.below)).mono ?_
      rintro e w1 ⟨v, rfl, hR⟩
      obtain ⟨A1, c1, rfl, _, q1⟩ := hR.reads 0 rfl
      have H1 := Aside0.mk (HL.out.app hR)
      have Q1 := Aside0.mk q1
      clear hR q1 HL
      go_wp2_with fail
      refine (Padded_any _ A1 _ c1 xs k (by omega) h3 (by omega) Q1.out).mono ?_
      rintro e w2 ⟨v, rfl, hR⟩
      rw [HYS.out] at hR
      obtain ⟨A2, c2, rfl, hc2, q2⟩ := hR.reads 0 rfl
      have H2 := Aside0.mk (H1.out.app hR)
      have Q2 := Aside0.mk q2
      clear hR q2 H1 Q1
      go_wp2_with fail
      refine (own_any _ A2 _ c2 ys (by omega) Q2.out).mono ?_
      rintro e w3 ⟨v, rfl, hR⟩
      obtain ⟨A3, c3, rfl, _, q3⟩ := hR.reads 0 rfl
      have H3 := Aside0.mk (H2.out.app hR)
      have Q3 := Aside0.mk q3
      have Q2 := Aside0.mk (Kd.C_below Q2.out hR.below)
      clear hR q3 H2
      go_wp2_with fail
      refine (Unpadded_any _ A3 _ c3 ys m HM.out (by omega) Q3.out).mono ?_
      rintro e w4 ⟨rfl, hR⟩
      have H4 := Aside0.mk (H3.out.app hR)
      have Q2 := Aside0.mk (Kd.C_below Q2.out hR.below)
      clear hR H3 Q3
      rw [HX1.out, HX2.out]
      go_wp2_with fail
      refine (WPad_any _ A _ c xs k (by omega) h3 (by omega) (Kd.C_below HC.out H4.out.below)).mono ?_
      rintro e w5 ⟨v, rfl, hR⟩
      rw [HYS.out] at hR
      obtain ⟨A5, c5, rfl, _, q5⟩ := hR.reads 0 rfl
      have H5 := Aside0.mk (H4.out.app hR)
      have Q5 := Aside0.mk q5
      have Q2 := Aside0.mk (Kd.C_below Q2.out hR.below)
      clear hR q5 H4
      go_wp2_with fail
      refine (same_any _ A2 A5 _ _ _ _ ys ys Q2.out Q5.out).mono ?_
      rintro e w6 ⟨rfl, j, rfl⟩
      rw [decide_eq_true rfl]
      have HB := Aside0.mk (H5.out.pick [] (by decide) (L' := []) rfl)
      clear H5 Q5 Q2
      have hyl := HYL.out
      have t2 : (ys.length : Int) - (xs.length : Int) = (q : Int) := by omega
      have t3 : ((ys.length : Int) % (k : Int) == 0) = true := by rw [hyl]; exact t1
      clear hyl t1 hq
      go_wp2_with fail
      refine (padAwake_any _).mono ?_
      rintro e w7 ⟨rfl, hR⟩
      have HE := Aside0.mk ((HB.out.drewN j).app hR).below
      clear hR HB
      go_wp2
      go_ret
      exact ⟨rfl, HE.out⟩
    · have HS1 : Aside0 (shortOk [xs] = decide (xs.length ≤ 2000)) := ⟨short_one xs⟩
      by_cases h3 : xs.length ≤ 2000
      · obtain rfl : k = 0 := by omega
        have HS2 : Aside0 (shortOk [xs] = true) := ⟨by rw [HS1.out, decide_eq_true h3]⟩
        clear h2 HS1
        go_enter Try.func5, Try.ntmps5
        go_wp2_with fail
        refine (short_any _ _ _ _ [xs] HCS.out).mono ?_
        rintro e w1 ⟨rfl, rfl⟩
        rw [HS2.out]
        have HL := Aside0.mk ((Hold.start w).alloc_ (.cells #[.slice A xs.length c] 38))
        go_wp2_with fail
        refine (padAwake_any _).mono ?_
        rintro e w7 ⟨rfl, hR⟩
        have HE := Aside0.mk (HL.out.app hR).below
        clear hR HL
        go_wp2
        go_ret
        exact ⟨rfl, HE.out⟩
      · have HS2 : Aside0 (shortOk [xs] = false) := ⟨by rw [HS1.out, decide_eq_false h3]⟩
        clear h2 HS1
        go_enter Try.func5, Try.ntmps5
        go_wp2_with fail
        refine (short_any _ _ _ _ [xs] HCS.out).mono ?_
        rintro e w1 ⟨rfl, rfl⟩
        rw [HS2.out]
        have HL := Aside0.mk ((Hold.start w).alloc_ (.cells #[.slice A xs.length c] 38))
        go_wp2_with fail
        refine (padAwake_any _).mono ?_
        rintro e w7 ⟨rfl, hR⟩
        have HE := Aside0.mk (HL.out.app hR).below
        clear hR HL
        go_wp2
        go_ret
        exact ⟨rfl, HE.out⟩
theorem wrapPad_row (A : Option Addr) (n c : Nat) (xs : List UInt8) (k : Int) (w : World) (hC : kB.C w A n xs) (_ : AllOk AnyOk xs) (hn : xs.length * 1 ≤ 140737488351232 ∧ n ≤ c) (hk : (Lit.int .u8 k).wf = true) :
    Calls Try.prog 5 #[.slice A n c, .int .u8 k] w fun e w' => e = .returned (.bool true) ∧ Below w.heap.size w w' := by
  obtain ⟨h0, h1⟩ := wf_u8 hk
  obtain ⟨m, rfl⟩ := Int.eq_ofNat_of_zero_le h0
  exact wrapPad_any w A n c xs m (by omega) hn.2 hC
theorem opens_byte : Opens Try.prog 5 kB AnyOk := Opens.byte Try.underlying5
end Go.Proofs.Ytocjolboglcamaa
