/-
  laws.FnWrapTurned: its walk.
-/
import Derived.Test.YthbdlghkfibbaaaWrKey
import Derived.Test.YthbdlghkfibbaaaWr10
namespace Go.Proofs.Ythbdlghkfibbaaa
open Go.RowKit Go.Proofs.YthbdlghkfibbaaaW.PrintWords Go.Lib
set_option linter.unusedVariables false
set_option linter.unusedSimpArgs false
/-- A store of a byte into a row of one's own. -/
theorem xor8V (a b : UInt8) : bits .xor .u8 (a.toNat : Int) (b.toNat : Int) = ((a ^^^ b).toNat : Int) := xor8U a b
set_option maxRecDepth 100000 in
set_option maxHeartbeats 4000000 in
theorem wrapTurn_any (w : World) (s o : UInt64) (A : Option Addr) (n c : Nat) (xs : List UInt8) (at_ : Nat) (bt_ : UInt8) (hat : at_ < 65536) (hn : n ≤ 140737488351232) (hnc : n ≤ c) (hC : kB.C w A n xs) :
    Calls Try.prog 5 #[hv s, hv o, .slice A n c, .int .u16 (at_ : Int), .int .u8 (bt_.toNat : Int)] w fun e w' => e = .returned (.bool true) ∧ Below w.heap.size w w' := by
  by_cases hbig : 2147483647 < n
  · have hb1 : (2147483647 : Int) < (n : Int) := by omega
    clear hC
    unfold hv
    go_enter Try.func5, Try.ntmps5
    go_wp2
    go_ret
    exact ⟨rfl, Below.refl _ _⟩
  · have hb1 : ¬ (2147483647 : Int) < (n : Int) := by omega
    have HC := Aside0.mk hC
    have hyl := take_len hC.1
    obtain ⟨m, hm⟩ : ∃ m, m = n / 8 := ⟨_, rfl⟩
    have HW := Aside0.mk (whole_any w A n c xs (by omega) hnc hC)
    rw [← hm] at HW hyl
    obtain ⟨ys, hys⟩ : ∃ ys, ys = xs.take (8 * m) := ⟨_, rfl⟩
    rw [← hys] at HW hyl
    have HYl := Aside0.mk hyl
    clear hC hm hys hyl
    by_cases hb : 16 ≤ 8 * m ∧ 8 * m ≤ 400
    · rw [decide_eq_true hb] at HW
      by_cases hz : bt_ = 0 ∧ o = s
      · obtain ⟨rfl, rfl⟩ := hz
        unfold hv
        go_enter Try.func5, Try.ntmps5
        go_wp2_with fail
        refine HW.out.mono ?_
        rintro e w1 ⟨v1, rfl, hH⟩
        have H1 := Aside0.mk hH
        clear hH HW
        go_wp2_with fail
        refine (awake_any _).mono ?_
        rintro e w6 ⟨rfl, hH⟩
        have H6 := Aside0.mk (H1.out.app hH)
        clear hH
        go_wp2
        go_ret
        exact ⟨rfl, H6.out.below⟩
      · by_cases h0 : bt_ = 0
        · have hos : ((o.toNat : Int) == (s.toNat : Int)) = false := by
            rw [beq_eq_false_iff_ne]
            intro h
            exact hz ⟨h0, UInt64.toNat_inj.1 (by omega)⟩
          clear hz
          subst h0
          unfold hv
          go_enter Try.func5, Try.ntmps5
          go_wp2_with fail
          refine HW.out.mono ?_
          rintro e w1 ⟨v1, rfl, hH⟩
          obtain ⟨A1, c1, rfl, hc1, hC1⟩ := hH.reads 0 rfl
          rw [HYl.out] at hC1 hc1 ⊢
          have H1 := Aside0.mk hH
          have HC1 := Aside0.mk (And.intro hC1 hc1)
          clear hH hC1 hc1 HW
          go_wp2_with fail
          refine (skey_any _ s A1 (8 * m) c1 m ys rfl (by omega) HYl.out HC1.out.2 (by omega) HC1.out.1).mono ?_
          rintro e w2 ⟨v2, rfl, hH⟩
          obtain ⟨zs, hzs⟩ : ∃ zs, zs = wrapOut s ys := ⟨_, rfl⟩
          have hzl : zs.length = 8 * (m + 1) := by rw [hzs]; exact wrapOut_len s ys m HYl.out
          obtain ⟨N, hN⟩ : ∃ N, N = 8 * (m + 1) := ⟨_, rfl⟩
          rw [← hN] at hzl
          rw [← hzs] at hH
          obtain ⟨g, c2, rfl, hc2, hg, hgB, hfz⟩ := hH.form 0 rfl (by rw [hzl]; omega)
          rw [hzl] at hH hc2 ⊢
          obtain ⟨j, hj⟩ : ∃ j, j = at_ % N := ⟨_, rfl⟩
          have hjN : j < N := by rw [hj]; exact Nat.mod_lt _ (by omega)
          have hrem : (at_ : Int).tmod (N : Int) = (j : Int) := by rw [hj]; rfl
          have hN0 : ¬ (N = 0) := by omega
          obtain ⟨e0, he0⟩ : ∃ e0, e0 = zs[j]'(by rw [hzl]; exact hjN) := ⟨_, rfl⟩
          have e1 := hH.at1 0 rfl j (by rw [hzl]; exact hjN)
          rw [← he0] at e1
          change _ = some (Value.int .u8 (e0.toNat : Int)) at e1
          have f1 := hfz j
          obtain ⟨z, hz'⟩ : ∃ z, z = e0 ^^^ 0 := ⟨_, rfl⟩
          have s1 : bits .xor .u8 (e0.toNat : Int) 0 = (z.toNat : Int) := by rw [hz']; exact xor8U e0 0
          have hS := (H1.out.app hH).setCell1 0 rfl j hjN z
          have HS := Aside0.mk hS
          obtain ⟨us, hus⟩ : ∃ us, us = zs.set j z := ⟨_, rfl⟩
          have hul : us.length = N := by rw [hus, List.length_set]; exact hzl
          change Aside0 (Hold w w.heap.size _ [.row kB 5 (.slice (some ⟨g, 0, none⟩) N c2) (zs.set j z), _]) at HS
          rw [← hus] at HS
          obtain ⟨A3, c3, hs3, hc3, hC3⟩ := HS.out.reads 0 rfl
          rw [hul] at hs3 hC3
          injection hs3 with hA3 _ hc3'
          subst hA3
          have HC3 := Aside0.mk hC3
          have HN := Aside0.mk hN
          have HU := Aside0.mk hul
          have hN4 : N ≤ 408 := by omega
          have hNc : N ≤ c2 := hc2
          clear hH hzs hzl hN hfz hj he0 hz' hS hus hul hc3 hC3 hc3' HC1 hbig
          go_wp2_with fail
          refine (own_any _ _ N c2 us (by omega) HC3.out).mono ?_
          rintro e w3 ⟨v3, rfl, hH⟩
          obtain ⟨A4, c4, rfl, hc4, hC4⟩ := hH.reads 0 rfl
          rw [HU.out] at hC4 ⊢
          have H3 := Aside0.mk (HS.out.app hH)
          have HC4 := Aside0.mk hC4
          have HC3b := Aside0.mk (hH.C HC3.out)
          clear hH hC4 hc4
          go_wp2_with fail
          refine (unwrapped_any _ o A4 N c4 m us HN.out (by omega) HU.out (by omega) HC4.out).mono ?_
          obtain ⟨b, hb'⟩ : ∃ b, b = decide ((openSt o us).1 = ivU) := ⟨_, rfl⟩
          obtain ⟨qs, hqs⟩ : ∃ qs, qs = if (openSt o us).1 = ivU then openOut o us else [] := ⟨_, rfl⟩
          rw [← hb', ← hqs]
          rintro e w4 ⟨v4, rfl, hH⟩
          obtain ⟨A5, c5, rfl, hc5, hC5⟩ := hH.reads 0 rfl
          have H4 := Aside0.mk (H3.out.app hH)
          have HC5 := Aside0.mk hC5
          have HC3c := Aside0.mk (hH.C HC3b.out)
          have HB := Aside0.mk hb'
          have HQs := Aside0.mk hqs
          clear hH hC5 hc5 hb' hqs
          go_wp2_with fail
          refine (sopen_any _ o _ N c2 m us HN.out (by omega) HU.out hNc (by omega) HC3c.out).mono ?_
          rw [← HB.out]
          rintro e w5 ⟨g6, c6, rfl, hH⟩
          have H5 := Aside0.mk (H4.out.app hH)
          have HC5b := Aside0.mk (hH.C HC5.out)
          obtain ⟨A7, c7, hs7, _, hC7⟩ := hH.reads 0 rfl
          injection hs7 with hA7 hl7 _
          subst hA7
          have hC8 := C_dropA hC7 8 (by rw [List.length_append, beB_len]; omega)
          rw [List.drop_left' (beB_len _), List.length_append, beB_len, Nat.add_sub_cancel_left] at hC8
          have HC8 := Aside0.mk hC8
          have HOl : Aside0 ((openOut o us).length = 8 * m) := ⟨openOut_len o us m (by rw [HU.out, HN.out])⟩
          clear hH hl7 hC7 hC8
          by_cases hbt : b = true
          · subst hbt
            have hiv := of_decide_eq_true HB.out.symm
            have hqs := HQs.out
            rw [if_pos hiv] at hqs
            clear HQs
            subst hqs
            rw [HOl.out] at HC5b HC8 ⊢
            clear hiv
            go_wp2_with fail
            refine (same_any _ _ _ _ _ _ _ _ _ HC5b.out HC8.out).mono ?_
            rw [decide_eq_true (show openOut o us = openOut o us from rfl)]
            rintro e w6 ⟨rfl, k, rfl⟩
            have H6 := Aside0.mk (H5.out.drewN k)
            go_wp2_with fail
            refine (awake_any _).mono ?_
            rintro e w7 ⟨rfl, hH⟩
            have H7 := Aside0.mk (H6.out.app hH)
            clear hH
            go_wp2
            go_ret
            exact ⟨rfl, H7.out.below⟩
          · have hbf : b = false := by simpa using hbt
            subst hbf
            clear hbt
            go_wp2_with fail
            refine (awake_any _).mono ?_
            rintro e w7 ⟨rfl, hH⟩
            have H7 := Aside0.mk (H5.out.app hH)
            clear hH
            go_wp2
            go_ret
            exact ⟨rfl, H7.out.below⟩
        · have hb0 : ((bt_.toNat : Int) == 0) = false := by
            rw [beq_eq_false_iff_ne]
            intro h
            exact h0 (UInt8.toNat_inj.1 (show bt_.toNat = 0 by omega))
          clear hz h0
          unfold hv
          go_enter Try.func5, Try.ntmps5
          go_wp2_with fail
          refine HW.out.mono ?_
          rintro e w1 ⟨v1, rfl, hH⟩
          obtain ⟨A1, c1, rfl, hc1, hC1⟩ := hH.reads 0 rfl
          rw [HYl.out] at hC1 hc1 ⊢
          have H1 := Aside0.mk hH
          have HC1 := Aside0.mk (And.intro hC1 hc1)
          clear hH hC1 hc1 HW
          go_wp2_with fail
          refine (skey_any _ s A1 (8 * m) c1 m ys rfl (by omega) HYl.out HC1.out.2 (by omega) HC1.out.1).mono ?_
          rintro e w2 ⟨v2, rfl, hH⟩
          obtain ⟨zs, hzs⟩ : ∃ zs, zs = wrapOut s ys := ⟨_, rfl⟩
          have hzl : zs.length = 8 * (m + 1) := by rw [hzs]; exact wrapOut_len s ys m HYl.out
          obtain ⟨N, hN⟩ : ∃ N, N = 8 * (m + 1) := ⟨_, rfl⟩
          rw [← hN] at hzl
          rw [← hzs] at hH
          obtain ⟨g, c2, rfl, hc2, hg, hgB, hfz⟩ := hH.form 0 rfl (by rw [hzl]; omega)
          rw [hzl] at hH hc2 ⊢
          obtain ⟨j, hj⟩ : ∃ j, j = at_ % N := ⟨_, rfl⟩
          have hjN : j < N := by rw [hj]; exact Nat.mod_lt _ (by omega)
          have hrem : (at_ : Int).tmod (N : Int) = (j : Int) := by rw [hj]; rfl
          have hN0 : ¬ (N = 0) := by omega
          obtain ⟨e0, he0⟩ : ∃ e0, e0 = zs[j]'(by rw [hzl]; exact hjN) := ⟨_, rfl⟩
          have e1 := hH.at1 0 rfl j (by rw [hzl]; exact hjN)
          rw [← he0] at e1
          change _ = some (Value.int .u8 (e0.toNat : Int)) at e1
          have f1 := hfz j
          obtain ⟨z, hz'⟩ : ∃ z, z = e0 ^^^ bt_ := ⟨_, rfl⟩
          have s1 : bits .xor .u8 (e0.toNat : Int) (bt_.toNat : Int) = (z.toNat : Int) := by rw [hz']; exact xor8U e0 bt_
          have hS := (H1.out.app hH).setCell1 0 rfl j hjN z
          have HS := Aside0.mk hS
          obtain ⟨us, hus⟩ : ∃ us, us = zs.set j z := ⟨_, rfl⟩
          have hul : us.length = N := by rw [hus, List.length_set]; exact hzl
          change Aside0 (Hold w w.heap.size _ [.row kB 5 (.slice (some ⟨g, 0, none⟩) N c2) (zs.set j z), _]) at HS
          rw [← hus] at HS
          obtain ⟨A3, c3, hs3, hc3, hC3⟩ := HS.out.reads 0 rfl
          rw [hul] at hs3 hC3
          injection hs3 with hA3 _ hc3'
          subst hA3
          have HC3 := Aside0.mk hC3
          have HN := Aside0.mk hN
          have HU := Aside0.mk hul
          have hN4 : N ≤ 408 := by omega
          have hNc : N ≤ c2 := hc2
          clear hH hzs hzl hN hfz hj he0 hz' hS hus hul hc3 hC3 hc3' HC1 hbig
          go_wp2_with fail
          refine (own_any _ _ N c2 us (by omega) HC3.out).mono ?_
          rintro e w3 ⟨v3, rfl, hH⟩
          obtain ⟨A4, c4, rfl, hc4, hC4⟩ := hH.reads 0 rfl
          rw [HU.out] at hC4 ⊢
          have H3 := Aside0.mk (HS.out.app hH)
          have HC4 := Aside0.mk hC4
          have HC3b := Aside0.mk (hH.C HC3.out)
          clear hH hC4 hc4
          go_wp2_with fail
          refine (unwrapped_any _ o A4 N c4 m us HN.out (by omega) HU.out (by omega) HC4.out).mono ?_
          obtain ⟨b, hb'⟩ : ∃ b, b = decide ((openSt o us).1 = ivU) := ⟨_, rfl⟩
          obtain ⟨qs, hqs⟩ : ∃ qs, qs = if (openSt o us).1 = ivU then openOut o us else [] := ⟨_, rfl⟩
          rw [← hb', ← hqs]
          rintro e w4 ⟨v4, rfl, hH⟩
          obtain ⟨A5, c5, rfl, hc5, hC5⟩ := hH.reads 0 rfl
          have H4 := Aside0.mk (H3.out.app hH)
          have HC5 := Aside0.mk hC5
          have HC3c := Aside0.mk (hH.C HC3b.out)
          have HB := Aside0.mk hb'
          have HQs := Aside0.mk hqs
          clear hH hC5 hc5 hb' hqs
          go_wp2_with fail
          refine (sopen_any _ o _ N c2 m us HN.out (by omega) HU.out hNc (by omega) HC3c.out).mono ?_
          rw [← HB.out]
          rintro e w5 ⟨g6, c6, rfl, hH⟩
          have H5 := Aside0.mk (H4.out.app hH)
          have HC5b := Aside0.mk (hH.C HC5.out)
          obtain ⟨A7, c7, hs7, _, hC7⟩ := hH.reads 0 rfl
          injection hs7 with hA7 hl7 _
          subst hA7
          have hC8 := C_dropA hC7 8 (by rw [List.length_append, beB_len]; omega)
          rw [List.drop_left' (beB_len _), List.length_append, beB_len, Nat.add_sub_cancel_left] at hC8
          have HC8 := Aside0.mk hC8
          have HOl : Aside0 ((openOut o us).length = 8 * m) := ⟨openOut_len o us m (by rw [HU.out, HN.out])⟩
          clear hH hl7 hC7 hC8
          by_cases hbt : b = true
          · subst hbt
            have hiv := of_decide_eq_true HB.out.symm
            have hqs := HQs.out
            rw [if_pos hiv] at hqs
            clear HQs
            subst hqs
            rw [HOl.out] at HC5b HC8 ⊢
            clear hiv
            go_wp2_with fail
            refine (same_any _ _ _ _ _ _ _ _ _ HC5b.out HC8.out).mono ?_
            rw [decide_eq_true (show openOut o us = openOut o us from rfl)]
            rintro e w6 ⟨rfl, k, rfl⟩
            have H6 := Aside0.mk (H5.out.drewN k)
            go_wp2_with fail
            refine (awake_any _).mono ?_
            rintro e w7 ⟨rfl, hH⟩
            have H7 := Aside0.mk (H6.out.app hH)
            clear hH
            go_wp2
            go_ret
            exact ⟨rfl, H7.out.below⟩
          · have hbf : b = false := by simpa using hbt
            subst hbf
            clear hbt
            go_wp2_with fail
            refine (awake_any _).mono ?_
            rintro e w7 ⟨rfl, hH⟩
            have H7 := Aside0.mk (H5.out.app hH)
            clear hH
            go_wp2
            go_ret
            exact ⟨rfl, H7.out.below⟩
    · rw [decide_eq_false hb] at HW
      unfold hv
      go_enter Try.func5, Try.ntmps5
      go_wp2_with fail
      refine HW.out.mono ?_
      rintro e w1 ⟨v1, rfl, hH⟩
      have H1 := Aside0.mk hH
      clear hH HW
      go_wp2_with fail
      refine (awake_any _).mono ?_
      rintro e w6 ⟨rfl, hH⟩
      have H6 := Aside0.mk (H1.out.app hH)
      clear hH
      go_wp2
      go_ret
      exact ⟨rfl, H6.out.below⟩
theorem wrapTurn_row (a b : Int) (A : Option Addr) (n c : Nat) (xs : List UInt8) (at_ bt_ : Int) (w : World) (ha : (Lit.int .u64 a).wf = true) (hb : (Lit.int .u64 b).wf = true) (hC : kB.C w A n xs) (_ho : AllOk AnyOk xs) (hw : xs.length * 1 ≤ 140737488351232 ∧ n ≤ c)
    (h3 : (Lit.int .u16 at_).wf = true) (h4 : (Lit.int .u8 bt_).wf = true) :
    Calls Try.prog 5 #[.int .u64 a, .int .u64 b, .slice A n c, .int .u16 at_, .int .u8 bt_] w fun e w' => e = .returned (.bool true) ∧ Below w.heap.size w w' := by
  obtain ⟨s, rfl⟩ := wf_u64 ha
  obtain ⟨o, rfl⟩ := wf_u64 hb
  have h5 : 0 ≤ at_ ∧ at_ < 65536 := by
    simp [Lit.wf, IntKind.min, IntKind.max, IntKind.bits, IntKind.signed] at h3
    omega
  have h6 : 0 ≤ bt_ ∧ bt_ < 256 := by
    simp [Lit.wf, IntKind.min, IntKind.max, IntKind.bits, IntKind.signed] at h4
    omega
  obtain ⟨k, rfl⟩ := Int.eq_ofNat_of_zero_le h5.1
  obtain ⟨j, rfl⟩ := Int.eq_ofNat_of_zero_le h6.1
  have h7 := wrapTurn_any w s o A n c xs k (UInt8.ofNat j) (by omega) (by have := hC.1; omega) hw.2 hC
  rw [UInt8.toNat_ofNat_of_lt' (show j < 256 by omega)] at h7
  exact h7
end Go.Proofs.Ythbdlghkfibbaaa
