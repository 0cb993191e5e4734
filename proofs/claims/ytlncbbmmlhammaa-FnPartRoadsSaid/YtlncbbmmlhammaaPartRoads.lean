/-
  FnPartRoads: its walk. (Printed by roadsgen.py.)
-/
import Derived.Test.YtlncbbmmlhammaaJoin2
import Derived.Test.YtlncbbmmlhammaaAwake2
import Derived.Test.YtlncbbmmlhammaaArg
namespace Go.Proofs.Ytlncbbmmlhammaa
open Go.RowKit Go.Proofs.YtlncbbmmlhammaaW.PrintWords Go.Lib
set_option linter.unusedVariables false
set_option linter.unusedSimpArgs false
set_option maxRecDepth 100000 in
set_option maxHeartbeats 16000000 in
theorem partRoads_any (w : World) (A : Option Addr) (n c : Nat) (xs : List UInt8) (D : Option Addr) (m d : Nat) (ys : List UInt8) (E : Option Addr) (k f : Nat) (zs : List UInt8) (hnc : n ≤ c) (hmd : m ≤ d) (hkf : k ≤ f) (hC1 : kB.C w A n xs) (hC2 : kB.C w D m ys) (hC3 : kB.C w E k zs) :
    Calls Try.prog 9 #[.slice A n c, .slice D m d, .slice E k f] w fun e w' => e = .returned (.bool true) ∧ Below w.heap.size w w' := by
  obtain rfl := hC1.1
  obtain rfl := hC2.1
  obtain rfl := hC3.1
  have hx : xs.length ≤ 9223372036854775807 := hC1.2.1
  have hy : ys.length ≤ 9223372036854775807 := hC2.2.1
  have hz : zs.length ≤ 9223372036854775807 := hC3.2.1
  have HC1 := Aside0.mk hC1
  have HC2 := Aside0.mk hC2
  have HC3 := Aside0.mk hC3
  by_cases hl : 2147483647 < xs.length ∨ 2147483647 < ys.length ∨ 2147483647 < zs.length
  · clear hC1 hC2 hC3
    by_cases h1 : 2147483647 < xs.length
    · clear hl
      go_enter Try.func9, Try.ntmps9
      go_wp2
      go_ret
      exact ⟨rfl, Below.refl _ _⟩
    · by_cases h2 : 2147483647 < ys.length
      · clear hl
        go_enter Try.func9, Try.ntmps9
        go_wp2
        go_ret
        exact ⟨rfl, Below.refl _ _⟩
      · have h3 : 2147483647 < zs.length := by omega
        clear hl
        go_enter Try.func9, Try.ntmps9
        go_wp2
        go_ret
        exact ⟨rfl, Below.refl _ _⟩
  · have h1 : ¬ 2147483647 < xs.length := by omega
    have h2 : ¬ 2147483647 < ys.length := by omega
    have h3 : ¬ 2147483647 < zs.length := by omega
    clear hl
    have hCS := CS_lit w 22 _ rfl [.slice A xs.length c, .slice D ys.length d, .slice E zs.length f] [xs, ys, zs] rfl (by simp) (fun j hj => by
      match j, hj with
      | 0, _ => exact RdS.mk' hC1 hnc
      | 1, _ => exact RdS.mk' hC2 hmd
      | 2, _ => exact RdS.mk' hC3 hkf)
    have HCS := Aside0.mk hCS
    have H1 := Aside0.mk ((Hold.start w).alloc_ (.cells #[.slice A xs.length c, .slice D ys.length d, .slice E zs.length f] 22))
    clear hC1 hC2 hC3 hCS
    go_enter Try.func9, Try.ntmps9
    go_wp2_with fail
    refine (short_any _ _ _ _ [xs, ys, zs] HCS.out).mono ?_
    rintro e w1 ⟨rfl, rfl⟩
    clear HCS
    cases hb : shortOk [xs, ys, zs] with
    | false =>
      clear hb
      go_wp2_with fail
      refine (partAwake_any _).mono ?_
      rintro e w2 ⟨rfl, hM⟩
      have HZ := Aside0.mk (H1.out.of_below hM.below)
      clear hM
      go_wp2
      go_ret
      exact ⟨rfl, HZ.out.below⟩
    | true =>
        have hlen : xs.length ≤ 2000 ∧ ys.length ≤ 2000 ∧ zs.length ≤ 2000 := by
          unfold shortOk at hb
          simpa using hb
        obtain ⟨hlx, hly, hlz⟩ := hlen
        clear hb h1 h2 h3 hnc hmd hkf
        obtain ⟨eb, heb⟩ : ∃ eb, eb = b64 true ys := ⟨_, rfl⟩
        obtain ⟨pre, hpre⟩ : ∃ pre, pre = b64 true xs ++ [46] := ⟨_, rfl⟩
        obtain ⟨pl, hpl⟩ : ∃ pl, pl = pre ++ ys := ⟨_, rfl⟩
        obtain ⟨cd, hcd⟩ : ∃ cd, cd = pre ++ eb := ⟨_, rfl⟩
        obtain ⟨jj, hjj⟩ : ∃ jj, jj = cd ++ [46] ++ b64 true zs := ⟨_, rfl⟩
        have hel : eb.length ≤ 10000 := by rw [heb, b64_len]; unfold encLen; omega
        have hpr : pre.length ≤ 10000 := by rw [hpre, List.length_append, b64_len]; unfold encLen; simp; omega
        have HEl : Aside0 (eb.length ≤ 100000) := ⟨by omega⟩
        have HJ1 : Aside0 (joined xs eb zs false = jj) := ⟨by rw [hjj, hcd, hpre]; rfl⟩
        have HJ2 : Aside0 (joined xs ys zs true = jj) := ⟨by rw [hjj, hcd, hpre, heb]; rfl⟩
        have HG4 : Aside0 (sign xs ys false = pl) := ⟨by rw [hpl, hpre]; rfl⟩
        have HG5 : Aside0 (sign xs ys true = cd) := ⟨by rw [hcd, hpre, heb]; rfl⟩
        have HEb := Aside0.mk heb
        have HPre := Aside0.mk hpre
        have HPl := Aside0.mk hpl
        have HCd := Aside0.mk hcd
        have HL1 : Aside0 ((pre.length + ys.length) * 1 ≤ 140737488355328) := ⟨by omega⟩
        have HL2 : Aside0 ((pre.length + eb.length) * 1 ≤ 140737488355328) := ⟨by omega⟩
        clear heb hpre hpl hcd hjj
        go_wp2_with fail
        refine (own_any _ A _ c xs (by omega) (H1.out.C HC1.out)).mono ?_
        rintro e w2 ⟨v, rfl, hH⟩
        obtain ⟨Aa1, ca1, rfl, _, _⟩ := hH.reads 0 rfl
        have H2 := Aside0.mk (H1.out.app hH)
        clear hH H1
        go_wp2_with fail
        refine (implPrefix_any _ Aa1 _ ca1 xs (by omega) (H2.out.Cat 0 rfl)).mono ?_
        rw [← HPre.out]
        rintro e w3 ⟨v, rfl, hH⟩
        obtain ⟨Ap, cp, rfl, _, _⟩ := hH.reads 0 rfl
        have H3 := Aside0.mk ((H2.out.app hH).pick [0] (by decide) (L' := [.row kB 5 (.slice Ap pre.length cp) pre]) rfl)
        clear hH H2
        go_wp2_with fail
        refine (own_any _ Ap _ cp pre (by omega) (H3.out.Cat 0 rfl)).mono ?_
        rintro e w4 ⟨v, rfl, hH⟩
        obtain ⟨Aq, cq, rfl, _, _⟩ := hH.reads 0 rfl
        have H4 := Aside0.mk (H3.out.app hH)
        clear hH H3
        go_upto_region 7 with ((with_reducible refine at_bi (b := .append) (xs := #[.tmp 38, .tmp 39]) rfl ?_); at_builtin; refine Hold.appendRow 0 H4.out rfl rfl (.tmp 38) (.tmp 39) 22 (.int .u8 0) 1 rfl Try.underlying22 info5 rfl (by omega) (D) (ys.length) (d) rfl rfl (H4.out.C HC2.out) HL1.out ?_; intro _ _ HX'; have HX := Aside0.mk HX'; clear HX' H4)
        have hX : Hold w w.heap.size _ [.row kB 5 _ (pre ++ ys), .row kB 5 (.slice Ap pre.length cp) pre] := HX.out
        rw [← HPl.out] at hX
        obtain ⟨Apl, cpl, rfl, _, _⟩ := hX.reads 0 rfl
        have H5 := Aside0.mk hX
        clear hX HX
        go_wp2_with fail
        refine (own_any _ Ap _ cp pre (by omega) (H5.out.Cat 1 rfl)).mono ?_
        rintro e w5 ⟨v, rfl, hH⟩
        obtain ⟨Ar, cr, rfl, _, _⟩ := hH.reads 0 rfl
        have H6 := Aside0.mk (H5.out.app hH)
        clear hH H5
        go_wp2_with fail
        refine (own_any _ D _ d ys (by omega) (H6.out.C HC2.out)).mono ?_
        rintro e w6 ⟨v, rfl, hH⟩
        obtain ⟨As, cs, rfl, _, _⟩ := hH.reads 0 rfl
        have H7 := Aside0.mk (H6.out.app hH)
        clear hH H6
        go_wp2_with fail
        refine (encoded_any _ As _ cs ys (by omega) (H7.out.Cat 0 rfl)).mono ?_
        rw [← HEb.out]
        rintro e w7 ⟨v, rfl, hH⟩
        obtain ⟨At, ct, rfl, _, _⟩ := hH.reads 0 rfl
        have H8 := Aside0.mk ((H7.out.app hH).pick [0, 2, 3] (by decide) (L' := [.row kB 5 (.slice At eb.length ct) eb, .row kB 5 (.slice Ar pre.length cr) pre, .row kB 5 (.slice Apl pl.length cpl) pl]) rfl)
        clear hH H7
        go_upto_region 8 with ((with_reducible refine at_bi (b := .append) (xs := #[.tmp 42, .tmp 45]) rfl ?_); at_builtin; refine Hold.appendRow 1 H8.out rfl rfl (.tmp 42) (.tmp 45) 22 (.int .u8 0) 1 rfl Try.underlying22 info5 rfl (by omega) (At) (eb.length) (ct) rfl rfl (H8.out.Cat 0 rfl) HL2.out ?_; intro _ _ HX'; have HX := Aside0.mk HX'; clear HX' H8)
        have hX : Hold w w.heap.size _ [.row kB 5 (.slice At eb.length ct) eb, .row kB 5 _ (pre ++ eb), .row kB 5 (.slice Apl pl.length cpl) pl] := HX.out
        rw [← HCd.out] at hX
        obtain ⟨Acd, ccd, rfl, _, _⟩ := hX.reads 1 rfl
        have H9 := Aside0.mk (hX.pick [1, 2] (by decide) (L' := [.row kB 5 (.slice Acd cd.length ccd) cd, .row kB 5 (.slice Apl pl.length cpl) pl]) rfl)
        clear hX HX
        go_wp2_with fail
        refine (own_any _ A _ c xs (by omega) (H9.out.C HC1.out)).mono ?_
        rintro e w8 ⟨v, rfl, hH⟩
        obtain ⟨Aa2, ca2, rfl, _, _⟩ := hH.reads 0 rfl
        have H10 := Aside0.mk (H9.out.app hH)
        clear hH H9
        go_wp2_with fail
        refine (own_any _ D _ d ys (by omega) (H10.out.C HC2.out)).mono ?_
        rintro e w9 ⟨v, rfl, hH⟩
        obtain ⟨Ab2, cb2, rfl, _, _⟩ := hH.reads 0 rfl
        have H11 := Aside0.mk (H10.out.app hH)
        clear hH H10
        go_wp2_with fail
        refine (encoded_any _ Ab2 _ cb2 ys (by omega) (H11.out.Cat 0 rfl)).mono ?_
        rw [← HEb.out]
        rintro e w10 ⟨v, rfl, hH⟩
        obtain ⟨Ae2, ce2, rfl, _, _⟩ := hH.reads 0 rfl
        have H12 := Aside0.mk (H11.out.app hH)
        clear hH H11
        go_wp2_with fail
        refine (own_any _ E _ f zs (by omega) (H12.out.C HC3.out)).mono ?_
        rintro e w11 ⟨v, rfl, hH⟩
        obtain ⟨As2, cs2, rfl, _, _⟩ := hH.reads 0 rfl
        have H13 := Aside0.mk (H12.out.app hH)
        clear hH H12
        go_wp2_with fail
        refine (implJoined_any _ Aa2 Ae2 As2 _ ca2 _ ce2 _ cs2 xs eb zs false (by omega) HEl.out (by omega) (H13.out.Cat 3 rfl) (H13.out.Cat 1 rfl) (H13.out.Cat 0 rfl)).mono ?_
        rw [HJ1.out]
        rintro e w12 ⟨v, rfl, hH⟩
        obtain ⟨Ax, cx, rfl, _, _⟩ := hH.reads 0 rfl
        have H14 := Aside0.mk ((H13.out.app hH).pick [0, 5, 6] (by decide) (L' := [.row kB 5 (.slice Ax jj.length cx) jj, .row kB 5 (.slice Acd cd.length ccd) cd, .row kB 5 (.slice Apl pl.length cpl) pl]) rfl)
        clear hH H13
        go_wp2_with fail
        refine (own_any _ A _ c xs (by omega) (H14.out.C HC1.out)).mono ?_
        rintro e w13 ⟨v, rfl, hH⟩
        obtain ⟨Aa3, ca3, rfl, _, _⟩ := hH.reads 0 rfl
        have H15 := Aside0.mk (H14.out.app hH)
        clear hH H14
        go_wp2_with fail
        refine (own_any _ D _ d ys (by omega) (H15.out.C HC2.out)).mono ?_
        rintro e w14 ⟨v, rfl, hH⟩
        obtain ⟨Ab3, cb3, rfl, _, _⟩ := hH.reads 0 rfl
        have H16 := Aside0.mk (H15.out.app hH)
        clear hH H15
        go_wp2_with fail
        refine (own_any _ E _ f zs (by omega) (H16.out.C HC3.out)).mono ?_
        rintro e w15 ⟨v, rfl, hH⟩
        obtain ⟨As3, cs3, rfl, _, _⟩ := hH.reads 0 rfl
        have H17 := Aside0.mk (H16.out.app hH)
        clear hH H16
        go_wp2_with fail
        refine (implJoined_any _ Aa3 Ab3 As3 _ ca3 _ cb3 _ cs3 xs ys zs true (by omega) (by omega) (by omega) (H17.out.Cat 2 rfl) (H17.out.Cat 1 rfl) (H17.out.Cat 0 rfl)).mono ?_
        rw [HJ2.out]
        rintro e w16 ⟨v, rfl, hH⟩
        obtain ⟨Ay, cy, rfl, _, _⟩ := hH.reads 0 rfl
        have H18 := Aside0.mk ((H17.out.app hH).pick [0, 4, 5, 6] (by decide) (L' := [.row kB 5 (.slice Ay jj.length cy) jj, .row kB 5 (.slice Ax jj.length cx) jj, .row kB 5 (.slice Acd cd.length ccd) cd, .row kB 5 (.slice Apl pl.length cpl) pl]) rfl)
        clear hH H17
        go_wp2_with fail
        refine (own_any _ A _ c xs (by omega) (H18.out.C HC1.out)).mono ?_
        rintro e w17 ⟨v, rfl, hH⟩
        obtain ⟨Aa4, ca4, rfl, _, _⟩ := hH.reads 0 rfl
        have H19 := Aside0.mk (H18.out.app hH)
        clear hH H18
        go_wp2_with fail
        refine (own_any _ D _ d ys (by omega) (H19.out.C HC2.out)).mono ?_
        rintro e w18 ⟨v, rfl, hH⟩
        obtain ⟨Ab4, cb4, rfl, _, _⟩ := hH.reads 0 rfl
        have H20 := Aside0.mk (H19.out.app hH)
        clear hH H19
        go_wp2_with fail
        refine (implSigning_any _ Aa4 Ab4 _ ca4 _ cb4 xs ys false (by omega) (by omega) (H20.out.Cat 1 rfl) (H20.out.Cat 0 rfl)).mono ?_
        rw [HG4.out]
        rintro e w19 ⟨v, rfl, hH⟩
        obtain ⟨Ag4, cg4, rfl, _, _⟩ := hH.reads 0 rfl
        have H21 := Aside0.mk ((H20.out.app hH).pick [0, 3, 4, 5, 6] (by decide) (L' := [.row kB 5 (.slice Ag4 pl.length cg4) pl, .row kB 5 (.slice Ay jj.length cy) jj, .row kB 5 (.slice Ax jj.length cx) jj, .row kB 5 (.slice Acd cd.length ccd) cd, .row kB 5 (.slice Apl pl.length cpl) pl]) rfl)
        clear hH H20
        have q1 := H21.out.Cat 4 rfl
        have q2 := H21.out.Cat 0 rfl
        go_wp2_with fail
        refine (same_any _ _ _ _ _ _ _ _ _ q1 q2).mono ?_
        rintro e w20 ⟨rfl, z, rfl⟩
        rw [decide_eq_true rfl]
        clear q1 q2
        have H22 := Aside0.mk ((H21.out.tail).drewN z)
        clear H21
        go_wp2_with fail
        refine (own_any _ A _ c xs (by omega) (H22.out.C HC1.out)).mono ?_
        rintro e w21 ⟨v, rfl, hH⟩
        obtain ⟨Aa5, ca5, rfl, _, _⟩ := hH.reads 0 rfl
        have H23 := Aside0.mk (H22.out.app hH)
        clear hH H22
        go_wp2_with fail
        refine (own_any _ D _ d ys (by omega) (H23.out.C HC2.out)).mono ?_
        rintro e w22 ⟨v, rfl, hH⟩
        obtain ⟨Ab5, cb5, rfl, _, _⟩ := hH.reads 0 rfl
        have H24 := Aside0.mk (H23.out.app hH)
        clear hH H23
        go_wp2_with fail
        refine (implSigning_any _ Aa5 Ab5 _ ca5 _ cb5 xs ys true (by omega) (by omega) (H24.out.Cat 1 rfl) (H24.out.Cat 0 rfl)).mono ?_
        rw [HG5.out]
        rintro e w23 ⟨v, rfl, hH⟩
        obtain ⟨Ag5, cg5, rfl, _, _⟩ := hH.reads 0 rfl
        have H25 := Aside0.mk ((H24.out.app hH).pick [0, 3, 4, 5, 6] (by decide) (L' := [.row kB 5 (.slice Ag5 cd.length cg5) cd, .row kB 5 (.slice Ay jj.length cy) jj, .row kB 5 (.slice Ax jj.length cx) jj, .row kB 5 (.slice Acd cd.length ccd) cd, .row kB 5 (.slice Apl pl.length cpl) pl]) rfl)
        clear hH H24
        have q1 := H25.out.Cat 3 rfl
        have q2 := H25.out.Cat 0 rfl
        go_wp2_with fail
        refine (same_any _ _ _ _ _ _ _ _ _ q1 q2).mono ?_
        rintro e w24 ⟨rfl, z, rfl⟩
        rw [decide_eq_true rfl]
        clear q1 q2
        have H26 := Aside0.mk ((H25.out.tail).drewN z)
        clear H25
        have q1 := H26.out.Cat 1 rfl
        have q2 := H26.out.Cat 0 rfl
        go_wp2_with fail
        refine (same_any _ _ _ _ _ _ _ _ _ q1 q2).mono ?_
        rintro e w25 ⟨rfl, z, rfl⟩
        rw [decide_eq_true rfl]
        clear q1 q2
        have h' := H26.out.drewN z
        rw [World.drewN_drewN] at h'
        have H27 := Aside0.mk h'
        clear h' H26
        go_wp2_with fail
        refine (partAwake_any _).mono ?_
        rintro e w26 ⟨rfl, hM⟩
        have HZ := Aside0.mk (H27.out.of_below hM.below)
        clear hM
        go_wp2
        go_ret
        exact ⟨rfl, HZ.out.below⟩
theorem partRoads_row (A : Option Addr) (n c : Nat) (xs : List UInt8) (D : Option Addr) (m d : Nat) (ys : List UInt8) (E : Option Addr) (k f : Nat) (zs : List UInt8) (w : World) (hC : kB.C w A n xs) (_ : AllOk AnyOk xs) (hn : xs.length * 1 ≤ 140737488351232 ∧ n ≤ c) (hD : kB.C w D m ys) (_ : AllOk AnyOk ys) (hm : ys.length * 1 ≤ 140737488351232 ∧ m ≤ d) (hE : kB.C w E k zs) (_ : AllOk AnyOk zs) (hk : zs.length * 1 ≤ 140737488351232 ∧ k ≤ f) :
    Calls Try.prog 9 #[.slice A n c, .slice D m d, .slice E k f] w fun e w' => e = .returned (.bool true) ∧ Below w.heap.size w w' := partRoads_any w A n c xs D m d ys E k f zs hn.2 hm.2 hk.2 hC hD hE
end Go.Proofs.Ytlncbbmmlhammaa
