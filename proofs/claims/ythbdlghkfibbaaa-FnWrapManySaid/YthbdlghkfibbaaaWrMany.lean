/-
  laws.FnWrapMany: its walk.
-/
import Derived.Test.YthbdlghkfibbaaaWrKey
namespace Go.Proofs.Ythbdlghkfibbaaa
open Go.RowKit Go.Proofs.YthbdlghkfibbaaaW.PrintWords Go.Lib Go.ChangeShapes Go.WideShapes
set_option linter.unusedVariables false
set_option linter.unusedSimpArgs false
def wrapSeq (ss : List UInt64) (ys : List UInt8) : Nat → List UInt8
  | 0 => ys
  | k + 1 => wrapOut (ss.getD k 0) (wrapSeq ss ys k)
theorem wrapSeq_len (ss : List UInt64) (ys : List UInt8) (m : Nat) (h : ys.length = 8 * m) : ∀ k, (wrapSeq ss ys k).length = 8 * (m + k)
  | 0 => h
  | k + 1 => by rw [wrapSeq, wrapOut_len _ _ (m + k) (wrapSeq_len ss ys m h k)]; rfl
theorem Opens.u64 {P : Program} {t : TypeId} (ht : P.underlying t = some (.int .u64)) : Opens P t kU AnyOk := by
  constructor
  intro H enc w base spare held fuel cs x h
  obtain ⟨n, rfl, _, hw⟩ := DataW.trod_int ht h
  obtain ⟨s, rfl⟩ := wf_u64 hw
  exact ⟨s, rfl, trivial⟩
set_option maxRecDepth 100000 in
set_option maxHeartbeats 4000000 in
theorem wrapMany_any (w : World) (A0 : Option Addr) (n0 c0 : Nat) (ss : List UInt64) (A : Option Addr) (n c : Nat) (xs : List UInt8) (hC0 : kU.C w A0 n0 ss) (hn0 : n0 ≤ 140737488351232) (hn : n ≤ 140737488351232) (hnc : n ≤ c) (hC : kB.C w A n xs) :
    Calls Try.prog 4 #[.slice A0 n0 c0, .slice A n c] w fun e w' => e = .returned (.bool true) ∧ Below w.heap.size w w' := by
  by_cases hbig : 2147483647 < n0
  · have hb1 : (2147483647 : Int) < (n0 : Int) := by omega
    clear hC hC0
    go_enter Try.func4, Try.ntmps4
    go_wp2
    go_ret
    exact ⟨rfl, Below.refl _ _⟩
  · have hb1 : ¬ (2147483647 : Int) < (n0 : Int) := by omega
    by_cases hbig2 : 2147483647 < n
    · have hb2 : (2147483647 : Int) < (n : Int) := by omega
      clear hC hC0
      go_enter Try.func4, Try.ntmps4
      go_wp2
      go_ret
      exact ⟨rfl, Below.refl _ _⟩
    · have hb2 : ¬ (2147483647 : Int) < (n : Int) := by omega
      have HC := Aside0.mk hC
      have HC0 := Aside0.mk hC0
      have hyl := take_len hC.1
      obtain ⟨m, hm⟩ : ∃ m, m = n / 8 := ⟨_, rfl⟩
      have HW := Aside0.mk (whole_any w A n c xs (by omega) hnc hC)
      rw [← hm] at HW hyl
      obtain ⟨ys, hys⟩ : ∃ ys, ys = xs.take (8 * m) := ⟨_, rfl⟩
      rw [← hys] at HW hyl
      have HYl := Aside0.mk hyl
      clear hC hC0 hm hys hyl hbig hbig2
      by_cases hb : 16 ≤ 8 * m ∧ 8 * m ≤ 400
      · rw [decide_eq_true hb] at HW
        have hm2 : m ≤ 50 := by omega
        have hm3 : 2 ≤ m := by omega
        clear hb
        by_cases h8 : 8 < n0
        · have hb3 : (8 : Int) < (n0 : Int) := by omega
          clear h8
          go_enter Try.func4, Try.ntmps4
          go_wp2_with fail
          refine HW.out.mono ?_
          rintro e w1 ⟨v1, rfl, hH⟩
          have H1 := Aside0.mk hH
          clear hH HW
          go_wp2_with fail
          refine (awake_any _).mono ?_
          rintro e w6 ⟨rfl, hH⟩
          have H6 := Aside0.mk (H1.out.app hH)
          clear hH
          go_wp2
          go_ret
          exact ⟨rfl, H6.out.below⟩
        · have hb3 : ¬ (8 : Int) < (n0 : Int) := by omega
          have h88 : n0 ≤ 8 := by omega
          clear h8
          go_enter Try.func4, Try.ntmps4
          go_wp2_with fail
          refine HW.out.mono ?_
          rintro e w1 ⟨v1, rfl, hH⟩
          obtain ⟨A1, c1, rfl, hc1, hC1⟩ := hH.reads 0 rfl
          rw [HYl.out] at hC1 hc1 hH ⊢
          have H1 := Aside0.mk hH
          have HC1 := Aside0.mk hC1
          clear hH hC1 hc1 HW
          go_wp2_with fail
          refine (own_any _ A1 (8 * m) c1 ys (by omega) HC1.out).mono ?_
          rintro e w2 ⟨v2, rfl, hH⟩
          have H2 := Aside0.mk (H1.out.app hH)
          clear hH HC1 H1
          obtain ⟨M, hM⟩ : ∃ M, M = 8 * m := ⟨_, rfl⟩
          rw [← hM] at H2 ⊢
          have HM := Aside0.mk hM
          have hM4 : M ≤ 400 := by omega
          clear hM
          go_wp2
          obtain ⟨wl, hwl⟩ : ∃ wl, wl = w2 := ⟨_, rfl⟩
          subst hwl
          go_loopw [6, 39] (fun v i wr => ∃ k : Nat, k ≤ n0 ∧ i = .int .i64 k ∧ Hold w w.heap.size wr [.row kB 5 v (wrapSeq ss ys k), .row kB 5 (.slice A1 M c1) ys]) (fun _ i _ => n0 - (intOf i).toNat)
          case atStart => exact ⟨0, by omega, rfl, H2.out⟩
          case round =>
            obtain ⟨k, hk, rfl, hR⟩ := hrel
            have hkl := wrapSeq_len ss ys m HYl.out k
            by_cases hlt : k < n0
            · have hks : k < ss.length := by rw [HC0.out.1]; exact hlt
              obtain ⟨ad, rfl, e1⟩ := C1_get (hR.C HC0.out) k hks
              obtain ⟨sd, hsd⟩ : ∃ sd, sd = ss[k] := ⟨_, rfl⟩
              rw [← hsd] at e1
              change _ = some (Value.int .u64 (sd.toNat : Int)) at e1
              have hgd : ss.getD k 0 = sd := by rw [List.getD_eq_getElem?_getD, List.getElem?_eq_getElem hks, hsd]; rfl
              obtain ⟨A3, c3, rfl, hc3, hC3⟩ := hR.reads 0 rfl
              obtain ⟨N, hN⟩ : ∃ N, N = 8 * (m + k) := ⟨_, rfl⟩
              rw [hkl, ← hN] at hC3 hR ⊢
              rw [← hN] at hkl
              obtain ⟨zs, hzs⟩ : ∃ zs, zs = wrapSeq ss ys (k + 1) := ⟨_, rfl⟩
              have hzl : zs.length = 8 * (m + (k + 1)) := by rw [hzs]; exact wrapSeq_len ss ys m HYl.out (k + 1)
              have hwr := wrapped_any wr sd A3 N c3 (m + k) _ hN (by omega) hkl (by omega) hC3
              rw [← hgd, show wrapOut (ss.getD k 0) (wrapSeq ss ys k) = zs by rw [hzs]; rfl, hgd] at hwr
              obtain ⟨N2, hN2⟩ : ∃ N2, N2 = 8 * (m + (k + 1)) := ⟨_, rfl⟩
              rw [← hN2] at hzl
              have hM2 := HM.out
              have hw2 : (M : Int) + 8 * ((k : Int) + 1) = (N2 : Int) := by omega
              have hN2b : N2 ≤ 500 := by omega
              have HWr := Aside0.mk hwr
              have HR := Aside0.mk hR
              have HZ := Aside0.mk (And.intro hzs hzl)
              clear hkl hks hsd hgd hc3 hC3 hN hzs hzl hwr hN2 hM2 hR
              go_wp2_with fail
              refine HWr.out.mono ?_
              rintro e w3 ⟨v3, rfl, hH⟩
              obtain ⟨A4, c4, rfl, hc4, hC4⟩ := hH.reads 0 rfl
              rw [HZ.out.2] at hH ⊢
              have H3 := Aside0.mk ((HR.out.app hH).swap.tail)
              clear hH hc4 hC4
              go_wp2
              go_roundw
              case rel => exact ⟨k + 1, hlt, by go_num, by rw [← HZ.out.1]; exact H3.out⟩
              case measure => simp [intOf]; omega
            · obtain rfl : n0 = k := by omega
              have HR := Aside0.mk hR
              clear hR hkl
              go_wp2
              obtain ⟨wm, hwm⟩ : ∃ wm, wm = wr := ⟨_, rfl⟩
              subst hwm
              go_loopw [6, 11] (fun v i wr => ∃ K : Nat, K ≤ n0 ∧ i = .int .i64 ((K : Int) - 1) ∧ Hold w w.heap.size wr [.row kB 5 v (wrapSeq ss ys K), .row kB 5 (.slice A1 M c1) ys]) (fun _ i _ => (intOf i + 1).toNat)
              case atStart => exact ⟨n0, by omega, rfl, HR.out⟩
              case round =>
                obtain ⟨K, hK, hi, hR⟩ := hrel
                by_cases hlt2 : 0 < K
                · obtain ⟨k, rfl⟩ : ∃ k, K = k + 1 := ⟨K - 1, by omega⟩
                  rw [show ((k + 1 : Nat) : Int) - 1 = (k : Int) by omega] at hi
                  subst hi
                  have hkl := wrapSeq_len ss ys m HYl.out (k + 1)
                  have hkl0 := wrapSeq_len ss ys m HYl.out k
                  have hks : k < ss.length := by rw [HC0.out.1]; omega
                  obtain ⟨ad, rfl, e1⟩ := C1_get (hR.C HC0.out) k hks
                  obtain ⟨sd, hsd⟩ : ∃ sd, sd = ss[k] := ⟨_, rfl⟩
                  rw [← hsd] at e1
                  change _ = some (Value.int .u64 (sd.toNat : Int)) at e1
                  have hgd : ss.getD k 0 = sd := by rw [List.getD_eq_getElem?_getD, List.getElem?_eq_getElem hks, hsd]; rfl
                  obtain ⟨A3, c3, rfl, hc3, hC3⟩ := hR.reads 0 rfl
                  obtain ⟨N, hN⟩ : ∃ N, N = 8 * (m + k + 1) := ⟨_, rfl⟩
                  rw [hkl, show 8 * (m + (k + 1)) = N by omega] at hC3 hR ⊢
                  rw [show 8 * (m + (k + 1)) = N by omega] at hkl
                  have hwr := unwrapped_any wr sd A3 N c3 (m + k) _ hN (by omega) hkl (by omega) hC3
                  have hq1 : (openSt sd (wrapSeq ss ys (k + 1))).1 = ivU := by
                    rw [wrapSeq, hgd, openSt_wrapOut sd _ (m + k) (by omega) hkl0]
                  have hq2 : openOut sd (wrapSeq ss ys (k + 1)) = wrapSeq ss ys k := by
                    rw [wrapSeq, hgd, openOut_wrapOut sd _ (m + k) (by omega) hkl0]
                  rw [decide_eq_true hq1, if_pos hq1, hq2] at hwr
                  have HWr := Aside0.mk hwr
                  have HR := Aside0.mk hR
                  clear hkl hkl0 hks hsd hgd hc3 hC3 hN hwr hq1 hq2 hR
                  go_wp2_with fail
                  refine HWr.out.mono ?_
                  rintro e w3 ⟨v3, rfl, hH⟩
                  have H3 := Aside0.mk ((HR.out.app hH).swap.tail)
                  clear hH
                  go_wp2
                  go_roundw
                  case rel => exact ⟨k, by omega, by go_num, H3.out⟩
                  case measure => simp [intOf]
                · obtain rfl : K = 0 := by omega
                  have hi' : u11 = .int .i64 (-1) := hi
                  subst hi'
                  obtain ⟨A3, c3, rfl, hc3, hC3⟩ := hR.reads 0 rfl
                  obtain ⟨A4, c4, hs4, hc4, hC4⟩ := hR.reads 1 rfl
                  rw [show (wrapSeq ss ys 0).length = M by rw [HM.out]; exact HYl.out] at hC3 ⊢
                  rw [HYl.out, ← HM.out] at hs4 hC4
                  injection hs4 with hA4 _ hcc
                  subst hA4
                  have HC3 := Aside0.mk (show kB.C wr A3 M ys from hC3)
                  have HC4 := Aside0.mk hC4
                  have HR := Aside0.mk hR
                  clear hc3 hC3 hc4 hC4 hR hcc hi
                  go_wp2_with fail
                  refine (same_any _ _ _ _ _ _ _ _ _ HC3.out HC4.out).mono ?_
                  rw [decide_eq_true (show ys = ys from rfl)]
                  rintro e w6 ⟨rfl, k, rfl⟩
                  have H6 := Aside0.mk (HR.out.drewN k)
                  go_wp2_with fail
                  refine (awake_any _).mono ?_
                  rintro e w7 ⟨rfl, hH⟩
                  have H7 := Aside0.mk (H6.out.app hH)
                  clear hH
                  go_wp2
                  go_ret
                  exact ⟨rfl, H7.out.below⟩
      · rw [decide_eq_false hb] at HW
        go_enter Try.func4, Try.ntmps4
        go_wp2_with fail
        refine HW.out.mono ?_
        rintro e w1 ⟨v1, rfl, hH⟩
        have H1 := Aside0.mk hH
        clear hH HW
        go_wp2_with fail
        refine (awake_any _).mono ?_
        rintro e w6 ⟨rfl, hH⟩
        have H6 := Aside0.mk (H1.out.app hH)
        clear hH
        go_wp2
        go_ret
        exact ⟨rfl, H6.out.below⟩
theorem wrapMany_row (A0 : Option Addr) (n0 c0 : Nat) (ss : List UInt64) (A : Option Addr) (n c : Nat) (xs : List UInt8) (w : World) (hC0 : kU.C w A0 n0 ss) (_ho0 : AllOk AnyOk ss) (hw0 : ss.length * 8 ≤ 140737488351232 ∧ n0 ≤ c0) (hC : kB.C w A n xs) (_ho : AllOk AnyOk xs) (hw : xs.length * 1 ≤ 140737488351232 ∧ n ≤ c) :
    Calls Try.prog 4 #[.slice A0 n0 c0, .slice A n c] w fun e w' => e = .returned (.bool true) ∧ Below w.heap.size w w' :=
  wrapMany_any w A0 n0 c0 ss A n c xs hC0 (by have := hC0.1; omega) (by have := hC.1; omega) hw.2 hC
end Go.Proofs.Ythbdlghkfibbaaa
