/-
  FnPartRoad: its walk. (Printed by roadgen.py.)
-/
import Derived.Test.YtlncbbmmlhammaaDoorPartRoadLaw
namespace Go.Proofs.YtlncbbmmlhammaaDoor
open Go.RowKit Go.Proofs.YtlncbbmmlhammaaDoorW.PrintWords Go.Lib
set_option linter.unusedVariables false
set_option linter.unusedSimpArgs false
set_option maxRecDepth 100000 in
set_option maxHeartbeats 16000000 in
theorem partRoad_any (w : World) (A : Option Addr) (n c : Nat) (xs : List UInt8) (D : Option Addr) (m d : Nat) (ys : List UInt8) (E : Option Addr) (k f : Nat) (zs : List UInt8) (enc : Bool) (t : TypeId) (v : Value) (hG : w.cell? ⟨0, 0, none⟩ = some (.iface t v)) (hnc : n ≤ c) (hmd : m ≤ d) (hkf : k ≤ f) (hC1 : kB.C w A n xs) (hC2 : kB.C w D m ys) (hC3 : kB.C w E k zs) :
    Calls Tryd.prog 4 #[.slice A n c, .slice D m d, .slice E k f, .bool enc] w fun e w' => e = .returned (.bool true) ∧ Below w.heap.size w w' := by
  obtain rfl := hC1.1
  obtain rfl := hC2.1
  obtain rfl := hC3.1
  have hx : xs.length ≤ 9223372036854775807 := hC1.2.1
  have hy : ys.length ≤ 9223372036854775807 := hC2.2.1
  have hz : zs.length ≤ 9223372036854775807 := hC3.2.1
  have HG := Aside0.mk hG
  have HC1 := Aside0.mk hC1
  have HC2 := Aside0.mk hC2
  have HC3 := Aside0.mk hC3
  clear hG
  by_cases hl : 2147483647 < xs.length ∨ 2147483647 < ys.length ∨ 2147483647 < zs.length
  · clear hC1 hC2 hC3
    by_cases h1 : 2147483647 < xs.length
    · clear hl
      go_enter Tryd.func4, Tryd.ntmps4
      go_wp2
      go_ret
      exact ⟨rfl, Below.refl _ _⟩
    · by_cases h2 : 2147483647 < ys.length
      · clear hl
        go_enter Tryd.func4, Tryd.ntmps4
        go_wp2
        go_ret
        exact ⟨rfl, Below.refl _ _⟩
      · have h3 : 2147483647 < zs.length := by omega
        clear hl
        go_enter Tryd.func4, Tryd.ntmps4
        go_wp2
        go_ret
        exact ⟨rfl, Below.refl _ _⟩
  · have h1 : ¬ 2147483647 < xs.length := by omega
    have h2 : ¬ 2147483647 < ys.length := by omega
    have h3 : ¬ 2147483647 < zs.length := by omega
    clear hl
    have hCS := CS_lit w 22 _ rfl [.slice A xs.length c, .slice D ys.length d, .slice E zs.length f] [xs, ys, zs] rfl (by simp) (fun j hj => by
      match j, hj with
      | 0, _ => exact RdS.mk' hC1 hnc
      | 1, _ => exact RdS.mk' hC2 hmd
      | 2, _ => exact RdS.mk' hC3 hkf)
    have HCS := Aside0.mk hCS
    have H1 := Aside0.mk ((Hold.start w).alloc_ (.cells #[.slice A xs.length c, .slice D ys.length d, .slice E zs.length f] 22))
    clear hC1 hC2 hC3 hCS
    go_enter Tryd.func4, Tryd.ntmps4
    go_wp2_with fail
    refine (short_any _ _ _ _ [xs, ys, zs] HCS.out).mono ?_
    rintro e w1 ⟨rfl, rfl⟩
    clear HCS
    cases hb : shortOk [xs, ys, zs] with
    | false =>
      clear hb
      go_wp2_with fail
      refine (partAwake_any _).mono ?_
      rintro e w2 ⟨rfl, hM⟩
      have HZ := Aside0.mk (H1.out.of_below hM.below)
      clear hM
      go_wp2
      go_ret
      exact ⟨rfl, HZ.out.below⟩
    | true =>
      have hlen : xs.length ≤ 2000 ∧ ys.length ≤ 2000 ∧ zs.length ≤ 2000 := by
        unfold shortOk at hb
        simpa using hb
      obtain ⟨hlx, hly, hlz⟩ := hlen
      clear hb h1 h2 h3 hnc hmd hkf
      obtain ⟨eb1, heb1⟩ : ∃ eb1, eb1 = b64 true xs := ⟨_, rfl⟩
      obtain ⟨eb3, heb3⟩ : ∃ eb3, eb3 = b64 true zs := ⟨_, rfl⟩
      have he1 : eb1.length ≤ 10000 := by rw [heb1, b64_len]; unfold encLen; omega
      have he3 : eb3.length ≤ 10000 := by rw [heb3, b64_len]; unfold encLen; omega
      have HL1 : Aside0 (eb1.length ≤ 1000000000) := ⟨by omega⟩
      have HL3 : Aside0 (eb3.length ≤ 1000000000) := ⟨by omega⟩
      have HG1 := Aside0.mk (guess_raw (ts := eb1) (by rw [heb1]; exact b64_isL true _))
      have HG3 := Aside0.mk (guess_raw (ts := eb3) (by rw [heb3]; exact b64_isL true _))
      have HD1 : Aside0 (decAll true true eb1 = some xs) := ⟨by rw [heb1]; exact decAll_b64 true _⟩
      have HD3 : Aside0 (decAll true true eb3 = some zs) := ⟨by rw [heb3]; exact decAll_b64 true _⟩
      cases enc with
      | true =>
        obtain ⟨my, hmy⟩ : ∃ my, my = b64 true ys := ⟨_, rfl⟩
        obtain ⟨jj, hjj⟩ : ∃ jj, jj = joined xs ys zs true := ⟨_, rfl⟩
        have he2 : my.length ≤ 10000 := by rw [hmy, b64_len]; unfold encLen; omega
        have HL2 : Aside0 (my.length ≤ 1000000000) := ⟨by omega⟩
        have HG2 := Aside0.mk (guess_raw (ts := my) (by rw [hmy]; exact b64_isL true _))
        have HD2 : Aside0 (decAll true true my = some ys) := ⟨by rw [hmy]; exact decAll_b64 true _⟩
        have HJ := Aside0.mk hjj
        have HSg : Aside0 (segsL jj = [eb1, my, eb3]) := ⟨by rw [hjj, heb1, hmy, heb3]; exact joined_segs _ _ _ true (by intro h; cases h)⟩
        have HJl : Aside0 (jj.length ≤ 1000000) := ⟨by rw [hjj]; unfold joined sign; simp only [if_true, List.length_append, List.length_singleton]; rw [← heb1, ← hmy, ← heb3]; omega⟩
        clear heb1 heb3 hmy hjj
        go_wp2_with fail
        refine (own_any _ A _ c xs (by omega) (H1.out.C HC1.out)).mono ?_
        rintro e w2 ⟨v, rfl, hH⟩
        obtain ⟨Aa, ca, rfl, _, _⟩ := hH.reads 0 rfl
        have H2 := Aside0.mk (H1.out.app hH)
        clear hH H1
        go_wp2_with fail
        refine (own_any _ D _ d ys (by omega) (H2.out.C HC2.out)).mono ?_
        rintro e w3 ⟨v, rfl, hH⟩
        obtain ⟨Ab, cb, rfl, _, _⟩ := hH.reads 0 rfl
        have H3 := Aside0.mk (H2.out.app hH)
        clear hH H2
        go_wp2_with fail
        refine (own_any _ E _ f zs (by omega) (H3.out.C HC3.out)).mono ?_
        rintro e w4 ⟨v, rfl, hH⟩
        obtain ⟨As, cs, rfl, _, _⟩ := hH.reads 0 rfl
        have H4 := Aside0.mk (H3.out.app hH)
        clear hH H3
        go_wp2_with fail
        refine (implJoined_any _ Aa Ab As _ ca _ cb _ cs xs ys zs true (by omega) (by omega) (by omega) (H4.out.Cat 2 rfl) (H4.out.Cat 1 rfl) (H4.out.Cat 0 rfl)).mono ?_
        rw [← HJ.out]
        rintro e w5 ⟨v, rfl, hH⟩
        obtain ⟨Aj, cj, rfl, _, _⟩ := hH.reads 0 rfl
        have H5 := Aside0.mk ((H4.out.app hH).pick [0] (by decide) (L' := [.row kB 5 (.slice Aj jj.length cj) jj]) rfl)
        clear hH H4
        go_wp2_with fail
        refine (implSplit_any _ Aj _ cj jj t v (pw_cell_below H5.out.below HG.out) HJl.out (H5.out.Cat 0 rfl)).mono ?_
        rw [HSg.out]
        rintro e w6 ⟨u1, u2, u3, rfl, hH⟩
        obtain ⟨B3, d3, rfl, _, _⟩ := hH.reads 0 rfl
        obtain ⟨B2, d2, rfl, _, _⟩ := hH.reads 1 rfl
        obtain ⟨B1, d1, rfl, _, _⟩ := hH.reads 2 rfl
        have H6 := Aside0.mk ((H5.out.app hH).pick [0, 1, 2] (by decide) (L' := [.row kB 5 (.slice B3 eb3.length d3) eb3, .row kB 5 (.slice B2 my.length d2) my, .row kB 5 (.slice B1 eb1.length d1) eb1]) rfl)
        clear hH H5
        go_wp2_with fail
        refine (decoded_any _ true B1 _ d1 eb1 HL1.out (H6.out.Cat 2 rfl) HG1.out.1 HG1.out.2).mono ?_
        rw [HD1.out]
        rintro e w7 ⟨v, rfl, hH⟩
        obtain ⟨P1, p1, rfl, _, _⟩ := hH.reads 0 rfl
        have H7 := Aside0.mk (H6.out.app hH)
        clear hH H6
        go_wp2_with fail
        refine (decoded_any _ true B3 _ d3 eb3 HL3.out (H7.out.Cat 1 rfl) HG3.out.1 HG3.out.2).mono ?_
        rw [HD3.out]
        rintro e w8 ⟨v, rfl, hH⟩
        obtain ⟨P3, p3, rfl, _, _⟩ := hH.reads 0 rfl
        have H8 := Aside0.mk (H7.out.app hH)
        clear hH H7
        go_wp2_with fail
        refine (decoded_any _ true B2 _ d2 my HL2.out (H8.out.Cat 3 rfl) HG2.out.1 HG2.out.2).mono ?_
        rw [HD2.out]
        rintro e w9 ⟨v, rfl, hH⟩
        obtain ⟨P2, p2, rfl, _, _⟩ := hH.reads 0 rfl
        have H9 := Aside0.mk (H8.out.app hH)
        clear hH H8
        have q1 := H9.out.Cat 2 rfl
        have q2 := H9.out.C HC1.out
        go_wp2_with fail
        refine (same_any _ _ _ _ _ _ _ _ _ q1 q2).mono ?_
        rintro e w10 ⟨rfl, q, rfl⟩
        rw [decide_eq_true rfl]
        have h' := H9.out.drewN q
        have H10 := Aside0.mk h'
        clear h' q1 q2 H9
        have q1 := H10.out.Cat 0 rfl
        have q2 := H10.out.C HC2.out
        go_wp2_with fail
        refine (same_any _ _ _ _ _ _ _ _ _ q1 q2).mono ?_
        rintro e w11 ⟨rfl, q, rfl⟩
        rw [decide_eq_true rfl]
        have h' := H10.out.drewN q
        rw [World.drewN_drewN] at h'
        have H11 := Aside0.mk h'
        clear h' q1 q2 H10
        have q1 := H11.out.Cat 1 rfl
        have q2 := H11.out.C HC3.out
        go_wp2_with fail
        refine (same_any _ _ _ _ _ _ _ _ _ q1 q2).mono ?_
        rintro e w12 ⟨rfl, q, rfl⟩
        rw [decide_eq_true rfl]
        have h' := H11.out.drewN q
        rw [World.drewN_drewN] at h'
        have H12 := Aside0.mk h'
        clear h' q1 q2 H11
        go_wp2_with fail
        refine (partAwake_any _).mono ?_
        rintro e w13 ⟨rfl, hM⟩
        have HZ := Aside0.mk (H12.out.of_below hM.below)
        clear hM
        go_wp2
        go_ret
        exact ⟨rfl, HZ.out.below⟩
      | false =>
        go_wp2_with fail
        refine (segs_any _ D _ d ys (by omega) (H1.out.C HC2.out)).mono ?_
        rintro e w2 ⟨v2, rfl, hSg⟩
        obtain ⟨A2, n2, c2, rfl, hn2, hn2c, hb⟩ := hSg.len
        have H2 := Aside0.mk (H1.out.of_below hb)
        clear hSg hb H1
        by_cases h1s : 1 < n2
        · have h1i : (1 : Int) < (n2 : Int) := by omega
          clear hn2
          go_wp2_with fail
          refine (partAwake_any _).mono ?_
          rintro e w3 ⟨rfl, hM⟩
          have HZ := Aside0.mk (H2.out.of_below hM.below)
          clear hM
          go_wp2
          go_ret
          exact ⟨rfl, HZ.out.below⟩
        · have h1i : ¬ ((1 : Int) < (n2 : Int)) := by omega
          have hdot : (segsL ys).length ≤ 1 := by omega
          obtain ⟨my, hmy⟩ : ∃ my, my = ys := ⟨_, rfl⟩
          obtain ⟨jj, hjj⟩ : ∃ jj, jj = joined xs ys zs false := ⟨_, rfl⟩
          have HJ := Aside0.mk hjj
          have HSg : Aside0 (segsL jj = [eb1, ys, eb3]) := ⟨by rw [hjj, heb1, heb3]; exact joined_segs _ _ _ false (fun _ => hdot)⟩
          have HJl : Aside0 (jj.length ≤ 1000000) := ⟨by rw [hjj]; unfold joined sign; simp only [if_false, Bool.false_eq_true, List.length_append, List.length_singleton]; rw [← heb1, ← heb3]; omega⟩
          clear heb1 heb3 hmy hjj my hn2 h1s hdot
          go_wp2_with fail
          refine (own_any _ A _ c xs (by omega) (H2.out.C HC1.out)).mono ?_
          rintro e w3 ⟨v, rfl, hH⟩
          obtain ⟨Aa, ca, rfl, _, _⟩ := hH.reads 0 rfl
          have H3 := Aside0.mk (H2.out.app hH)
          clear hH H2
          go_wp2_with fail
          refine (own_any _ D _ d ys (by omega) (H3.out.C HC2.out)).mono ?_
          rintro e w4 ⟨v, rfl, hH⟩
          obtain ⟨Ab, cb, rfl, _, _⟩ := hH.reads 0 rfl
          have H4 := Aside0.mk (H3.out.app hH)
          clear hH H3
          go_wp2_with fail
          refine (own_any _ E _ f zs (by omega) (H4.out.C HC3.out)).mono ?_
          rintro e w5 ⟨v, rfl, hH⟩
          obtain ⟨As, cs, rfl, _, _⟩ := hH.reads 0 rfl
          have H5 := Aside0.mk (H4.out.app hH)
          clear hH H4
          go_wp2_with fail
          refine (implJoined_any _ Aa Ab As _ ca _ cb _ cs xs ys zs false (by omega) (by omega) (by omega) (H5.out.Cat 2 rfl) (H5.out.Cat 1 rfl) (H5.out.Cat 0 rfl)).mono ?_
          rw [← HJ.out]
          rintro e w6 ⟨v, rfl, hH⟩
          obtain ⟨Aj, cj, rfl, _, _⟩ := hH.reads 0 rfl
          have H6 := Aside0.mk ((H5.out.app hH).pick [0] (by decide) (L' := [.row kB 5 (.slice Aj jj.length cj) jj]) rfl)
          clear hH H5
          go_wp2_with fail
          refine (implSplit_any _ Aj _ cj jj t v (pw_cell_below H6.out.below HG.out) HJl.out (H6.out.Cat 0 rfl)).mono ?_
          rw [HSg.out]
          rintro e w7 ⟨u1, u2, u3, rfl, hH⟩
          obtain ⟨B3, d3, rfl, _, _⟩ := hH.reads 0 rfl
          obtain ⟨B2, d2, rfl, _, _⟩ := hH.reads 1 rfl
          obtain ⟨B1, d1, rfl, _, _⟩ := hH.reads 2 rfl
          have H7 := Aside0.mk ((H6.out.app hH).pick [0, 1, 2] (by decide) (L' := [.row kB 5 (.slice B3 eb3.length d3) eb3, .row kB 5 (.slice B2 ys.length d2) ys, .row kB 5 (.slice B1 eb1.length d1) eb1]) rfl)
          clear hH H6
          go_wp2_with fail
          refine (decoded_any _ true B1 _ d1 eb1 HL1.out (H7.out.Cat 2 rfl) HG1.out.1 HG1.out.2).mono ?_
          rw [HD1.out]
          rintro e w8 ⟨v, rfl, hH⟩
          obtain ⟨P1, p1, rfl, _, _⟩ := hH.reads 0 rfl
          have H8 := Aside0.mk (H7.out.app hH)
          clear hH H7
          go_wp2_with fail
          refine (decoded_any _ true B3 _ d3 eb3 HL3.out (H8.out.Cat 1 rfl) HG3.out.1 HG3.out.2).mono ?_
          rw [HD3.out]
          rintro e w9 ⟨v, rfl, hH⟩
          obtain ⟨P3, p3, rfl, _, _⟩ := hH.reads 0 rfl
          have H9 := Aside0.mk (H8.out.app hH)
          clear hH H8
          have q1 := H9.out.Cat 1 rfl
          have q2 := H9.out.C HC1.out
          go_wp2_with fail
          refine (same_any _ _ _ _ _ _ _ _ _ q1 q2).mono ?_
          rintro e w10 ⟨rfl, q, rfl⟩
          rw [decide_eq_true rfl]
          have h' := H9.out.drewN q
          have H10 := Aside0.mk h'
          clear h' q1 q2 H9
          have q1 := H10.out.Cat 3 rfl
          have q2 := H10.out.C HC2.out
          go_wp2_with fail
          refine (same_any _ _ _ _ _ _ _ _ _ q1 q2).mono ?_
          rintro e w11 ⟨rfl, q, rfl⟩
          rw [decide_eq_true rfl]
          have h' := H10.out.drewN q
          rw [World.drewN_drewN] at h'
          have H11 := Aside0.mk h'
          clear h' q1 q2 H10
          have q1 := H11.out.Cat 0 rfl
          have q2 := H11.out.C HC3.out
          go_wp2_with fail
          refine (same_any _ _ _ _ _ _ _ _ _ q1 q2).mono ?_
          rintro e w12 ⟨rfl, q, rfl⟩
          rw [decide_eq_true rfl]
          have h' := H11.out.drewN q
          rw [World.drewN_drewN] at h'
          have H12 := Aside0.mk h'
          clear h' q1 q2 H11
          go_wp2_with fail
          refine (partAwake_any _).mono ?_
          rintro e w13 ⟨rfl, hM⟩
          have HZ := Aside0.mk (H12.out.of_below hM.below)
          clear hM
          go_wp2
          go_ret
          exact ⟨rfl, HZ.out.below⟩
theorem partRoad_row (A : Option Addr) (n c : Nat) (xs : List UInt8) (D : Option Addr) (m d : Nat) (ys : List UInt8) (E : Option Addr) (k f : Nat) (zs : List UInt8) (enc : Bool) (w : World) (hC : kB.C w A n xs) (_ : AllOk AnyOk xs) (hn : xs.length * 1 ≤ 140737488351232 ∧ n ≤ c) (hD : kB.C w D m ys) (_ : AllOk AnyOk ys) (hm : ys.length * 1 ≤ 140737488351232 ∧ m ≤ d) (hE : kB.C w E k zs) (_ : AllOk AnyOk zs) (hk : zs.length * 1 ≤ 140737488351232 ∧ k ≤ f) (t : TypeId) (v : Value) (hG : w.cell? ⟨0, 0, none⟩ = some (.iface t v)) :
    Calls Tryd.prog 4 #[.slice A n c, .slice D m d, .slice E k f, .bool enc] w fun e w' => e = .returned (.bool true) ∧ Below w.heap.size w w' := partRoad_any w A n c xs D m d ys E k f zs enc t v hG hn.2 hm.2 hk.2 hC hD hE
end Go.Proofs.YtlncbbmmlhammaaDoor
