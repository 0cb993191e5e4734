/-
  jwsbb: SplitCompact, SplitCompactString: their contracts.
-/
import Derived.Test.YtdldblfklalaeaaGreatDoorCut
namespace Go.Proofs.YtdldblfklalaeaaGreatDoor
open Go.RowKit Go.Proofs.YtdldblfklalaeaaGreatDoorW.PrintWords Go.Lib
set_option linter.unusedVariables false
set_option linter.unusedSimpArgs false
theorem results_tmp4 {fn : Func} {t u v z : Tmp} (h : fn.results = #[.tmp t, .tmp u, .tmp v, .tmp z]) (tmps : Array Value) (P : Program) (w : World) :
    (results fn tmps).run P w = .ok (.tuple #[tmps.getD t undef, tmps.getD u undef, tmps.getD v undef, tmps.getD z undef]) w := by
  simp [results, h]
def segsL (xs : List UInt8) : List (List UInt8) := (segFold xs).2.reverse ++ [(segFold xs).1]
theorem seg_done : ∀ (xs : List UInt8) (cur : List UInt8) (D D2 : List (List UInt8)), xs.foldl segStep (cur, D ++ D2) = ((xs.foldl segStep (cur, D)).1, (xs.foldl segStep (cur, D)).2 ++ D2)
  | [], cur, D, D2 => rfl
  | x :: r, cur, D, D2 => by
    simp only [List.foldl_cons]
    unfold segStep
    by_cases h : x = 46
    · simp only [if_pos h]
      exact seg_done r [] (cur :: D) D2
    · simp only [if_neg h]
      exact seg_done r (cur ++ [x]) D D2
theorem seg_none : ∀ (xs : List UInt8) (cur : List UInt8) (D : List (List UInt8)), (∀ x ∈ xs, x ≠ 46) → xs.foldl segStep (cur, D) = (cur ++ xs, D)
  | [], cur, D, _ => by simp
  | x :: r, cur, D, h => by
    simp only [List.foldl_cons]
    rw [show segStep (cur, D) x = (cur ++ [x], D) by unfold segStep; rw [if_neg (h x (by simp))]]
    rw [seg_none r _ _ (fun y hy => h y (by simp [hy]))]
    simp
theorem segsL_none {xs : List UInt8} (h : dotAt xs = none) : segsL xs = [xs] := by
  unfold dotAt at h
  rw [List.findIdx?_eq_none_iff] at h
  have := seg_none xs [] [] (fun x hx => by simpa using h x hx)
  unfold segsL segFold
  rw [this]
  simp
theorem segsL_some {xs : List UInt8} {i : Nat} (h : dotAt xs = some i) : segsL xs = xs.take i :: segsL (xs.drop (i + 1)) := by
  unfold dotAt at h
  rw [List.findIdx?_eq_some_iff_getElem] at h
  obtain ⟨hi, h46, hno⟩ := h
  have hx : xs = xs.take i ++ 46 :: xs.drop (i + 1) := by
    conv => lhs; rw [← List.take_append_drop i xs, List.drop_eq_getElem_cons hi]
    have : xs[i] = 46 := by simpa using h46
    rw [this]
  have e1 : segFold xs = ((segFold (xs.drop (i + 1))).1, (segFold (xs.drop (i + 1))).2 ++ [xs.take i]) := by
    conv => lhs; rw [hx]
    unfold segFold
    rw [List.foldl_append, seg_none (xs.take i) [] [] (fun x hx => by
      obtain ⟨j, hj, rfl⟩ := List.getElem_of_mem hx
      rw [List.length_take] at hj
      rw [List.getElem_take]
      simpa using hno j (by omega)), List.foldl_cons]
    rw [show segStep ([] ++ xs.take i, []) 46 = ([], [] ++ [xs.take i]) by simp [segStep]]
    exact seg_done _ _ _ _
  unfold segsL
  rw [e1]
  simp
theorem C_takeA {w : World} {A : Option Addr} {n : Nat} {xs : List UInt8} (h : kB.C w A n xs) (k : Nat) (hk : k ≤ n) : kB.C w A k (xs.take k) := by
  obtain ⟨h1, h2, h3⟩ := h
  refine ⟨by rw [List.length_take]; omega, by omega, fun hn => ?_⟩
  obtain ⟨ad, e, hc⟩ := h3 (by omega)
  refine ⟨ad, e, fun j p hj => ?_⟩
  have hjk : j < k := by
    have := (List.getElem?_eq_some_iff.1 hj).1
    rw [List.length_take] at this
    omega
  rw [List.getElem?_take, if_pos hjk] at hj
  exact hc j p hj
/-- What SplitCompact gives: three readings, or an error. -/
def SplPost (w : World) (e : Ending) (w' : World) : List (List UInt8) → Prop
  | [x, y, z] => ∃ (A1 A2 A3 : Option Addr) (n1 c1 n2 c2 n3 c3 : Nat), e = .returned (.tuple #[.slice A1 n1 c1, .slice A2 n2 c2, .slice A3 n3 c3, .nilIface]) ∧ kB.C w' A1 n1 x ∧ kB.C w' A2 n2 y ∧ kB.C w' A3 n3 z ∧ Below w.heap.size w w'
  | _ => (∃ t v, e = .returned (.tuple #[.slice none 0 0, .slice none 0 0, .slice none 0 0, .iface t v])) ∧ Below w.heap.size w w'
theorem segsL_ne (xs : List UInt8) : 0 < (segsL xs).length := by unfold segsL; simp
set_option maxHeartbeats 2000000 in
theorem invErr_any (w : World) (t : TypeId) (v : Value) (hG : w.cell? ⟨3, 0, none⟩ = some (.iface t v)) :
    Calls Tryz.prog 107 #[] w fun e w' => e = .returned (.iface t v) ∧ w = w' := by
  go_enter Tryz.func107, Tryz.ntmps107
  go_wp2
  go_ret
  exact ⟨rfl, rfl⟩
set_option maxRecDepth 100000 in
set_option maxHeartbeats 4000000 in
theorem splitC_any (w : World) (A : Option Addr) (n c : Nat) (xs : List UInt8) (t : TypeId) (v : Value) (hG : w.cell? ⟨3, 0, none⟩ = some (.iface t v)) (hnc : n ≤ c) (hcm : c ≤ 9223372036854775807) (hn : n ≤ 1000000) (hC : kB.C w A n xs) :
    Calls Tryz.prog 95 #[.slice A n c] w fun e w' => SplPost w e w' (segsL xs) := by
  have hxl := hC.1
  obtain ⟨L, hL⟩ : ∃ L, L = segsL xs := ⟨_, rfl⟩
  rw [← hL]
  have HLL := Aside0.mk hL
  have HC := Aside0.mk hC
  have HG := Aside0.mk hG
  clear hL hC hG
  go_enter Tryz.func95, Tryz.ntmps95
  have H0 := Aside0.mk (Hold.start w)
  go_wp2_with fail
  refine (cut_any _ A n c xs hnc hcm hn HC.out).mono ?_
  cases h1 : dotAt xs with
  | none =>
    have HL1 := Aside0.mk (HLL.out.trans (segsL_none h1))
    clear h1
    rintro e w1 ⟨rfl, hb⟩
    have H1 := Aside0.mk (H0.out.of_below hb)
    clear hb
    go_wp2_with fail
    refine (invErr_any _ t v (pw_cell_below H1.out.below HG.out)).mono ?_
    rintro e w2 ⟨rfl, rfl⟩
    go_wp2
    rw [HL1.out]
    refine bodyPost_ret (results_tmp4 rfl _ _ _) rfl ?_
    exact ⟨⟨_, _, rfl⟩, H1.out.below⟩
  | some i =>
    have HL1 := Aside0.mk (HLL.out.trans (segsL_some h1))
    clear h1
    rintro e w1 ⟨⟨A2, c2, rfl, hC2, hn2, hc2⟩, hi, hb⟩
    have H1 := Aside0.mk (H0.out.of_below hb)
    have HC2 := Aside0.mk hC2
    clear hC2 hb
    go_wp2_with fail
    refine (cut_any _ A2 (n - i - 1) c2 _ hn2 (by omega) (by omega) (H1.out.C HC2.out)).mono ?_
    cases h2 : dotAt (xs.drop (i + 1)) with
    | none =>
      have HL2 := Aside0.mk (segsL_none h2)
      rw [HL2.out] at HL1
      clear h2 HL2
      rintro e w2 ⟨rfl, hb⟩
      have H2 := Aside0.mk (H1.out.of_below hb)
      clear hb
      go_wp2_with fail
      refine (invErr_any _ t v (pw_cell_below H2.out.below HG.out)).mono ?_
      rintro e w3 ⟨rfl, rfl⟩
      go_wp2
      rw [HL1.out]
      refine bodyPost_ret (results_tmp4 rfl _ _ _) rfl ?_
      exact ⟨⟨_, _, rfl⟩, H2.out.below⟩
    | some j =>
      have HL2 := Aside0.mk (segsL_some h2)
      clear h2
      have hdr : (xs.drop (i + 1)).length = n - i - 1 := HC2.out.1
      rintro e w2 ⟨⟨A3, c3, rfl, hC3, hn3, hc3⟩, hj, hb⟩
      have H2 := Aside0.mk (H1.out.of_below hb)
      have HC3 := Aside0.mk (Kd.C_below hC3 hb)
      clear hC3 hb hdr
      go_wp2_with fail
      refine (cut_any _ A3 (n - i - 1 - j - 1) c3 _ hn3 (by omega) (by omega) HC3.out).mono ?_
      cases h3 : dotAt ((xs.drop (i + 1)).drop (j + 1)) with
      | none =>
        have HL3 := Aside0.mk (segsL_none h3)
        rw [HL2.out, HL3.out] at HL1
        clear h3 HL2 HL3
        rintro e w3 ⟨rfl, hb⟩
        have H3 := Aside0.mk (H2.out.of_below hb)
        have HC4 := Aside0.mk (Kd.C_below HC3.out hb)
        clear hb
        go_wp2
        rw [HL1.out]
        refine bodyPost_ret (results_tmp4 rfl _ _ _) rfl ?_
        exact ⟨A, A2, A3, i, c, j, c2, _, c3, rfl, C_takeA (H3.out.C HC.out) i (by omega), C_takeA (H3.out.C HC2.out) j (by omega), HC4.out, H3.out.below⟩
      | some l =>
        have HL3 := Aside0.mk (segsL_some h3)
        have hlen : 4 ≤ L.length := by
          rw [HL1.out, HL2.out, HL3.out]
          have := segsL_ne ((((xs.drop (i + 1)).drop (j + 1))).drop (l + 1))
          simp only [List.length_cons]
          omega
        clear h3 HL1 HL2 HL3
        have HLn := Aside0.mk hlen
        clear hlen
        rintro e w3 ⟨⟨A4, c4, rfl, _, _, _⟩, _, hb⟩
        have H3 := Aside0.mk (H2.out.of_below hb)
        clear hb
        go_wp2_with fail
        refine (invErr_any _ t v (pw_cell_below H3.out.below HG.out)).mono ?_
        rintro e w4 ⟨rfl, rfl⟩
        go_wp2
        refine bodyPost_ret (results_tmp4 rfl _ _ _) rfl ?_
        have hl := HLn.out
        match L, hl with
        | a :: b :: c' :: d :: r, _ => exact ⟨⟨_, _, rfl⟩, H3.out.below⟩
end Go.Proofs.YtdldblfklalaeaaGreatDoor
