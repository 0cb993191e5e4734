/-
  jwsbb.SplitCompactString; impl.SplitText: their contracts.
-/
import Derived.Test.YtlncbbmmlhammaaDoorSplitI
import Derived.Test.YtlncbbmmlhammaaDoorAwake2
import Derived.Lib.ConvBytes
namespace Go.Proofs.YtlncbbmmlhammaaDoor
open Go.RowKit Go.Proofs.YtlncbbmmlhammaaDoorW.PrintWords Go.Lib
set_option linter.unusedVariables false
set_option linter.unusedSimpArgs false
theorem bytesWorld_hold (w : World) (e : TypeId) (s : ByteArray) : Below w.heap.size w (Lib.bytesWorld w e s) :=
  (Below.refl w.heap.size w).grown (row := none) ⟨rfl, rfl, rfl, by rw [Lib.bytesWorld_size]; omega, fun k hk _ => Lib.bytesWorld_at_old w e s k hk⟩ (Nat.le_refl _) (fun k h => by cases h)
set_option maxRecDepth 100000 in
set_option maxHeartbeats 4000000 in
theorem splitCS_any (w : World) (xs : List UInt8) (t : TypeId) (v : Value) (hG : w.cell? ⟨0, 0, none⟩ = some (.iface t v)) (hn : xs.length ≤ 1000000) :
    Calls Tryd.prog 17 #[.string (bStr xs)] w fun e w' => SplPost w e w' (segsL xs) := by
  obtain ⟨L, hL⟩ : ∃ L, L = segsL xs := ⟨_, rfl⟩
  rw [← hL]
  have HLL := Aside0.mk hL
  have cv := Lib.run_convert_string_bytes (P := Tryd.prog) w 9 22 5 (bStr xs) Tryd.underlying9 Tryd.underlying22 Tryd.underlying5
  have hsz : (bStr xs).size = xs.length := rfl
  have hC : kB.C (Lib.bytesWorld w 5 (bStr xs)) (some ⟨w.heap.size, 0, none⟩) xs.length xs := C_of_cells (by omega) (fun j hj => by
    rw [Lib.bytesWorld_cell w _ (bStr xs) j (by rw [hsz]; exact hj)]
    show some (Value.int .u8 (((xs.toArray.toList.getD j 0)).toNat : Int)) = some (bV xs[j])
    rw [List.getD_eq_getElem?_getD]
    simp [List.getElem?_eq_getElem hj, bV])
  rw [hsz] at cv
  obtain ⟨W1, hW1⟩ : ∃ W1, W1 = Lib.bytesWorld w 5 (bStr xs) := ⟨_, rfl⟩
  obtain ⟨G, hGc⟩ : ∃ G, G = grownCap w xs.length 0 5 := ⟨_, rfl⟩
  have hb : Below w.heap.size w W1 := by rw [hW1]; exact bytesWorld_hold _ _ _
  have hGn : xs.length ≤ G := by rw [hGc]; exact grownCap_ge w _ _ _
  have hGm : G ≤ 9223372036854775807 := by
    have := grownCap_le_maxLen w xs.length 0 5 (by unfold maxLen; omega)
    rw [← hGc] at this
    unfold maxLen at this
    exact this
  rw [← hW1, ← hGc] at cv
  rw [← hW1] at hC
  obtain ⟨s, hs⟩ : ∃ s, s = bStr xs := ⟨_, rfl⟩
  rw [← hs] at cv ⊢
  have HC := Aside0.mk hC
  have HG := Aside0.mk hG
  have H1 := Aside0.mk ((Hold.start w).of_below hb)
  clear hL hC hG hW1 hGc hb hsz hs
  go_enter Tryd.func17, Tryd.ntmps17
  go_wp2_with fail
  refine (splitC_any _ _ _ G xs t v (pw_cell_below H1.out.below HG.out) hGn hGm hn HC.out).mono ?_
  rw [← HLL.out]
  rcases segs3 L with ⟨x, y, z, rfl⟩ | ⟨h1, h2, h3⟩
  · rintro e w2 ⟨B1, B2, B3, n1, d1, n2, d2, n3, d3, rfl, k1, k2, k3, hb⟩
    have H2 := Aside0.mk (H1.out.of_below hb)
    have K1 := Aside0.mk (And.intro k1 (And.intro k2 k3))
    clear k1 k2 k3 hb
    go_wp2
    refine bodyPost_ret (results_tmp4 rfl _ _ _) rfl ?_
    exact ⟨_, _, _, _, _, _, _, _, _, rfl, K1.out.1, K1.out.2.1, K1.out.2.2, H2.out.below⟩
  · have HP := Aside0.mk h1
    have HP3 := Aside0.mk h3
    clear h1 h2 h3
    intro e w2 hp
    obtain ⟨⟨t2, v2, rfl⟩, hb⟩ := HP.out _ _ _ hp
    have H2 := Aside0.mk (H1.out.of_below hb)
    clear hp hb
    go_wp2
    refine bodyPost_ret (results_tmp4 rfl _ _ _) rfl ?_
    have h3 := HP3.out
    match L, h3 with
    | [], _ => exact ⟨⟨_, _, rfl⟩, H2.out.below⟩
    | [a], _ => exact ⟨⟨_, _, rfl⟩, H2.out.below⟩
    | [a, b], _ => exact ⟨⟨_, _, rfl⟩, H2.out.below⟩
    | [a, b, c], h => exact absurd rfl h
    | a :: b :: c :: d :: r, _ => exact ⟨⟨_, _, rfl⟩, H2.out.below⟩
set_option maxRecDepth 100000 in
set_option maxHeartbeats 4000000 in
theorem splitText_any (w : World) (xs : List UInt8) (t : TypeId) (v : Value) (hG : w.cell? ⟨0, 0, none⟩ = some (.iface t v)) (hn : xs.length ≤ 1000000) :
    Calls Tryd.prog 9 #[.string (bStr xs)] w fun e w' => ISplPost w e w' (segsL xs) := by
  obtain ⟨L, hL⟩ : ∃ L, L = segsL xs := ⟨_, rfl⟩
  rw [← hL]
  have HLL := Aside0.mk hL
  have HG := Aside0.mk hG
  obtain ⟨s, hs⟩ : ∃ s, s = bStr xs := ⟨_, rfl⟩
  rw [← hs]
  have HS := Aside0.mk hs
  have HN := Aside0.mk hn
  clear hL hG hs
  have H0 := Aside0.mk (Hold.start w)
  go_enter Tryd.func9, Tryd.ntmps9
  go_wp2_with fail
  rw [HS.out]
  refine (splitCS_any _ xs t v HG.out hn).mono ?_
  rw [← HLL.out]
  rcases segs3 L with ⟨x, y, z, rfl⟩ | ⟨h1, h2, _⟩
  · have hsl := segLens HLL.out.symm
    have HSl := Aside0.mk hsl
    clear hsl
    rintro e w2 ⟨B1, B2, B3, n1, d1, n2, d2, n3, d3, rfl, k1, k2, k3, hb⟩
    have H2 := Aside0.mk (H0.out.of_below hb)
    have hl1 := k1.1
    have hl2 := k2.1
    have hl3 := k3.1
    have K1 := Aside0.mk k1
    have K2 := Aside0.mk k2
    have K3 := Aside0.mk k3
    have HLs := Aside0.mk (And.intro hl1 (And.intro hl2 hl3))
    clear k1 k2 k3 hb hl1 hl2 hl3
    have hN : n1 ≤ 1000000 ∧ n2 ≤ 1000000 ∧ n3 ≤ 1000000 := by
      obtain ⟨a1, a2, a3⟩ := HLs.out
      obtain ⟨b1, b2, b3⟩ := HSl.out
      omega
    obtain ⟨hN1, hN2, hN3⟩ := hN
    go_wp2_with fail
    refine (bclone_any _ B1 n1 d1 x (by omega) K1.out).mono ?_
    rintro e w3 ⟨u1, rfl, hH⟩
    have K2' := Aside0.mk (Kd.C_below K2.out hH.below)
    have K3' := Aside0.mk (Kd.C_below K3.out hH.below)
    have H3 := Aside0.mk (H2.out.app hH)
    clear hH K2 K3
    go_wp2_with fail
    refine (bclone_any _ B2 n2 d2 y (by omega) K2'.out).mono ?_
    rintro e w4 ⟨u2, rfl, hH⟩
    have K3 := Aside0.mk (Kd.C_below K3'.out hH.below)
    have H4 := Aside0.mk (H3.out.app hH)
    clear hH K3' K2'
    go_wp2_with fail
    refine (bclone_any _ B3 n3 d3 z (by omega) K3.out).mono ?_
    rintro e w5 ⟨u3, rfl, hH⟩
    have H5 := Aside0.mk (H4.out.app hH)
    clear hH
    go_wp2
    refine bodyPost_ret (results_tmp4 rfl _ _ _) rfl ?_
    exact ⟨_, _, _, rfl, H5.out⟩
  · have HP := Aside0.mk h1
    have HP2 := Aside0.mk h2
    clear h1 h2
    intro e w2 hp
    obtain ⟨⟨t2, v2, rfl⟩, hb⟩ := HP.out _ _ _ hp
    have H2 := Aside0.mk (H0.out.of_below hb)
    clear hp hb
    go_wp2
    refine bodyPost_ret (results_tmp4 rfl _ _ _) rfl ?_
    exact HP2.out _ _ _ ⟨rfl, H2.out⟩
end Go.Proofs.YtlncbbmmlhammaaDoor
