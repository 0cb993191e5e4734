/-
  laws.partAwake: its contract.
-/
import Derived.Test.YtdldblfklalaeaaGreatDoorSc
import Derived.Lib.SmallJoins
namespace Go.Proofs.YtdldblfklalaeaaGreatDoor
open Go.RowKit Go.Proofs.YtdldblfklalaeaaGreatDoorW.PrintWords Go.Lib
set_option linter.unusedVariables false
set_option linter.unusedSimpArgs false
theorem C_of_cells {w : World} {g : Nat} {xs : List UInt8} (hm : xs.length ≤ 9223372036854775807) (h : ∀ j, (hj : j < xs.length) → w.cell? ⟨g, j, none⟩ = some (bV xs[j])) : kB.C w (some ⟨g, 0, none⟩) xs.length xs := by
  refine ⟨rfl, hm, fun _ => ⟨_, rfl, fun j p hj => ?_⟩⟩
  obtain ⟨hjl, rfl⟩ := List.getElem?_eq_some_iff.1 hj
  refine ⟨[bV xs[j]], rfl, rfl, fun i u hu => ?_⟩
  cases i with
  | zero =>
    have hu' : bV xs[j] = u := by simpa using hu
    rw [← hu', Addr.add_mid]
    have e : 0 + (j * kB.sz + 0) = j := by show 0 + (j * 1 + 0) = j; omega
    rw [e]
    exact h j hjl
  | succ i => simp at hu
/-- A constant text's bytes. -/
theorem litM (w : World) (g : Nat) (hg : w.heap.size = g) (xs : List UInt8) (f : Nat × Nat) (hm : xs.length ≤ 9223372036854775807) : kB.C (w.alloc (.cells (xs.map bV).toArray 5 f)) (some ⟨g, 0, none⟩) xs.length xs := by
  subst hg
  refine C_of_cells hm fun j hj => ?_
  rw [World.cell?_alloc_mark]
  simp [List.getElem?_eq_getElem hj]
set_option maxRecDepth 100000 in
set_option maxHeartbeats 1000000 in
theorem partAwake_any (w : World) :
    Calls Tryz.prog 29 #[] w fun e w' => e = .returned (.bool true) ∧ Hold w w.heap.size w' [] := by
  have H0 := Aside0.mk ((Hold.start w).alloc_ (.cells (tsZ.map bV).toArray 5 (3, 4)))
  have HC0 := Aside0.mk (litM w _ rfl tsZ (3, 4) (by decide))
  have cv : (convert 30 30 (.slice (some ⟨w.heap.size, 0, none⟩) 3 3)).run Tryz.prog (w.alloc (.cells #[.int .u8 90, .int .u8 109, .int .u8 56] 5)) = .ok (.slice (some ⟨w.heap.size, 0, none⟩) 3 3) (w.alloc (.cells #[.int .u8 90, .int .u8 109, .int .u8 56] 5 (3, 4))) := Lib.run_convert_bytes_const w 30 5 #[.int .u8 90, .int .u8 109, .int .u8 56] 3 3 Tryz.underlying30 Tryz.underlying5
  go_enter Tryz.func29, Tryz.ntmps29
  go_wp2_with fail
  refine (decodedZ_any _ _ 3 HC0.out).mono ?_
  rintro e w1 ⟨v, rfl, hH⟩
  have H1 := Aside0.mk (H0.out.app hH)
  obtain ⟨A1, c1, hv, _, hC1⟩ := hH.reads 0 rfl
  have hv' : v = .slice A1 2 c1 := hv
  subst hv'
  clear hv
  have g1 : (convert 30 9 (.slice A1 2 c1)).run Tryz.prog w1 = .ok (.string ⟨#[102, 111]⟩) w1 := kB_string (P := Tryz.prog) (xs := bsZ) c1 Tryz.underlying30 Tryz.underlying5 Tryz.underlying9 hC1
  have H2 := Aside0.mk ((H1.out.tail).alloc_ (.cells (bsZ.map bV).toArray 5 (2, 3)))
  have HC1 := Aside0.mk (litM w1 _ rfl bsZ (2, 3) (by decide))
  have cv2 : (convert 30 30 (.slice (some ⟨w1.heap.size, 0, none⟩) 2 2)).run Tryz.prog (w1.alloc (.cells #[.int .u8 102, .int .u8 111] 5)) = .ok (.slice (some ⟨w1.heap.size, 0, none⟩) 2 2) (w1.alloc (.cells #[.int .u8 102, .int .u8 111] 5 (2, 3))) := Lib.run_convert_bytes_const w1 30 5 #[.int .u8 102, .int .u8 111] 2 2 Tryz.underlying30 Tryz.underlying5
  clear hH hC1 cv
  go_wp2_with fail
  refine (encoded_any _ _ 2 2 bsZ (by decide) HC1.out).mono ?_
  rintro e w2 ⟨v, rfl, hH⟩
  have H3 := Aside0.mk ((H2.out.app hH).tail)
  have hz : b64 true bsZ = tsZ := by decide +kernel
  rw [hz] at hH
  obtain ⟨A2, c2, hv, _, hC2⟩ := hH.reads 0 rfl
  have hv' : v = .slice A2 3 c2 := hv
  subst hv'
  clear hv
  have g2 : (convert 30 9 (.slice A2 3 c2)).run Tryz.prog w2 = .ok (.string ⟨#[90, 109, 56]⟩) w2 := kB_string (P := Tryz.prog) (xs := tsZ) c2 Tryz.underlying30 Tryz.underlying5 Tryz.underlying9 hC2
  clear hH hC2 hz
  go_wp2
  go_ret
  exact ⟨rfl, H3.out⟩
end Go.Proofs.YtdldblfklalaeaaGreatDoor
