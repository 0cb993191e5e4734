/-
  laws.partAwake: Decode of its fixed text, Encode of its fixed bytes. (Under way.)
-/
import Derived.Test.YtlncbbmmlhammaaDoorDec3
namespace Go.Proofs.YtlncbbmmlhammaaDoor
open Go.RowKit Go.Proofs.YtlncbbmmlhammaaDoorW.PrintWords Go.Lib
set_option linter.unusedVariables false
set_option linter.unusedSimpArgs false
def tsZ : List UInt8 := [90, 109, 56]
def bsZ : List UInt8 := [102, 111]
set_option maxRecDepth 100000 in
set_option maxHeartbeats 2000000 in
theorem defDecZ_any (w : World) (b o c : Nat) (hc : 3 ≤ c) (hC : kB.C w (some ⟨b, o, none⟩) 3 tsZ) :
    Calls Tryd.prog 58 #[.agg #[], .slice (some ⟨b, o, none⟩) 3 c] w fun e w' => ∃ v, e = .returned (.tuple #[v, .nilIface]) ∧ Hold w w.heap.size w' [.row kB 5 v bsZ] := by
  have HC := Aside0.mk hC
  have H0 := Aside0.mk ((Hold.start w).alloc_ (.cells #[] 64))
  have hg : guessOf tsZ = 4 := by decide +kernel
  clear hC
  go_enter Tryd.func58, Tryd.ntmps58
  go_wp2_with fail
  refine (guess_any _ _ 3 c tsZ hc (H0.out.C HC.out)).mono ?_
  rw [hg]
  rintro e w1 ⟨rfl, hH⟩
  have H1 := Aside0.mk (H0.out.of_below hH.below)
  clear hH hg
  go_wp2_with fail
  refine (rawURL_any _).mono ?_
  rintro e w2 ⟨g, rfl, hH⟩
  have H2 := Aside0.mk (H1.out.app hH)
  clear hH
  go_wp2_with fail
  refine (decodedLenM_any (L := []) _ true (-1) g 3 (by decide) H2.out).mono ?_
  rintro e w3 ⟨rfl, rfl⟩
  go_upto_region 13 with ((with_reducible refine at_dst (N := 29) rfl ?_); refine Hold.make (enc := bV) (h1 := fun _ => rfl) H2.out 5 rfl rfl 22 (.tmp 28) (.tmp 28) rfl ((2 : Int)) rfl rfl Tryd.underlying22 (0 : UInt8) 1 infoB rfl (by omega) (by decide) (by decide) ?_; intro v_ _ H3'; have H3 := Aside0.mk H3'; clear H3' H2)
  have H4 : Hold w w.heap.size _ [.row kB 5 v_ (List.replicate 2 0), .blk g (.cells (encX true (-1)) 70)] := H3.out
  obtain ⟨gd, cd, cs, rfl, hmc, hcm, hcs, _, hB⟩ := H4.toBlk 0 rfl (by decide)
  have HB := Aside0.mk (Hold.swap hB)
  have hne : g ≠ gd := HB.out.blk_ne 0 1 rfl rfl (by decide)
  have hmc' : 2 ≤ cd := hmc
  have hfit : 2 ≤ cs.size := by omega
  clear hB H4 hmc
  go_wp2_with fail
  refine (dec3_any (L := []) _ true g gd b o c cd 5 tsZ cs hfit hne HB.out (HB.out.C HC.out) 90 109 56 rfl rfl rfl (by decide +kernel) (by decide +kernel) (by decide +kernel)).mono ?_
  rintro e w4 ⟨rfl, cs', hW, hH⟩
  have hbs : [byA (dX true 90) (dX true 109), byB (dX true 109) (dX true 56)] = bsZ := by decide +kernel
  rw [hbs] at hW
  have h := hH.blkRow (enc := bV) (h1 := fun _ => rfl) 1 rfl (n := 2) (cap := cd) (xs := bsZ) (by rw [hW.size]; exact hcs) hmc' hcm (by
    have := hW.pre
    simpa [bsZ] using this) rfl
  have HH := Aside0.mk (h.pick [1] (by decide) (L' := [.row kB 5 (.slice (some ⟨gd, 0, none⟩) 2 cd) bsZ]) rfl)
  clear hW hH h hbs
  go_wp2
  go_ret2
  exact ⟨_, rfl, HH.out⟩
theorem getDec_any (w : World) : Calls Tryd.prog 26 #[] w fun e w' => e = .returned (.iface 64 (.agg #[])) ∧ w = w' := by
  go_enter Tryd.func26, Tryd.ntmps26
  go_wp2
  go_ret
  exact ⟨rfl, rfl⟩
set_option maxHeartbeats 1000000 in
theorem dec64Z_any (w : World) (b o c : Nat) (hc : 3 ≤ c) (hC : kB.C w (some ⟨b, o, none⟩) 3 tsZ) :
    Calls Tryd.prog 20 #[.slice (some ⟨b, o, none⟩) 3 c] w fun e w' => ∃ v, e = .returned (.tuple #[v, .nilIface]) ∧ Hold w w.heap.size w' [.row kB 5 v bsZ] := by
  go_enter Tryd.func20, Tryd.ntmps20
  go_wp2_with fail
  refine (getDec_any _).mono ?_
  rintro e w1 ⟨rfl, rfl⟩
  go_wp2_with fail
  refine (defDecZ_any _ b o c hc hC).mono ?_
  rintro e w2 ⟨v, rfl, hH⟩
  have HH := Aside0.mk hH
  clear hH hC
  go_wp2
  go_ret2
  exact ⟨_, rfl, HH.out⟩
set_option maxHeartbeats 1000000 in
theorem decodedZ_any (w : World) (A : Option Addr) (c : Nat) (hC : kB.C w A 3 tsZ) :
    Calls Tryd.prog 13 #[.slice A 3 c] w fun e w' => ∃ v, e = .returned (.tuple #[v, .bool true]) ∧ Hold w w.heap.size w' [.row kB 5 v bsZ] := by
  have HC := Aside0.mk hC
  clear hC
  go_enter Tryd.func13, Tryd.ntmps13
  go_wp2_with fail
  refine (bclone_any _ A _ c tsZ (by decide) HC.out).mono ?_
  rintro e w1 ⟨v, rfl, hH⟩
  obtain ⟨b, c1, A1, rfl, hb, hc1, hC1⟩ := hH.clone
  obtain rfl := hb (by decide)
  have H1 := Aside0.mk hH
  have HC1 : Aside0 (kB.C w1 (some ⟨b, 0, none⟩) 3 tsZ) := ⟨hC1⟩
  have hc1' : 3 ≤ c1 := hc1
  clear hH hb hC1 hc1
  go_wp2_with fail
  refine (dec64Z_any _ b 0 c1 hc1' HC1.out).mono ?_
  rintro e w2 ⟨v, rfl, hH⟩
  have H2 := Aside0.mk ((H1.out.app hH).pick [0] (by decide) (L' := [.row kB 5 v bsZ]) rfl)
  clear hH
  go_wp2
  go_ret2
  exact ⟨_, rfl, H2.out⟩
end Go.Proofs.YtlncbbmmlhammaaDoor
