/-
  laws.keyHeadLive: its contract. Printed by kjgen.py.
-/
import Derived.Test.YtgldcjmdjhghpaaGreatDoorKi
import Derived.Test.YtgldcjmdjhghpaaGreatDoorQm
namespace Go.Proofs.YtgldcjmdjhghpaaGreatDoor
open Go.RowKit Go.Proofs.YtgldcjmdjhghpaaGreatDoorW.PrintWords Go.ChangeShapes Go.WideShapes
set_option linter.unusedVariables false
set_option linter.unusedSimpArgs false
set_option maxRecDepth 100000
theorem live_kty : pTop ([123, 34, 107, 116, 121, 34, 58, 34, 111, 99, 116, 34, 125] : Bs) = some (.obj [([107, 116, 121], .str [111, 99, 116])]) := one_field (k := [107, 116, 121]) (raw := [111, 99, 116]) (plain_all [107, 116, 121] (by decide)) (plain_all [111, 99, 116] (by decide))
set_option maxHeartbeats 2000000 in
theorem keyHeadLive_any (w : World) : Calls Tryz.prog 6 #[] w fun e w' => e = .returned (.bool true) ∧ Below w.heap.size w w' := by
  have cvA : (convert 30 30 (.slice (some ⟨w.heap.size, 0, none⟩) 13 13)).run Tryz.prog (w.alloc (.cells #[.int .u8 123, .int .u8 34, .int .u8 107, .int .u8 116, .int .u8 121, .int .u8 34, .int .u8 58, .int .u8 34, .int .u8 111, .int .u8 99, .int .u8 116, .int .u8 34, .int .u8 125] 5)) = .ok (.slice (some ⟨w.heap.size, 0, none⟩) 13 13) (w.alloc (.cells #[.int .u8 123, .int .u8 34, .int .u8 107, .int .u8 116, .int .u8 121, .int .u8 34, .int .u8 58, .int .u8 34, .int .u8 111, .int .u8 99, .int .u8 116, .int .u8 34, .int .u8 125] 5 (13, 14))) := Lib.run_convert_bytes_const w 30 5 #[.int .u8 123, .int .u8 34, .int .u8 107, .int .u8 116, .int .u8 121, .int .u8 34, .int .u8 58, .int .u8 34, .int .u8 111, .int .u8 99, .int .u8 116, .int .u8 34, .int .u8 125] 13 13 Tryz.underlying30 Tryz.underlying5
  have hb0 : Below w.heap.size w (w.alloc (.cells #[.int .u8 123, .int .u8 34, .int .u8 107, .int .u8 116, .int .u8 121, .int .u8 34, .int .u8 58, .int .u8 34, .int .u8 111, .int .u8 99, .int .u8 116, .int .u8 34, .int .u8 125] 5 (13, 14))) := (Below.refl _ _).alloc (Nat.le_refl _) _
  have HS := Aside0.mk (headKeyBytes_any ([123, 34, 107, 116, 121, 34, 58, 34, 111, 99, 116, 34, 125] : Bs) [107, 116, 121] (w.alloc (.cells #[.int .u8 123, .int .u8 34, .int .u8 107, .int .u8 116, .int .u8 121, .int .u8 34, .int .u8 58, .int .u8 34, .int .u8 111, .int .u8 99, .int .u8 116, .int .u8 34, .int .u8 125] 5 (13, 14))) 13 13 _ (by decide) (by decide) (litC w _ _ ([123, 34, 107, 116, 121, 34, 58, 34, 111, 99, 116, 34, 125] : Bs) _ rfl (by decide)) (by rw [live_kty]; exact FitO.one ⟨(plain_all [107, 116, 121] (by decide)).well, by decide⟩ ⟨(plain_all [111, 99, 116] (by decide)).well, by decide⟩))
  have hst : strT (pTop ([123, 34, 107, 116, 121, 34, 58, 34, 111, 99, 116, 34, 125] : Bs)) [107, 116, 121] = some [111, 99, 116] := by
    unfold strT
    rw [live_kty, tGet_one (plain_all [107, 116, 121] (by decide))]
    exact congrArg some (plain_all [111, 99, 116] (by decide)).unesc
  rw [hst] at HS
  have HB0 := Aside0.mk hb0
  clear hb0 hst
  go_enter Tryz.func6, Tryz.ntmps6
  go_wp2_with fail
  refine HS.out.mono ?_
  rintro e w1 ⟨A2, n2, c2, rfl, hn2, hC2, hb⟩
  have hgk := kB_string (P := Tryz.prog) c2 Tryz.underlying30 Tryz.underlying5 Tryz.underlying9 hC2
  have HB := Aside0.mk (HB0.out.trans (hb.mono HB0.out.size))
  have hq : (bStr ([111, 99, 116] : Bs)).toList == [111, 99, 116] := by rw [bStr_toList]; rfl
  rw [Option.getD_some] at hgk
  clear hb cvA hC2
  go_wp2
  go_ret
  exact ⟨rfl, HB.out⟩
end Go.Proofs.YtgldcjmdjhghpaaGreatDoor
