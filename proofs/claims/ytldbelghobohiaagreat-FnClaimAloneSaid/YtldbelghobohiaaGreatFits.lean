/-
  laws.zzFits5, laws.zzFits4: their contracts.
-/
import Derived.Test.YtldbelghobohiaaGreatFg
namespace Go.Proofs.YtldbelghobohiaaGreat
open Go.RowKit Go.Proofs.YtldbelghobohiaaGreatW.PrintWords Go.ChangeShapes Go.WideShapes
set_option linter.unusedVariables false
set_option linter.unusedSimpArgs false
set_option maxRecDepth 100000
set_option maxHeartbeats 2000000 in
theorem fits5_any (w : World) (x : Fg) (hL : LstOk w x) :
    Calls Tryz.prog 13 #[.agg #[.string x.1.1, .int .i64 x.1.2.1, .string x.1.2.2.1, .bool x.1.2.2.2.1, .int .i32 x.1.2.2.2.2.1, .slice x.2.1 x.2.2.1 x.2.2.2]] w fun e w' => ∃ b, e = .returned (.bool b) ∧ Hold w w.heap.size w' [] := by
  have hu := Tryz.underlying28
  have hu2 := Tryz.underlying30
  have H0 := Aside0.mk ((Hold.start w).alloc_ (.cells #[.string x.1.1, .int .i64 x.1.2.1, .string x.1.2.2.1, .bool x.1.2.2.2.1, .int .i32 x.1.2.2.2.2.1, .slice x.2.1 x.2.2.1 x.2.2.2] 30))
  have HL := Aside0.mk (hL.below H0.out.below)
  clear hL
  by_cases h1 : 2147483647 < x.1.1.size
  · go_enter Tryz.func13, Tryz.ntmps13
    go_wp2_with fail
    go_ret
    exact ⟨_, rfl, H0.out⟩
  · have h2 : x.1.1.size ≤ 2147483647 := by omega
    go_enter Tryz.func13, Tryz.ntmps13
    go_wp2_with fail
    refine (fits1_any _ x.1.2 (.slice x.2.1 x.2.2.1 x.2.2.2) HL.out.out).mono ?_
    rintro e w1 ⟨rfl, hH⟩
    have H1 := Aside0.mk (H0.out.of_below hH.below)
    clear hH
    cases hb : fits1 x.1.2 with
    | true =>
      clear hb
      go_wp2
      go_ret
      exact ⟨_, rfl, H1.out⟩
    | false =>
      clear hb
      go_wp2
      go_ret
      exact ⟨_, rfl, H1.out⟩
set_option maxHeartbeats 2000000 in
theorem fits4_any (w : World) (A : Option Addr) (n c : Nat) (gs : List Fg) (hC : kFg.C w A n gs) (hL : AllLst w gs) :
    Calls Tryz.prog 4 #[.slice A n c] w fun e w' => ∃ b, e = .returned (.bool b) ∧ (b = true → n ≤ 2147483647) ∧ Hold w w.heap.size w' [] := by
  obtain rfl := hC.1
  have hx : gs.length ≤ 9223372036854775807 := hC.2.1
  have hu := Tryz.underlying28
  have hu2 := Tryz.underlying30
  by_cases hl : 2147483647 < gs.length
  · clear hC
    go_enter Tryz.func4, Tryz.ntmps4
    go_wp2
    go_ret
    exact ⟨false, rfl, (fun h => by cases h), Hold.start w⟩
  · have hl' : gs.length ≤ 2147483647 := by omega
    have HC := Aside0.mk hC
    have HL := Aside0.mk hL
    clear hC hL
    go_enter Tryz.func4, Tryz.ntmps4
    have hd0 : decide ((2147483647 : Int) < (gs.length : Int)) = false := by rw [decide_eq_false_iff_not]; omega
    go_wp2
    clear hd0
    go_loopw [10] (fun i wr => ∃ k : Nat, k ≤ gs.length ∧ i = .int .i64 k ∧ Hold w w.heap.size wr []) (fun i _ => gs.length - (intOf i).toNat)
    case atStart => exact ⟨0, Nat.zero_le _, rfl, Hold.start w⟩
    case round =>
      obtain ⟨k, hk, rfl, hR⟩ := hrel
      have HR := Aside0.mk hR
      clear hR
      by_cases hlt : k < gs.length
      · obtain ⟨ad, rfl, e0, e1, e2, e3, e4, e5⟩ := CG_get (HR.out.C HC.out) k hlt
        have HX : Aside0 (LstOk w gs[k]) := ⟨HL.out.out _ (List.getElem_mem hlt)⟩
        obtain ⟨x, hx2⟩ : ∃ x, x = gs[k] := ⟨_, rfl⟩
        rw [← hx2] at e0 e1 e2 e3 e4 e5 HX
        clear hx2
        have HB := Aside0.mk (HR.out.alloc_ (.cells #[.string x.1.1, .int .i64 x.1.2.1, .string x.1.2.2.1, .bool x.1.2.2.2.1, .int .i32 x.1.2.2.2.2.1, .slice x.2.1 x.2.2.1 x.2.2.2] 30))
        go_wp2_with fail
        refine (fits5_any _ x (HX.out.below HB.out.below)).mono ?_
        rintro e w2 ⟨b, rfl, hH⟩
        have HN := Aside0.mk (HB.out.of_below hH.below)
        clear hH HB
        cases b with
        | true =>
          go_wp2
          go_roundw
          case rel => exact ⟨k + 1, hlt, by go_num, HN.out⟩
          case measure => simp [intOf]; omega
        | false =>
          go_wp2
          go_ret
          exact ⟨false, rfl, (fun h => by cases h), HN.out⟩
      · go_wp2
        go_ret
        exact ⟨true, rfl, (fun _ => hl'), HR.out⟩
end Go.Proofs.YtldbelghobohiaaGreat
