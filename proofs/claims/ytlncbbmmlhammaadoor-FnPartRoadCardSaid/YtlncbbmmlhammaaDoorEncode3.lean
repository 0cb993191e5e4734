/-
  impl.Encoded and the like: their contracts.
-/
import Derived.Test.YtlncbbmmlhammaaDoorEncode2
namespace Go.Proofs.YtlncbbmmlhammaaDoor
open Go.RowKit Go.Proofs.YtlncbbmmlhammaaDoorW.PrintWords Go.Lib
set_option linter.unusedVariables false
set_option linter.unusedSimpArgs false
set_option maxHeartbeats 1000000 in
theorem encoded_any (w : World) (A : Option Addr) (n c : Nat) (xs : List UInt8) (hn : n ≤ 1000000000) (hC : kB.C w A n xs) :
    Calls Tryd.prog 14 #[.slice A n c] w fun e w' => ∃ v, e = .returned v ∧ Hold w w.heap.size w' [.row kB 5 v (b64 true xs)] := by
  obtain rfl := hC.1
  have HC := Aside0.mk hC
  clear hC
  go_enter Tryd.func14, Tryd.ntmps14
  go_wp2_with fail
  refine (bclone_any _ A _ c xs (by omega) HC.out).mono ?_
  rintro e w1 ⟨v, rfl, hH⟩
  obtain ⟨A1, c1, rfl, hc1, hC1⟩ := hH.reads 0 rfl
  have H1 := Aside0.mk hH
  have hform : ∃ b, 0 < xs.length → A1 = some ⟨b, 0, none⟩ := by
    rcases Nat.eq_zero_or_pos xs.length with h | h
    · exact ⟨0, fun h' => absurd h' (by omega)⟩
    · obtain ⟨b, cc, e, _⟩ := hH.form 0 rfl h
      injection e with e
      exact ⟨b, fun _ => e⟩
  obtain ⟨b, hb⟩ := hform
  have HB := Aside0.mk hb
  have HC1 := Aside0.mk hC1
  clear hH hb hC1
  go_wp2_with fail
  refine (encode64_any _ A1 _ c1 b 0 xs (by omega) HB.out hc1 HC1.out).mono ?_
  rintro e w2 ⟨v2, rfl, hH⟩
  have H2 := Aside0.mk ((H1.out.app hH).pick [0] (by decide) (L' := [.row kB 5 v2 (b64 true xs)]) rfl)
  clear hH
  go_wp2
  go_ret
  exact ⟨_, rfl, H2.out⟩
end Go.Proofs.YtlncbbmmlhammaaDoor
