/-
  slices.Equal over truth values: its contract.
-/
import Derived.Test.YthmcelofclikbaaRows
import Derived.WalkKit
import Derived.WalkSpells
import Derived.WalkLawsBesides
import Derived.Deep.QuietTactic
import Derived.BigQuiet
import Derived.Test.YthmcelofclikbaaEqL
namespace Go.Proofs.Ythmcelofclikbaa
open Go.RowKit Go.Proofs.YthmcelofclikbaaW.PrintWords
set_option linter.unusedVariables false
set_option linter.unusedSimpArgs false

set_option maxHeartbeats 1000000 in
theorem equal_bool (w : World) (A1 A2 : Option Addr) (n1 c1 n2 c2 : Nat) (xs ys : List (Bool)) (h1 : (Kd.bool).C w A1 n1 xs) (h2 : (Kd.bool).C w A2 n2 ys) :
    Calls Try.prog 14 #[.slice A1 n1 c1, .slice A2 n2 c2] w fun e w' => e = .returned (.bool (decide (xs = ys))) ∧ ∃ n, w' = w.drewN n := by
  obtain rfl := h1.1
  obtain rfl := h2.1
  have hx : xs.length ≤ 9223372036854775807 := h1.2.1
  have hy : ys.length ≤ 9223372036854775807 := h2.2.1
  by_cases hl : xs.length = ys.length
  · have hne : ((xs.length : Int) != (ys.length : Int)) = false := by simp [hl]
    have HL := Aside0.mk hl
    clear hl
    go_enter Try.func14, Try.ntmps14
    go_wp2
    go_loopw [13] (fun i wr => ∃ k n : Nat, k ≤ xs.length ∧ i = .int .i64 k ∧ xs.take k = ys.take k ∧ wr = w.drewN n) (fun i _ => xs.length - (intOf i).toNat)
    case atStart => exact ⟨0, 0, Nat.zero_le _, rfl, rfl, rfl⟩
    case round =>
      obtain ⟨k, n, hk, rfl, he, rfl⟩ := hrel
      have HE := Aside0.mk he
      clear he
      by_cases hlt : k < xs.length
      · have hlt2 : k < ys.length := by have := HL.out; omega
        obtain ⟨a1, rfl, e1⟩ := C1_get h1 k hlt
        obtain ⟨a2, rfl, e2⟩ := C1_get h2 k hlt2
        clear h1 h2
        by_cases hd : xs[k] = ys[k]
        · have hb : (xs[k] != ys[k]) = false := by simp [hd]
          have hb2 : (!(xs[k] == ys[k])) = false := by simp [hd]
          have HD := Aside0.mk hd
          clear hd
          go_wp2
          go_quiet (fail)
          go_wp2
          go_roundw
          case rel => exact ⟨k + 1, _, hlt, by go_num, take_more hlt hlt2 HE.out HD.out, by first | rfl | exact World.drewN_drewN ..⟩
          case measure => simp [intOf]; omega
        · have hb : (xs[k] != ys[k]) = true := by simp [hd]
          have hb2 : (!(xs[k] == ys[k])) = true := by simp [hd]
          have HD := Aside0.mk (ne_of_at k hlt hlt2 hd)
          clear hd
          go_wp2
          go_quiet (fail)
          go_wp2
          go_ret
          exact ⟨by rw [decide_eq_false HD.out]; rfl, _, World.drewN_drewN ..⟩
      · obtain rfl : k = xs.length := by omega
        have HD := Aside0.mk (take_ne HL.out HE.out)
        go_wp2
        go_ret
        exact ⟨by simp [HD.out], _, rfl⟩
  · have hne : ((xs.length : Int) != (ys.length : Int)) = true := by simp; omega
    have HN := Aside0.mk (fun e : xs = ys => hl (by rw [e]))
    clear hl
    go_enter Try.func14, Try.ntmps14
    go_wp2
    go_ret
    exact ⟨by rw [decide_eq_false HN.out]; rfl, 0, rfl⟩

end Go.Proofs.Ythmcelofclikbaa
