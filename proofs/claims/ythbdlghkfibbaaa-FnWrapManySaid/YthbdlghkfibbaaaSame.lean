/-
  spec.PartSame: whether bytes are equal.
-/
import Derived.Test.YthbdlghkfibbaaaOwn
namespace Go.Proofs.Ythbdlghkfibbaaa
open Go.RowKit Go.Proofs.YthbdlghkfibbaaaW.PrintWords
set_option linter.unusedVariables false
set_option linter.unusedSimpArgs false
set_option maxHeartbeats 1000000 in
theorem same_any (w : World) (A1 A2 : Option Addr) (n1 c1 n2 c2 : Nat) (xs ys : List UInt8) (h1 : kB.C w A1 n1 xs) (h2 : kB.C w A2 n2 ys) :
    Calls Try.prog 13 #[.slice A1 n1 c1, .slice A2 n2 c2] w fun e w' => e = .returned (.bool (decide (xs = ys))) ∧ ∃ n, w' = w.drewN n := by
  have g1 := kB_string (P := Try.prog) c1 Try.underlying23 Try.underlying5 Try.underlying9 h1
  have g2 := kB_string (P := Try.prog) c2 Try.underlying23 Try.underlying5 Try.underlying9 h2
  clear h1 h2
  have he := bStr_beq xs ys
  generalize bStr xs = s1 at *
  generalize bStr ys = s2 at *
  have HE := Aside0.mk he
  clear he
  go_enter Try.func13, Try.ntmps13
  go_wp2
  go_ret
  exact ⟨by rw [← HE.out]; rfl, 0, rfl⟩
end Go.Proofs.Ythbdlghkfibbaaa
