/-
  bytes.Clone: a copy, or nil.
-/
import Derived.Test.YthbdlghkfibbaaaOwn
namespace Go.Proofs.Ythbdlghkfibbaaa
open Go.RowKit Go.Proofs.YthbdlghkfibbaaaW.PrintWords
set_option linter.unusedVariables false
set_option linter.unusedSimpArgs false
set_option maxHeartbeats 1000000 in
theorem bclone_any (w : World) (A : Option Addr) (n c : Nat) (xs : List UInt8) (hn : n ≤ 140737488355328) (hC : kB.C w A n xs) :
    Calls Try.prog 23 #[.slice A n c] w fun e w' => ∃ v, e = .returned v ∧ Hold w w.heap.size w' [.row kB 5 v xs] := by
  cases A with
  | none =>
    have hx : xs = [] := by
      rcases Nat.eq_zero_or_pos n with h | h
      · exact List.eq_nil_of_length_eq_zero (hC.1.trans h)
      · obtain ⟨ad, e, _⟩ := hC.2.2 h
        cases e
    have hnil0 := fun W : World => Lib.run_eql_slice_nil (P := Try.prog) W 23 5 none n c 0 0 Try.underlying23
    have HX := Aside0.mk hx
    clear hx hC
    go_enter Try.func23, Try.ntmps23
    go_wp2
    go_ret
    rw [HX.out]
    exact ⟨_, rfl, (Hold.start w).nil _ _⟩
  | some ad =>
    have hnil := fun W : World => Lib.run_eql_slice_nil (P := Try.prog) W 23 5 (some ad) n c 0 0 Try.underlying23
    have H0 := Aside0.mk (emptyRow w)
    have HC := Aside0.mk hC
    have Hl : Aside0 ((([] : List UInt8).length + n) * 1 ≤ 140737488355328) := ⟨by simp; omega⟩
    clear hC
    go_enter Try.func23, Try.ntmps23
    go_wp2_with ((with_reducible refine at_bi (b := .append) (xs := #[.tmp 5, .tmp 6]) rfl ?_); at_builtin; refine Hold.appendRow 0 H0.out rfl rfl (.tmp 5) (.tmp 6) 23 (.int .u8 0) 1 rfl Try.underlying23 info5 rfl (by omega) (some ad) (n) (c) rfl rfl (Kd.C_below HC.out H0.out.below) Hl.out ?_; intro _ _ H1'; have H1 := Aside0.mk H1'; clear H1' H0)
    go_ret
    exact ⟨_, rfl, H1.out⟩
end Go.Proofs.Ythbdlghkfibbaaa
