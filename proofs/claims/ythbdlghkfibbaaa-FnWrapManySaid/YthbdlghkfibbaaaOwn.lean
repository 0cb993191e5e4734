/-
  laws.partOwn: a copy.
-/
import Derived.Test.YthbdlghkfibbaaaRows
import Derived.WalkKit
import Derived.WalkSpells
import Derived.WalkLawsBesides
import Derived.Test.YthbdlghkfibbaaaB
namespace Go.Proofs.Ythbdlghkfibbaaa
open Go.RowKit Go.Proofs.YthbdlghkfibbaaaW.PrintWords
set_option linter.unusedVariables false
set_option linter.unusedSimpArgs false
theorem info5 : (Try.prog.info? 5).map (fun i => (i.zero, i.size, i.bytes)) = some (some (.int .u8 0), 1, 1) := by kernel_rfl
theorem infoB : (Try.prog.info? 5).map (fun i => (i.zero, i.size, i.bytes)) = some (some (bV 0), 1, 1) := info5
/-- An empty literal, as a row. -/
theorem emptyRow (w : World) : Hold w w.heap.size (w.alloc (.cells #[] 5)) [.row kB 5 (.slice (some ⟨w.heap.size, 0, none⟩) 0 0) []] :=
  ((Hold.start w).alloc (.cells #[] 5)).toRow 0 (d := kB) (n := 0) (c := 0) (xs := []) rfl (Reps.none _ _) rfl (Nat.le_refl _) (Nat.zero_le _) rfl
set_option maxHeartbeats 1000000 in
theorem own_any (w : World) (A : Option Addr) (n c : Nat) (xs : List UInt8) (hn : n ≤ 140737488355328) (hC : kB.C w A n xs) :
    Calls Try.prog 12 #[.slice A n c] w fun e w' => ∃ v, e = .returned v ∧ Hold w w.heap.size w' [.row kB 5 v xs] := by
  have H0 := Aside0.mk (emptyRow w)
  have HC := Aside0.mk hC
  have Hl : Aside0 ((([] : List UInt8).length + n) * 1 ≤ 140737488355328) := ⟨by simp; omega⟩
  clear hC
  go_enter Try.func12, Try.ntmps12
  go_wp2_with ((with_reducible refine at_bi (b := .append) (xs := #[.tmp 3, .tmp 4]) rfl ?_); at_builtin; refine Hold.appendRow 0 H0.out rfl rfl (.tmp 3) (.tmp 4) 23 (.int .u8 0) 1 rfl Try.underlying23 info5 rfl (by omega) (A) (n) (c) rfl rfl (Kd.C_below HC.out H0.out.below) Hl.out ?_; intro _ _ H1'; have H1 := Aside0.mk H1'; clear H1' H0)
  go_ret
  exact ⟨_, rfl, H1.out⟩
end Go.Proofs.Ythbdlghkfibbaaa
