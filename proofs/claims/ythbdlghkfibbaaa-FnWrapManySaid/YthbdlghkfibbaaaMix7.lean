/-
  spec.wrapBlock: its contract.
-/
import Derived.Test.YthbdlghkfibbaaaMix6
import Derived.Laws.Rows
namespace Go.Proofs.Ythbdlghkfibbaaa
open Go.RowKit Go.Proofs.YthbdlghkfibbaaaW.PrintWords Go.Lib
set_option linter.unusedVariables false
set_option linter.unusedSimpArgs false
set_option maxRecDepth 100000 in
set_option maxHeartbeats 4000000 in
theorem sblock_any (w : World) (l r : Nat) (hl : l < 18446744073709551616) (hr : r < 18446744073709551616) :
    Calls Try.prog 28 #[.int .u64 (l : Int), .int .u64 (r : Int)] w fun e w' => e = .returned (.agg ((beB l ++ beB r).map bV).toArray) ∧ Hold w w.heap.size w' [] := by
  have HL := Aside0.mk (beB_map l hl)
  have HR := Aside0.mk (beB_map r hr)
  clear hl hr
  go_enter Try.func28, Try.ntmps28
  go_wp2
  refine wp_loop_rounds 9 ?_
  rw [rounds_succ]
  go_wp2
  rw [rounds_succ]
  go_wp2
  rw [rounds_succ]
  go_wp2
  rw [rounds_succ]
  go_wp2
  rw [rounds_succ]
  go_wp2
  rw [rounds_succ]
  go_wp2
  rw [rounds_succ]
  go_wp2
  rw [rounds_succ]
  go_wp2
  rw [rounds_succ]
  go_wp2
  (try simp only [Exit.inBlock, Exit.then])
  have hb : ∀ cs A2, ((w.alloc (.cells cs 53)).alloc A2).heap[w.heap.size]? = some (.cells cs 53 (0, 0)) := fun cs A2 =>
    Hold.blk (((Hold.start w).alloc (.cells cs 53)).alloc_ A2) 0 rfl
  refine bodyPost_ret (results_cell_row rfl _ _ w.heap.size 53 _ (0, 0) _ rfl (hb _ _) Try.underlying53 rfl (by kernel_rfl)) rfl ?_
  refine ⟨?_, (((Hold.start w).alloc_ _).alloc_ _)⟩
  rw [List.map_append, HL.out, HR.out]
  rfl
end Go.Proofs.Ythbdlghkfibbaaa
