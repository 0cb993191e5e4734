/-
  impl.mixedBlock: its contract.
-/
import Derived.Test.YthbdlghkfibbaaaMix2
import Derived.Laws.Rows
namespace Go.Proofs.Ythbdlghkfibbaaa
open Go.RowKit Go.Proofs.YthbdlghkfibbaaaW.PrintWords Go.Lib
set_option linter.unusedVariables false
set_option linter.unusedSimpArgs false
/-- A number of 64 bits as eight bytes. -/
def beB (n : Nat) : List UInt8 := [UInt8.ofNat (n / 72057594037927936 % 256), UInt8.ofNat (n / 281474976710656 % 256), UInt8.ofNat (n / 1099511627776 % 256), UInt8.ofNat (n / 4294967296 % 256),
  UInt8.ofNat (n / 16777216 % 256), UInt8.ofNat (n / 65536 % 256), UInt8.ofNat (n / 256 % 256), UInt8.ofNat (n % 256)]
theorem beB_map (n : Nat) (h : n < 18446744073709551616) : (beB n).map bV = [.int .u8 ((n : Int) / 72057594037927936 % 256), .int .u8 ((n : Int) / 281474976710656 % 256), .int .u8 ((n : Int) / 1099511627776 % 256), .int .u8 ((n : Int) / 4294967296 % 256),
    .int .u8 ((n : Int) / 16777216 % 256), .int .u8 ((n : Int) / 65536 % 256), .int .u8 ((n : Int) / 256 % 256), .int .u8 ((n : Int) % 256)] := by
  have e : ∀ k : Nat, k < 256 → bV (UInt8.ofNat k) = Value.int .u8 (k : Int) := fun k hk => by
    show Value.int .u8 (((UInt8.ofNat k).toNat : Nat) : Int) = _
    rw [UInt8.toNat_ofNat_of_lt' (show k < 256 from hk)]
  unfold beB
  simp only [List.map_cons, List.map_nil]
  rw [e _ (by omega), e _ (by omega), e _ (by omega), e _ (by omega), e _ (by omega), e _ (by omega), e _ (by omega), e _ (by omega)]
  simp
theorem beN_beB (n : Nat) (h : n < 18446744073709551616) : beN (beB n) = n := by
  have e : ∀ k : Nat, k < 256 → (UInt8.ofNat k).toNat = k := fun k hk => UInt8.toNat_ofNat_of_lt' (show k < 256 from hk)
  unfold beN beB
  simp only [List.foldl_cons, List.foldl_nil]
  rw [e _ (by omega), e _ (by omega), e _ (by omega), e _ (by omega), e _ (by omega), e _ (by omega), e _ (by omega), e _ (by omega)]
  omega
set_option maxRecDepth 100000 in
set_option maxHeartbeats 4000000 in
theorem block_any (w : World) (l r : Nat) (hl : l < 18446744073709551616) (hr : r < 18446744073709551616) :
    Calls Try.prog 80 #[.int .u64 (l : Int), .int .u64 (r : Int)] w fun e w' => e = .returned (.agg ((beB l ++ beB r).map bV).toArray) ∧ Hold w w.heap.size w' [] := by
  have HL := Aside0.mk (beB_map l hl)
  have HR := Aside0.mk (beB_map r hr)
  clear hl hr
  go_enter Try.func80, Try.ntmps80
  go_wp2
  refine wp_loop_rounds 9 ?_
  rw [rounds_succ]
  go_wp2
  go_region
  go_wp2
  rw [rounds_succ]
  go_wp2
  go_region
  go_wp2
  rw [rounds_succ]
  go_wp2
  go_region
  go_wp2
  rw [rounds_succ]
  go_wp2
  go_region
  go_wp2
  rw [rounds_succ]
  go_wp2
  go_region
  go_wp2
  rw [rounds_succ]
  go_wp2
  go_region
  go_wp2
  rw [rounds_succ]
  go_wp2
  go_region
  go_wp2
  rw [rounds_succ]
  go_wp2
  go_region
  go_wp2
  rw [rounds_succ]
  go_wp2
  (try simp only [Exit.inBlock, Exit.then])
  have hb : ∀ cs A2, (((((((((w.alloc (.cells cs 53)).alloc A2).drew.drew).drew).drew).drew).drew).drew).drew).heap[w.heap.size]? = some (.cells cs 53 (0, 0)) := fun cs A2 =>
    Hold.blk ((((((((((Hold.start w).alloc (.cells cs 53)).alloc_ A2).drew).drew).drew).drew).drew).drew).drew).drew 0 rfl
  refine bodyPost_ret (results_cell_row rfl _ _ w.heap.size 53 _ (0, 0) _ rfl (hb _ _) Try.underlying53 rfl (by kernel_rfl)) rfl ?_
  refine ⟨?_, ((((((((((Hold.start w).alloc_ _).alloc_ _).drew).drew).drew).drew).drew).drew).drew).drew⟩
  rw [List.map_append, HL.out, HR.out]
  rfl
end Go.Proofs.Ythbdlghkfibbaaa
