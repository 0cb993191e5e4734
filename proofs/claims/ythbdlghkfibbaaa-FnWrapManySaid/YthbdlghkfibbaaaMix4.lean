/-
  impl.Mixed, impl.MixedBack: their contracts.
-/
import Derived.Test.YthbdlghkfibbaaaMix3
namespace Go.Proofs.Ythbdlghkfibbaaa
open Go.RowKit Go.Proofs.YthbdlghkfibbaaaW.PrintWords Go.Lib
set_option linter.unusedVariables false
set_option linter.unusedSimpArgs false
def halvesOf (xs : List UInt8) : UInt64 × UInt64 := (UInt64.ofNat (beN (xs.take 8)), UInt64.ofNat (beN (xs.drop 8)))
def blockOf (p : UInt64 × UInt64) : List UInt8 := beB p.1.toNat ++ beB p.2.toNat
theorem beN8 {l : List UInt8} (h : l.length = 8) : beN l < 18446744073709551616 := by
  have := beN_lt l
  rw [h] at this
  exact this
theorem halves_toNat {xs : List UInt8} (h : xs.length = 16) : (halvesOf xs).1.toNat = beN (xs.take 8) ∧ (halvesOf xs).2.toNat = beN (xs.drop 8) := by
  unfold halvesOf
  constructor
  · exact UInt64.toNat_ofNat_of_lt' (beN8 (by rw [List.length_take, h]; rfl))
  · exact UInt64.toNat_ofNat_of_lt' (beN8 (by rw [List.length_drop, h]))
theorem block_size (a b : Nat) : ((beB a ++ beB b).map bV).toArray.size = 16 := rfl
theorem bV_all (xs : List UInt8) : ((xs.map bV).toArray).all (·.oneCell') = true := by
  rw [List.all_toArray, List.all_map, List.all_eq_true]
  intro x _
  rfl
set_option maxRecDepth 100000 in
set_option maxHeartbeats 4000000 in
theorem mixed_any (w : World) (s : UInt64) (xs : List UInt8) (h16 : xs.length = 16) :
    Calls Try.prog 77 #[hv s, .agg (xs.map bV).toArray] w fun e w' => e = .returned (.agg ((blockOf (mixU s (halvesOf xs))).map bV).toArray) ∧ Hold w w.heap.size w' [] := by
  have H1 := Aside0.mk ((Hold.start w).alloc (.cells (xs.map bV).toArray 53))
  have HX := Aside0.mk h16
  have HH := Aside0.mk (halves_toNat h16)
  have a1 : ((s.toNat : Int) + 1) % 18446744073709551616 = ((s + 1).toNat : Int) := addU s 1
  have a2 : ((s.toNat : Int) + 2) % 18446744073709551616 = ((s + 2).toNat : Int) := addU s 2
  have a3 : ((s.toNat : Int) + 3) % 18446744073709551616 = ((s + 3).toNat : Int) := addU s 3
  have a4 : ((s.toNat : Int) + 4) % 18446744073709551616 = ((s + 4).toNat : Int) := addU s 4
  obtain ⟨p0, hp⟩ : ∃ p, p = halvesOf xs := ⟨_, rfl⟩
  rw [← hp] at HH ⊢
  have HP := Aside0.mk hp
  have HSz : Aside0 ((Try.prog.info? 53).map (·.size) = some (xs.map bV).toArray.size) := ⟨by
    rw [List.size_toArray, List.length_map, h16]
    kernel_rfl⟩
  have H2 := Aside0.mk (H1.out.alloc (.cells #[.int .u8 0, .int .u8 0, .int .u8 0, .int .u8 0, .int .u8 0, .int .u8 0, .int .u8 0, .int .u8 0, .int .u8 0, .int .u8 0, .int .u8 0, .int .u8 0, .int .u8 0, .int .u8 0, .int .u8 0, .int .u8 0] 53))
  have HBk := Aside0.mk (H2.out.blk 1 rfl)
  clear h16 hp
  unfold hv
  go_enter Try.func77, Try.ntmps77
  go_wp2_with ((with_reducible refine at_dst (N := 9) rfl ?_); refine wpList_load_row rfl 53 (.tmp 3) rfl w.heap.size rfl 53 (xs.map bV).toArray (0, 0) _ HBk.out Try.underlying53 rfl HSz.out ?_)
  refine (halves_any _ xs HX.out).mono ?_
  rw [← HH.out.1, ← HH.out.2]
  rintro e w3 ⟨rfl, hH⟩
  have H3 := Aside0.mk (H2.out.app hH)
  clear hH
  go_wp2
  refine wp_loop_rounds 5 ?_
  rw [rounds_succ]
  go_wp2_with fail
  refine (half_any _ p0.2 (s + 1)).mono ?_
  rintro e w4 ⟨rfl, rfl⟩
  obtain ⟨p1, hp1⟩ : ∃ p, p = mixR s p0 1 := ⟨_, rfl⟩
  have x1 : bits .xor .u64 (p0.1.toNat : Int) ((halfU p0.2 (s + 1)).toNat : Int) = (p1.2.toNat : Int) := by rw [xorU, hp1]; rfl
  have y1 : p1.1 = p0.2 := by rw [hp1]; rfl
  have HP1 := Aside0.mk hp1
  clear hp1
  unfold hv
  go_wp2
  rw [rounds_succ]
  go_wp2_with fail
  refine (half_any _ p1.2 (s + 2)).mono ?_
  rintro e w5 ⟨rfl, rfl⟩
  obtain ⟨p2, hp2⟩ : ∃ p, p = mixR s p1 2 := ⟨_, rfl⟩
  have x2 : bits .xor .u64 (p0.2.toNat : Int) ((halfU p1.2 (s + 2)).toNat : Int) = (p2.2.toNat : Int) := by rw [← y1, xorU, hp2]; rfl
  clear y1
  have y2 : p2.1 = p1.2 := by rw [hp2]; rfl
  have HP2 := Aside0.mk hp2
  clear hp2
  unfold hv
  go_wp2
  rw [rounds_succ]
  go_wp2_with fail
  refine (half_any _ p2.2 (s + 3)).mono ?_
  rintro e w6 ⟨rfl, rfl⟩
  obtain ⟨p3, hp3⟩ : ∃ p, p = mixR s p2 3 := ⟨_, rfl⟩
  have x3 : bits .xor .u64 (p1.2.toNat : Int) ((halfU p2.2 (s + 3)).toNat : Int) = (p3.2.toNat : Int) := by rw [← y2, xorU, hp3]; rfl
  clear y2
  have y3 : p3.1 = p2.2 := by rw [hp3]; rfl
  have HP3 := Aside0.mk hp3
  clear hp3
  unfold hv
  go_wp2
  rw [rounds_succ]
  go_wp2_with fail
  refine (half_any _ p3.2 (s + 4)).mono ?_
  rintro e w7 ⟨rfl, rfl⟩
  obtain ⟨p4, hp4⟩ : ∃ p, p = mixR s p3 4 := ⟨_, rfl⟩
  have x4 : bits .xor .u64 (p2.2.toNat : Int) ((halfU p3.2 (s + 4)).toNat : Int) = (p4.2.toNat : Int) := by rw [← y3, xorU, hp4]; rfl
  clear y3
  have y4 : p4.1 = p3.2 := by rw [hp4]; rfl
  have HP4 := Aside0.mk hp4
  clear hp4
  unfold hv
  go_wp2
  rw [rounds_succ]
  go_wp2_with fail
  refine (block_any _ p3.2.toNat p4.2.toNat (UInt64.toNat_lt _) (UInt64.toNat_lt _)).mono ?_
  rintro e w8 ⟨rfl, hH⟩
  have H4 := Aside0.mk (H3.out.app hH)
  clear hH
  have HB4 := Aside0.mk (H4.out.blk 0 rfl)
  have es : (w.alloc (.cells (xs.map bV).toArray 53)).heap.size = w.heap.size + 1 := by simp
  rw [es] at HB4
  clear es
  have HBS : Aside0 ((Try.prog.info? 53).map (·.size) = some ((beB p3.2.toNat ++ beB p4.2.toNat).map bV).toArray.size) := ⟨by kernel_rfl⟩
  obtain ⟨C, hC⟩ : ∃ C, C = ((beB p3.2.toNat ++ beB p4.2.toNat).map bV).toArray := ⟨_, rfl⟩
  rw [← hC] at HBS ⊢
  have HCa : Aside0 (C.all (·.oneCell') = true) := ⟨by rw [hC]; exact bV_all _⟩
  have HCs : Aside0 (16 = C.size) := ⟨by rw [hC]; rfl⟩
  have HC := Aside0.mk hC
  clear hC
  go_wp2_with (refine wpList_store_row rfl 53 (.tmp 4) (.tmp 27) rfl (w.heap.size + 1) C rfl rfl 53 _ HB4.out HBS.out HCs.out HCa.out ?_)
  have H5 := Aside0.mk (show Hold w w.heap.size (w8.setRow _ C) _ from H4.out.setRow 0 rfl)
  have HB5 := Aside0.mk (H5.out.blk 0 rfl)
  have es : (w.alloc (.cells (xs.map bV).toArray 53)).heap.size = w.heap.size + 1 := by simp
  rw [es] at H5 HB5
  refine bodyPost_ret (results_cell_row rfl _ _ (w.heap.size + 1) 53 _ (0, 0) _ rfl HB5.out Try.underlying53 rfl HBS.out) rfl ?_
  refine ⟨?_, H5.out.tail.tail⟩
  rw [HC.out]
  have e4 : mixU s p0 = p4 := by rw [HP4.out, HP3.out, HP2.out, HP1.out]; rfl
  rw [e4]
  unfold blockOf
  rw [y4]
end Go.Proofs.Ythbdlghkfibbaaa
