/-
  slices.Sorted(slices.Values(l)) at texts: its contract. (Values', AppendSeq's, Collect's walks: lines of the worked proofs GgSlicesIterAtTheDump, GgCollectAtTheDump, GgSortedAtTheDump, turned to this program.)
  slices.Sort at texts: its contracts off the shelf, laid over this program. Printed by ksogen.py.
  slices.Sorted(slices.Values(l)) at texts, over what is held. (Collect's, Sorted's walks: lines of the worked proofs GgCollectAtTheDump, GgSortedAtTheDump, turned to this program.)
-/
import Derived.Test.YtpcbmjphffpplaaGreatDoorKa3
import Derived.RangeFuncBox
import Derived.RangeFuncLeaves
import Derived.Shelf.SlIter.Collect
import Derived.OwnWalkIn
import Derived.TacticsInMore
import Derived.LoopNIn
import Derived.LoopIn
import Derived.Shelf.SortM.Plain
import Derived.Shelf.SortM.SortNone
import Derived.Shelf.SlGeneric
import Derived.RangeFuncBound
import Derived.Sort.OwnSorted
namespace Go.Proofs.YtpcbmjphffpplaaGreatDoor
open Go.RowKit Go.Shelf Go.Maps Go.Sort Go.Proofs.YtpcbmjphffpplaaGreatDoorW.PrintWords
set_option linter.unusedVariables false
set_option linter.unusedSimpArgs false
set_option maxRecDepth 100000
attribute [local go_sem] Oper.semAt_some
def zRen : Go.Shelf.Ren := ⟨fun | 11 => 31 | n => n, fun | 24 => 35 | 26 => 9 | 28 => 73 | 33 => 86 | n => n, fun n => n⟩
theorem zLays : SlLaysZ.n11 Tryz.prog zRen :=
  { mixed := by kernel_rfl
    f11 := ⟨"slices.AppendSeq[[]string,string]", by decide, Tryz.func31.trans (congrArg some (by kernel_rfl))⟩
    t0 := Tryz.underlying0
    a0 := Tryz.isAgg0
    z0 := Tryz.sizeOf0
    v0 := Tryz.zeroValue0
    t24 := Tryz.underlying35
    a24 := Tryz.isAgg35
    z24 := Tryz.sizeOf35
    v24 := Tryz.zeroValue35
    t26 := Tryz.underlying9
    a26 := Tryz.isAgg9
    z26 := Tryz.sizeOf9
    v26 := Tryz.zeroValue9
    t28 := Tryz.underlying73
    a28 := Tryz.isAgg73
    z28 := Tryz.sizeOf73
    v28 := Tryz.zeroValue73
    i26 := by kernel_rfl }
set_option maxHeartbeats 2000000 in
/-- slices.Values' closure, at texts, for a caller who keeps all that lay ahead. -/
theorem values1_in (F : Fence) (n : Nat) (h7 : F.fn 28) (hro : F.round = none) (hn : 1 ≤ n) (l Bs n₀ len cap : Nat) (a : Option Addr) (zs : List (List UInt8)) (hlen : zs.length = len) (hreach : len ≤ 1000000) (W0 : World) (J : List (List UInt8) → World → Prop)
    (hJb : ∀ pre W, J pre W → Below n₀ W0 W)
    (hY : ∀ pre x W, J pre W → pre.length < len → YieldAt F (n - 1) Tryz.prog l #[encStr x] W fun e W' => e = .returned (.bool true) ∧ J (pre ++ [x]) W' ∧ KeepsWalks W W')
    (hBs : W0.cell? ⟨Bs, 0, none⟩ = some (.slice a len cap)) (hBn : Bs < n₀) (hc : ∀ j (h : j < zs.length), ∃ ad, a = some ad ∧ ad.block < n₀ ∧ W0.cell? (ad.add j) = some (encStr zs[j])) (W : World) (h0 : J [] W) :
    CallsIn F n Tryz.prog 28 #[.func (.yield l) #[] #[], .pointer (some ⟨Bs, 0, none⟩)] W fun e W' => (∃ v, e = .returned v) ∧ J zs W' := by
  have hBs' := ((hJb _ _ h0).cell (p := ⟨Bs, 0, none⟩) hBn).trans hBs
  have HC := Aside0.mk hc
  have HL := Aside0.mk hlen
  have hlen9 : len ≤ 9223372036854775807 := by omega
  clear hc hlen
  refine callsIn_of_wp Tryz.func28 rfl h7 ?_ hro
  simp only [Tryz.ntmps28, List.size_toArray, List.length_cons, List.length_nil, Nat.reduceAdd, Nat.reduceSub, Array.replicate_succ, Array.replicate_zero, List.push_toArray, List.append_toArray, List.nil_append, List.cons_append]
  gi_wp2
  gi_loopw [7] (fun i wr => ∃ k : Nat, k ≤ len ∧ i = .int .i64 k ∧ J (zs.take k) wr) (fun i _ => len - (intOf i).toNat)
  case atStart => exact ⟨0, Nat.zero_le _, rfl, h0⟩
  case round =>
    obtain ⟨k, hk, rfl, hJs⟩ := hrel
    by_cases hlt : k < len
    · have hkl : k < zs.length := by rw [HL.out]; exact hlt
      obtain ⟨ad, rfl, had, hcx⟩ := HC.out k hkl
      have hcx' : wr.cell? (ad.add k) = some (encStr zs[k]) := ((hJb _ _ hJs).cell (p := ad.add k) (by unfold Addr.add; split <;> exact had)).trans hcx
      have hnext : zs.take (k + 1) = zs.take k ++ [zs[k]] := List.take_succ_eq_append_getElem hkl
      have hlk : (zs.take k).length < len := by rw [List.length_take]; omega
      have hYk := hY _ zs[k] wr hJs hlk
      rw [← hnext] at hYk
      clear hcx hnext hlk
      generalize zs[k] = x at *
      obtain ⟨fn, tmps, assign, body, hy, hR⟩ := hYk
      have hk1 : k + 1 ≤ len := hlt
      unfold encStr at hcx' hy
      gi_wp2
      refine hR.mono ?_
      rintro e W3 ⟨rfl, hJ3, hk3⟩
      gi_wp2
      go_roundw
      case rel => exact ⟨k + 1, hk1, by simp, hJ3⟩
      case measure => simp [intOf]; omega
    · obtain rfl : k = len := by omega
      have hall : zs.take k = zs := by rw [← HL.out]; exact List.take_length
      rw [hall] at hJs
      gi_wp2
      go_end0
      exact ⟨⟨_, rfl⟩, hJs⟩
/-- What slices.Values hands back, where it was made. -/
structure ValAt (n₀ Bs len cap : Nat) (a : Option Addr) (zs : List (List UInt8)) (W0 : World) : Prop where
  box : W0.cell? ⟨Bs, 0, none⟩ = some (.slice a len cap)
  lt : Bs < n₀
  at_ : ∀ j (h : j < zs.length), ∃ ad, a = some ad ∧ ad.block < n₀ ∧ W0.cell? (ad.add j) = some (encStr zs[j])
set_option maxHeartbeats 4000000 in
/-- slices.AppendSeq(nil, slices.Values(l)). -/
theorem appendSeqV_in (F : Fence) (n : Nat) (h11 : F.fn 31) (h7 : F.fn 28) (hro : F.round = none) (hn : 2 ≤ n) (Bs len cap : Nat) (a : Option Addr) (zs : List (List UInt8)) (hlen : zs.length = len) (hreach : len ≤ 1000000) (w : World) (hV : ValAt w.heap.size Bs len cap a zs w) :
    CallsIn F n Tryz.prog 31 #[.slice none 0 0, .func (.func 28) #[] #[.pointer (some ⟨Bs, 0, none⟩)]] w fun e w' => ∃ v, e = .returned v ∧ w'.ownsRow w.heap.size 9 1 v zs.length (zs.map encStr) ∧ Below w.heap.size w w' := by
  have h1 : 1 ≤ n := by omega
  have HV := Aside0.mk hV
  have eg : ∀ args w, (callFunc 28 args).run Tryz.prog w = .ok (.enter 28 args) w := enters_of Tryz.func28 (by kernel_rfl) rfl
  clear hV
  refine callsIn_of_wp_marks Tryz.func31 rfl h11 ?_ hro
  simp only [Tryz.ntmps31, List.size_toArray, List.length_cons, List.length_nil, Nat.reduceAdd, Nat.reduceSub, Array.replicate_succ, Array.replicate_zero, List.push_toArray, List.append_toArray, List.nil_append, List.cons_append]
  gi_wp2
  refine wpIn_rangeFunc ?_
  intro fn hfn
  rw [hro]
  obtain ⟨sv, hsv⟩ : ∃ sv, sv = Value.func (.func 28) #[] #[.pointer (some ⟨Bs, 0, none⟩)] := ⟨_, rfl⟩
  obtain ⟨W0, hW0⟩ : ∃ W0, w.alloc (.cells #[.slice none 0 0] 35) = W0 := ⟨_, rfl⟩
  have hs0 : W0.heap.size = w.heap.size + 1 := by rw [← hW0]; simp
  have hv0 : W0.heap[w.heap.size]? = some (.cells #[.slice none 0 0] 35 (0, 0)) := by rw [← hW0]; exact World.alloc_heap_new w _
  have hb0 : Below w.heap.size w W0 := by rw [← hW0]; exact (Below.refl _ w).alloc (Nat.le_refl _) _
  rw [hW0]
  obtain ⟨W1, hW1⟩ : ∃ W1, (W0.alloc (.deferred (some []))).alloc (.loop (AnyZ.apRec zRen fn sv w.heap.size W0.heap.size .ready none)) = W1 := ⟨_, rfl⟩
  have hold : ∀ k, k < W0.heap.size → W1.heap[k]? = W0.heap[k]? := fun k hk => by
    rw [← hW1]; exact (Below.heap_alloc _ _ k (by simp; omega)).trans (Below.heap_alloc _ _ k hk)
  have hb1 : Below w.heap.size w W1 := by rw [← hW1]; exact (hb0.alloc hb0.size _).alloc (by have := hb0.size; simp; omega) _
  have hs1 : W1.heap.size = W0.heap.size + 2 := by rw [← hW1]; simp
  have hM : AnyZ.ApAt zRen w fn sv w.heap.size (W0.heap.size + 1) W0.heap.size [] W1 :=
    ⟨⟨_, (hold w.heap.size (by omega)).trans hv0, ⟨rfl, .inl ⟨rfl, rfl⟩⟩, by simp⟩,
     by rw [← hW1]; have := World.alloc_heap_new (W0.alloc (.deferred (some []))) (.loop (AnyZ.apRec zRen fn sv w.heap.size W0.heap.size .ready none)); rwa [World.size_alloc] at this,
     by rw [← hW1]; exact (Below.heap_alloc _ _ _ (by simp)).trans (World.alloc_heap_new W0 _), hb1⟩
  refine ⟨W0.heap.size + 1, [{ target := .collected W0.heap.size, args := #[] }], W1, { target := .fn (.func 28) #[.pointer (some ⟨Bs, 0, none⟩)], args := #[.func (.yield (W0.heap.size + 1)) #[] #[]] }, W1, 28,
    #[.func (.yield (W0.heap.size + 1)) #[] #[]] ++ #[.pointer (some ⟨Bs, 0, none⟩)], W1, ?_, ?_, ?_, ?_, fun _ => h1, ?_⟩
  · rw [← hW1, hsv]; exact run_enterLoop_outer _ _ _ _ _
  · simp [resolve, go_sem]
  · intro f' hf'; simp [Target.leads] at hf'; subst hf'; exact h7
  · simp [invoke, go_sem, eg]
  · refine (values1_in F (n - 1) h7 hro (by omega) (W0.heap.size + 1) Bs w.heap.size len cap a zs hlen hreach w (AnyZ.ApAt zRen w fn sv w.heap.size (W0.heap.size + 1) W0.heap.size) (fun pre W h => h.below)
      (fun pre x W hJ hl => AnyZ.apYield zLays F (n - 1 - 1) w fn hfn _ w.heap.size (W0.heap.size + 1) W0.heap.size (by omega) (by omega) (by omega) (Nat.le_refl _) (by omega) len (by simp only [maxLen]; omega) (by omega) pre x W hJ hl) HV.out.box HV.out.lt HV.out.at_ W1 hM).mono ?_
    rintro e W2 ⟨⟨v0, rfl⟩, h2⟩
    obtain ⟨v, hv, hrow, hnil⟩ := h2.box
    have hend := run_endLoop (P := Tryz.prog) h2.L (by simp [AnyZ.apRec])
    obtain ⟨W3, hW3⟩ : ∃ W3, W2.putObj (W0.heap.size + 1) (.loop { AnyZ.apRec zRen fn sv w.heap.size W0.heap.size .ready none with state := .exhausted }) = W3 := ⟨_, rfl⟩
    rw [hW3] at hend
    have hg3 : W2.grownBy W3 (some (W0.heap.size + 1)) := by rw [← hW3]; exact grownBy_putObj_a _ _ _
    have hv3 : W3.heap[w.heap.size]? = some (.cells #[v] 35 (0, 0)) := by rw [← hW3]; exact (World.putObj_heap_other (by omega)).trans hv
    have hK3 : W3.heap[W0.heap.size]? = some (.deferred (some [])) := by rw [← hW3]; exact (World.putObj_heap_other (by omega)).trans h2.K
    have hrow' : W2.ownsRow w.heap.size 9 1 v zs.length (zs.map encStr) := hrow
    have hrow3 := hrow'.kept hg3 (ownsRow_ne_a hrow' h2.L (fun cur e => by cases e))
    have hb3 : Below w.heap.size w W3 := h2.below.grown hg3 h2.below.size (fun k e => by cases e; omega)
    obtain ⟨hc3, hf3⟩ := cell_of_box_a hv3
    clear hW3
    refine ⟨none, W3, hend, ?_⟩
    gi_wp2
    rw [← hs0]
    refine ⟨by simp, .inl ⟨_, _, rfl, run_takeDeferred hK3, ?_⟩⟩
    exact ⟨_, results_tmp rfl _ _ _, v, rfl, hrow3.kept (grownBy_putObj_a _ _ _) (ownsRow_ne_a hrow3 hK3 (fun cur e => by cases e)), hb3.grown (grownBy_putObj_a _ _ _) hb3.size (fun k e => by cases e; omega)⟩
end Go.Proofs.YtpcbmjphffpplaaGreatDoor
namespace Go.Proofs.YtpcbmjphffpplaaGreatDoor
open Go.RowKit Go.Shelf Go.Lib Go.Sort
set_option linter.unusedVariables false
def mRen : Go.Shelf.Ren := ⟨fun | 6 => 27 | 8 => 33 | 9 => 32 | 19 => 47 | 20 => 48 | 21 => 38 | 22 => 39 | 23 => 40 | 24 => 41 | 25 => 42 | 26 => 43 | 27 => 44 | 28 => 45 | 29 => 46 | 36 => 53 | 31 => 54 | 32 => 55 | 37 => 56 | 38 => 57 | 39 => 58 | 41 => 62 | n => n, fun | 27 => 35 | 29 => 9 | 3 => 3 | 32 => 99 | 26 => 35 | 0 => 0 | 44 => 126 | 46 => 128 | 4 => 4 | 36 => 118 | 35 => 117 | 41 => 123 | 5 => 5 | 9 => 9 | 53 => 140 | 57 => 144 | 63 => 152 | 64 => 153 | n => n, fun n => n⟩
set_option maxRecDepth 100000 in
theorem mLays : SlLaysM.n6 Tryz.prog mRen :=
  { mixed := by kernel_rfl
    f6 := ⟨"slices.Sort[[]string,string]", by decide, Tryz.func27.trans (congrArg some (by kernel_rfl))⟩
    f8 := Tryz.func33.trans (congrArg some (by kernel_rfl))
    f9 := ⟨"slices.pdqsortOrdered[string]", by decide, Tryz.func32.trans (congrArg some (by kernel_rfl))⟩
    f19 := Tryz.func47.trans (congrArg some (by kernel_rfl))
    f20 := Tryz.func48.trans (congrArg some (by kernel_rfl))
    f21 := ⟨"slices.insertionSortOrdered[string]", by decide, Tryz.func38.trans (congrArg some (by kernel_rfl))⟩
    f22 := ⟨"slices.heapSortOrdered[string]", by decide, Tryz.func39.trans (congrArg some (by kernel_rfl))⟩
    f23 := ⟨"slices.breakPatternsOrdered[string]", by decide, Tryz.func40.trans (congrArg some (by kernel_rfl))⟩
    f24 := ⟨"slices.choosePivotOrdered[string]", by decide, Tryz.func41.trans (congrArg some (by kernel_rfl))⟩
    f25 := ⟨"slices.reverseRangeOrdered[string]", by decide, Tryz.func42.trans (congrArg some (by kernel_rfl))⟩
    f26 := ⟨"slices.partialInsertionSortOrdered[string]", by decide, Tryz.func43.trans (congrArg some (by kernel_rfl))⟩
    f27 := ⟨"cmp.Less[string]", by decide, Tryz.func44.trans (congrArg some (by kernel_rfl))⟩
    f28 := ⟨"slices.partitionEqualOrdered[string]", by decide, Tryz.func45.trans (congrArg some (by kernel_rfl))⟩
    f29 := ⟨"slices.partitionOrdered[string]", by decide, Tryz.func46.trans (congrArg some (by kernel_rfl))⟩
    f31 := Tryz.func54.trans (congrArg some (by kernel_rfl))
    f32 := Tryz.func55.trans (congrArg some (by kernel_rfl))
    f36 := ⟨"slices.siftDownOrdered[string]", by decide, Tryz.func53.trans (congrArg some (by kernel_rfl))⟩
    f37 := ⟨"slices.medianAdjacentOrdered[string]", by decide, Tryz.func56.trans (congrArg some (by kernel_rfl))⟩
    f38 := ⟨"slices.medianOrdered[string]", by decide, Tryz.func57.trans (congrArg some (by kernel_rfl))⟩
    f39 := ⟨"cmp.isNaN[string]", by decide, Tryz.func58.trans (congrArg some (by kernel_rfl))⟩
    f41 := ⟨"slices.order2Ordered[string]", by decide, Tryz.func62.trans (congrArg some (by kernel_rfl))⟩
    t0 := Tryz.underlying0
    a0 := Tryz.isAgg0
    z0 := Tryz.sizeOf0
    v0 := Tryz.zeroValue0
    t3 := Tryz.underlying3
    a3 := Tryz.isAgg3
    z3 := Tryz.sizeOf3
    v3 := Tryz.zeroValue3
    t4 := Tryz.underlying4
    a4 := Tryz.isAgg4
    z4 := Tryz.sizeOf4
    v4 := Tryz.zeroValue4
    t5 := Tryz.underlying5
    a5 := Tryz.isAgg5
    z5 := Tryz.sizeOf5
    v5 := Tryz.zeroValue5
    t9 := Tryz.underlying9
    a9 := Tryz.isAgg9
    z9 := Tryz.sizeOf9
    v9 := Tryz.zeroValue9
    t26 := Tryz.underlying35
    a26 := Tryz.isAgg35
    z26 := Tryz.sizeOf35
    v26 := Tryz.zeroValue35
    t27 := Tryz.underlying35
    a27 := Tryz.isAgg35
    z27 := Tryz.sizeOf35
    v27 := Tryz.zeroValue35
    t29 := Tryz.underlying9
    a29 := Tryz.isAgg9
    z29 := Tryz.sizeOf9
    v29 := Tryz.zeroValue9
    t32 := Tryz.underlying99
    a32 := Tryz.isAgg99
    z32 := Tryz.sizeOf99
    v32 := Tryz.zeroValue99
    t35 := Tryz.underlying117
    a35 := Tryz.isAgg117
    z35 := Tryz.sizeOf117
    v35 := Tryz.zeroValue117
    t36 := Tryz.underlying118
    a36 := Tryz.isAgg118
    z36 := Tryz.sizeOf118
    v36 := Tryz.zeroValue118
    t41 := Tryz.underlying123
    a41 := Tryz.isAgg123
    z41 := Tryz.sizeOf123
    v41 := Tryz.zeroValue123
    t44 := Tryz.underlying126
    a44 := Tryz.isAgg126
    z44 := Tryz.sizeOf126
    v44 := Tryz.zeroValue126
    t46 := Tryz.underlying128
    a46 := Tryz.isAgg128
    z46 := Tryz.sizeOf128
    v46 := Tryz.zeroValue128
    t53 := Tryz.underlying140
    a53 := Tryz.isAgg140
    z53 := Tryz.sizeOf140
    v53 := Tryz.zeroValue140
    t57 := Tryz.underlying144
    a57 := Tryz.isAgg144
    z57 := Tryz.sizeOf144
    v57 := Tryz.zeroValue144
    t63 := Tryz.underlying152
    a63 := Tryz.isAgg152
    z63 := Tryz.sizeOf152
    v63 := Tryz.zeroValue152
    t64 := Tryz.underlying153
    a64 := Tryz.isAgg153
    z64 := Tryz.sizeOf153
    v64 := Tryz.zeroValue153 }
end Go.Proofs.YtpcbmjphffpplaaGreatDoor
namespace Go.Proofs.YtpcbmjphffpplaaGreatDoor
open Go.RowKit Go.Shelf Go.Maps Go.Sort Go.Proofs.YtpcbmjphffpplaaGreatDoorW.PrintWords
set_option linter.unusedVariables false
set_option linter.unusedSimpArgs false
set_option maxRecDepth 100000
attribute [local go_sem] Oper.semAt_some
set_option maxHeartbeats 2000000 in
theorem collectV_in (F : Fence) (n : Nat) (h8 : F.fn 26) (h11 : F.fn 31) (h7 : F.fn 28) (hro : F.round = none) (hn : 3 ≤ n) (Bs len cap : Nat) (a : Option Addr) (zs : List (List UInt8)) (hlen : zs.length = len) (hreach : len ≤ 1000000) (w : World) (hV : ValAt w.heap.size Bs len cap a zs w) :
    CallsIn F n Tryz.prog 26 #[.func (.func 28) #[] #[.pointer (some ⟨Bs, 0, none⟩)]] w fun e w' => ∃ v, e = .returned v ∧ w'.ownsRow w.heap.size 9 1 v zs.length (zs.map encStr) ∧ Below w.heap.size w w' := by
  have h1 : 1 ≤ n := by omega
  have HC := Aside0.mk (appendSeqV_in F (n - 1) h11 h7 hro (by omega) Bs len cap a zs hlen hreach w hV)
  clear hV
  refine callsIn_of_wp Tryz.func26 rfl h8 ?_ hro
  simp only [Tryz.ntmps26, List.size_toArray, List.length_cons, List.length_nil, Nat.reduceAdd, Nat.reduceSub, Array.replicate_succ, Array.replicate_zero, List.push_toArray, List.append_toArray, List.nil_append, List.cons_append]
  gi_wp2_with (gi_at_call 31; refine HC.out.mono ?_; rintro e w' ⟨v, rfl, hrow, hb⟩)
  go_ret
  exact ⟨v, rfl, hrow, hb⟩
/-- Texts in the order of their bytes. -/
def sortB (zs : List (List UInt8)) : List (List UInt8) := zs.mergeSort fun x y => decide (x ≤ y)
set_option maxHeartbeats 2000000 in
theorem sortedV_in (F : Fence) (n : Nat) (h6 : F.fn 18) (h8 : F.fn 26) (h9 : F.fn 27) (h11 : F.fn 31) (h7 : F.fn 28) (hro : F.round = none) (hn : 4 ≤ n)
    (hS1 : ∀ (blk off cap : Nat) (ss : List (List UInt8)) (W : World), Holds encStr W blk off ss.toArray → blk < W.heap.size → ss.length < 4611686018427387904 →
      CallsIn F (n - 1) Tryz.prog 27 #[.slice (some ⟨blk, off, none⟩) ss.length cap] W fun e w' => e = .returned (.tuple #[]) ∧ ∃ k os, w' = grow (putRow encStr (Sort.ahead W k) blk off (ss.mergeSort fun x y => decide (x ≤ y)).toArray) os)
    (hS2 : ∀ (p : Option Addr) (cap : Nat) (W : World), CallsIn F (n - 1) Tryz.prog 27 #[.slice p 0 cap] W fun e w' => e = .returned (.tuple #[]) ∧ w' = W)
    (Bs len cap : Nat) (a : Option Addr) (zs : List (List UInt8)) (hlen : zs.length = len) (hreach : len ≤ 1000000) (w : World) (hV : ValAt w.heap.size Bs len cap a zs w) :
    CallsIn F n Tryz.prog 18 #[.func (.func 28) #[] #[.pointer (some ⟨Bs, 0, none⟩)]] w fun e w' => ∃ v, e = .returned v ∧ w'.ownsRow w.heap.size 9 1 v zs.length ((sortB zs).map encStr) ∧ Below w.heap.size w w' := by
  subst hlen
  have h1 : 1 ≤ n := by omega
  have HC := Aside0.mk (collectV_in F (n - 1) h8 h11 h7 hro (by omega) Bs zs.length cap a zs rfl hreach w hV)
  clear hV
  refine callsIn_of_wp Tryz.func18 rfl h6 ?_ hro
  simp only [Tryz.ntmps18, List.size_toArray, List.length_cons, List.length_nil, Nat.reduceAdd, Nat.reduceSub, Array.replicate_succ, Array.replicate_zero, List.push_toArray, List.append_toArray, List.nil_append, List.cons_append]
  gi_wp2_with (gi_at_call 26; refine HC.out.mono ?_; rintro e W ⟨v, rfl, hrow, hb⟩)
  rcases hrow.2 with ⟨rfl, hz⟩ | ⟨gb, cap2, cur, rfl, hbase, hgb, r1, r2, r3, r4⟩
  · have hss : zs = [] := List.eq_nil_of_length_eq_zero hz
    subst hss
    gi_wp2_with (gi_at_call 27; refine (hS2 none 0 W).mono ?_; rintro e w' ⟨rfl, rfl⟩)
    go_ret
    exact ⟨.slice none 0 0, rfl, by simpa [sortB] using hrow, hb⟩
  · have hH : Holds encStr W gb 0 zs.toArray := holds_of_block hgb (by simpa using r4)
    have hgl : gb < W.heap.size := (Array.getElem?_eq_some_iff.1 hgb).1
    have hsz : zs.length < 4611686018427387904 := by omega
    have cS := hS1 gb 0 cap2 zs W hH hgl hsz
    gi_wp2_with (gi_at_call 27; refine cS.mono ?_; rintro e w' ⟨rfl, nn, os, rfl⟩)
    go_ret
    exact ⟨_, rfl, ownsRow_sorted (ss := zs) (ts := sortB zs) (by unfold sortB; simp) hbase hgb r1 r2 r3, hb.grown (grownBy_sorted _) hb.size (fun j hj => by cases hj; exact hbase)⟩
theorem sortedV_any (Bs len cap : Nat) (a : Option Addr) (zs : List (List UInt8)) (hlen : zs.length = len) (hreach : len ≤ 1000000) (w : World) (hV : ValAt w.heap.size Bs len cap a zs w) :
    Calls Tryz.prog 18 #[.func (.func 28) #[] #[.pointer (some ⟨Bs, 0, none⟩)]] w fun e w' => ∃ v, e = .returned v ∧ w'.ownsRow w.heap.size 9 1 v zs.length ((sortB zs).map encStr) ∧ Below w.heap.size w w' :=
  callsIn_wide.1 (sortedV_in Fence.wide 4 trivial trivial trivial trivial trivial rfl (Nat.le_refl _)
    (fun blk off cap ss W hH hblk hsz => callsIn_wide.2 (AnyM.slices_Sort_string mLays blk off cap ss W hH hblk hsz))
    (fun p cap W => callsIn_wide.2 (AnyM.slices_Sort_string_none mLays p cap W)) Bs len cap a zs hlen hreach w hV)
/-! ### over what is held -/
def toL (s : ByteArray) : List UInt8 := s.data.toList
def ofL (l : List UInt8) : ByteArray := ⟨l.toArray⟩
theorem encStr_toL (s : ByteArray) : encStr (toL s) = .string s := by cases s; rfl
theorem ofL_enc (l : List UInt8) : Value.string (ofL l) = encStr l := rfl
/-- Texts, in the order of their bytes. -/
def sortN (ns : List ByteArray) : List ByteArray := (sortB (ns.map toL)).map ofL
theorem sortN_length (ns : List ByteArray) : (sortN ns).length = ns.length := by simp [sortN, sortB]
section
variable {w0 : World} {B : Nat} {L : List Asrt}
set_option maxHeartbeats 1000000 in
theorem values_any (w : World) (a : Option Addr) (len cap : Nat) (hS : Hold w0 B w L) : Calls Tryz.prog 19 #[.slice a len cap] w fun e w' => ∃ Bs, e = .returned (.func (.func 28) #[] #[.pointer (some ⟨Bs, 0, none⟩)]) ∧ Hold w0 B w' (.blk Bs (.cells #[.slice a len cap] 35) :: L) := by
  have H1 := Aside0.mk (hS.alloc (.cells #[.slice a len cap] 35))
  have hmf : ∀ (fn : Fn) (first cap : Array Value) (w : World), (Instr.makeFunc fn first cap).run Tryz.prog w = .ok (.func fn first cap) w := fun _ _ _ _ => rfl
  clear hS
  go_enter Tryz.func19, Tryz.ntmps19
  go_wp2
  go_ret
  exact ⟨_, rfl, H1.out⟩
theorem sorted_any (w : World) (Bs : Nat) (v : Value) (l : List ByteArray) (hl : l.length ≤ 1000000) (hS : Hold w0 B w (.blk Bs (.cells #[v] 35) :: .row Kd.string 9 v l :: L)) :
    Calls Tryz.prog 18 #[.func (.func 28) #[] #[.pointer (some ⟨Bs, 0, none⟩)]] w fun e w' => ∃ v', e = .returned v' ∧ Hold w0 B w' (.sl Value.string v' (sortN l) :: L) := by
  obtain ⟨A, c, rfl, hle, hC⟩ := hS.reads 1 rfl
  have hlt := hS.blk_lt 0 rfl
  have hV : ValAt w.heap.size Bs l.length c A (l.map toL) w := ⟨(hS.cell 0 rfl 0 (by simp)).1, hlt, fun j h => by
    have h' : j < l.length := by simpa using h
    obtain ⟨ad, rfl, hcell⟩ := C1_get hC j h'
    refine ⟨ad, rfl, ?_, ?_⟩
    · have := World.block_lt_of_cell? _ _ hcell
      unfold Addr.add at this
      split at this <;> exact this
    · rw [List.getElem_map, encStr_toL]
      exact hcell⟩
  refine (sortedV_any Bs l.length c A (l.map toL) (by simp) hl w hV).mono ?_
  rintro e w' ⟨v', rfl, hrow, hb⟩
  refine ⟨v', rfl, ?_⟩
  have h2 : Hold w0 B w L := Hold.pickA (M := [_, _]) (hS : Hold w0 B w ([_, _] ++ L)) [] (by decide) (by simp) (M' := []) rfl
  refine h2.push (f' := fun k => w.heap.size ≤ k) (SlAt.of_own (base := w.heap.size) (e := 9) (n := (sortN l).length) ?_ rfl (fun k h => h)) (fun k h => h) (Chg.of_below hb _)
  have e1 : (sortN l).map Value.string = (sortB (l.map toL)).map encStr := by
    unfold sortN
    rw [List.map_map]
    rfl
  rw [e1, sortN_length]
  simpa using hrow
end
end Go.Proofs.YtpcbmjphffpplaaGreatDoor
