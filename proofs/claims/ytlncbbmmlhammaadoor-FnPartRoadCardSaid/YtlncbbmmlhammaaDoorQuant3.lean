/-
  encoding/base64: decodeQuantum on two or three letters at the end of a text without padding: its contracts. (Under way.)
-/
import Derived.Test.YtlncbbmmlhammaaDoorQuant
namespace Go.Proofs.YtlncbbmmlhammaaDoor
open Go.RowKit Go.Proofs.YtlncbbmmlhammaaDoorW.PrintWords Go.Lib
set_option linter.unusedVariables false
set_option linter.unusedSimpArgs false
theorem wrote2 (cs : Array Value) (off : Nat) (a b : UInt8) (h : off + 2 ≤ cs.size) : Wrote cs ((cs.setIfInBounds (off + 1) (bV b)).setIfInBounds off (bV a)) off [a, b] := by
  constructor
  · simp
  · apply List.ext_getElem?
    intro i
    simp only [Array.toList_setIfInBounds, List.length_cons, List.length_nil, List.getElem?_take, List.getElem?_set, List.length_set, List.map_cons, List.map_nil, List.getElem?_append, List.length_take]
    have hl : cs.toList.length = cs.size := by simp
    rw [hl, Nat.min_eq_left (by omega)]
    rcases Nat.lt_or_ge i off with h1 | h1
    · rw [if_pos (by omega), if_neg (by omega), if_neg (by omega), if_pos h1, if_pos h1]
    · obtain ⟨j, rfl⟩ : ∃ j, i = off + j := ⟨i - off, by omega⟩
      rw [if_neg (show ¬ off + j < off by omega), Nat.add_sub_cancel_left]
      match j with
      | 0 => simp; omega
      | 1 => simp; omega
      | j + 2 => rw [if_neg (by omega)]; rfl
theorem wrote1 (cs : Array Value) (off : Nat) (a : UInt8) (h : off + 1 ≤ cs.size) : Wrote cs (cs.setIfInBounds off (bV a)) off [a] := by
  constructor
  · simp
  · apply List.ext_getElem?
    intro i
    simp only [Array.toList_setIfInBounds, List.length_cons, List.length_nil, List.getElem?_take, List.getElem?_set, List.length_set, List.map_cons, List.map_nil, List.getElem?_append, List.length_take]
    have hl : cs.toList.length = cs.size := by simp
    rw [hl, Nat.min_eq_left (by omega)]
    rcases Nat.lt_or_ge i off with h1 | h1
    · rw [if_pos (by omega), if_neg (by omega), if_pos h1, if_pos h1]
    · obtain ⟨j, rfl⟩ : ∃ j, i = off + j := ⟨i - off, by omega⟩
      rw [if_neg (show ¬ off + j < off by omega), Nat.add_sub_cancel_left]
      match j with
      | 0 => simp; omega
      | j + 1 => rw [if_neg (by omega)]; rfl
theorem w2_eq (a b : UInt8) (ha : a.toNat < 64) (hb : b.toNat < 64) : bits .or .u64 ((a.toNat : Int) * 262144) ((b.toNat : Int) * 4096) = ((a.toNat * 262144 + b.toNat * 4096 : Nat) : Int) := by
  rw [show (a.toNat : Int) * 262144 = ((a.toNat * 262144 : Nat) : Int) by omega, show (b.toNat : Int) * 4096 = ((b.toNat * 4096 : Nat) : Int) by omega, orN _ _ (by omega) (by omega), show a.toNat * 262144 = a.toNat * 2 ^ 18 from rfl, or_add a.toNat (b.toNat * 4096) 18 (by omega)]
theorem or_0 (n : Nat) (h : n < 18446744073709551616) : bits .or .u64 (n : Int) 0 = (n : Int) := by
  rw [show (0 : Int) = ((0 : Nat) : Int) from rfl, orN _ _ h (by omega), Nat.or_zero]
theorem w3_eq (a b c : UInt8) (ha : a.toNat < 64) (hb : b.toNat < 64) (hc : c.toNat < 64) : bits .or .u64 (bits .or .u64 (bits .or .u64 ((a.toNat : Int) * 262144) ((b.toNat : Int) * 4096)) ((c.toNat : Int) * 64)) 0 = ((a.toNat * 262144 + b.toNat * 4096 + c.toNat * 64 + (0 : UInt8).toNat : Nat) : Int) := by
  rw [w2_eq a b ha hb, show (c.toNat : Int) * 64 = ((c.toNat * 64 : Nat) : Int) by omega, orN _ _ (by omega) (by omega), show a.toNat * 262144 + b.toNat * 4096 = (a.toNat * 64 + b.toNat) * 2 ^ 12 by omega, or_add _ (c.toNat * 64) 12 (by omega), or_0 _ (by omega)]
  rw [show (0 : UInt8).toNat = 0 from rfl]
  omega
set_option maxRecDepth 100000 in
set_option maxHeartbeats 4000000 in
theorem quant3_any {w0 : World} {B : Nat} {L : List Asrt} (w : World) (url : Bool) (g gd off b o n c m cap t si : Nat) (D : Option Addr) (ts : List UInt8) (cs : Array Value) (hn : n ≤ 1000000000)
    (hD : D = some ⟨gd, off, none⟩) (hm : 2 ≤ m) (hfit : off + m ≤ cs.size) (hne : g ≠ gd) (H : Hold w0 B w (.blk g (.cells (encX url (-1)) 70) :: .blk gd (.cells cs t) :: L))
    (hC : kB.C w (some ⟨b, o, none⟩) n ts) (hs : si + 3 = n) (x y z : UInt8) (hx : ts[si]? = some x) (hy : ts[si + 1]? = some y) (hz : ts[si + 2]? = some z)
    (vx : dX url x ≠ 255) (vy : dX url y ≠ 255) (vz : dX url z ≠ 255) :
    Calls Tryd.prog 55 #[.pointer (some ⟨g, 0, none⟩), .slice D m cap, .slice (some ⟨b, o, none⟩) n c, .int .i64 si] w fun e w' => e = .returned (.tuple #[.int .i64 (si + 3 : Nat), .int .i64 2, .nilIface]) ∧
      ∃ cs', Wrote cs cs' off [byA (dX url x) (dX url y), byB (dX url y) (dX url z)] ∧ Hold w0 B w' (.blk g (.cells (encX url (-1)) 70) :: .blk gd (.cells cs' t) :: L) := by
  obtain rfl := hC.1
  subst hD
  have HH := Aside0.mk H
  have HRg := Aside0.mk (H.alloc_ (.cells #[.int .u8 0, .int .u8 0, .int .u8 0, .int .u8 0] 100)).rangeD
  have HSz := Aside0.mk (sizeD url)
  have hu79 := Tryd.underlying70
  have dx := H.dcell x
  have dy := H.dcell y
  have dz := H.dcell z
  have cell : ∀ j v, ts[j]? = some v → w.cell? ⟨b, o + j, none⟩ = some (.int .u8 (v.toNat : Int)) := by
    intro j v hv
    obtain ⟨hj, rfl⟩ := List.getElem?_eq_some_iff.1 hv
    exact cell_of_C hC j hj
  have cx := cell si x hx
  have cy := cell (si + 1) y hy
  have cz := cell (si + 2) z hz
  obtain ⟨d0, f0⟩ := H.cellq 1 rfl off _ (Array.getElem?_eq_getElem (by omega))
  obtain ⟨d1, f1⟩ := H.cellq 1 rfl (off + 1) _ (Array.getElem?_eq_getElem (by omega))
  obtain ⟨d1', f1'⟩ := H.cellq 1 rfl (off + 1) _ (Array.getElem?_eq_getElem (by omega))
  generalize cs[off] = o0 at d0
  generalize cs[off + 1] = o1 at d1
  clear d1' f1'
  have hstr := (H.cellq 0 rfl 321 _ (ecells_atS _ _ _ (letX_len url) (decX_len url))).1
  have hgb := cell_lt cx
  have hgg : g < w.heap.size := H.blk_lt 0 rfl
  have hgd : gd < w.heap.size := H.blk_lt 1 rfl
  have hpad := (H.cellq 0 rfl 320 _ (ecells_atP _ _ _ (letX_len url) (decX_len url))).1
  clear cell hx hy hz hC H
  obtain ⟨q0, hq0⟩ : ∃ q0, q0 = dX url x := ⟨_, rfl⟩
  obtain ⟨q1, hq1⟩ : ∃ q1, q1 = dX url y := ⟨_, rfl⟩
  obtain ⟨q2, hq2⟩ : ∃ q2, q2 = dX url z := ⟨_, rfl⟩
  have b0 := dX_lt url x vx
  have b1 := dX_lt url y vy
  have b2 := dX_lt url z vz
  rw [← hq0] at dx vx b0 ⊢
  rw [← hq1] at dy vy b1 ⊢
  rw [← hq2] at dz vz b2 ⊢
  have ne255 : ∀ q : UInt8, q ≠ 255 → ((q.toNat : Int) != 255) = true := by
    intro q h
    rw [bne_iff_ne]
    intro e
    exact h (UInt8.toNat_inj.1 (by show q.toNat = 255; omega))
  have t0 := ne255 q0 vx
  have t1 := ne255 q1 vy
  have t2 := ne255 q2 vz
  obtain ⟨N, hN⟩ : ∃ N, bits .or .u64 (bits .or .u64 (bits .or .u64 ((q0.toNat : Int) * 262144) ((q1.toNat : Int) * 4096)) ((q2.toNat : Int) * 64)) 0 = N := ⟨_, rfl⟩
  have hv := hN.symm.trans (w3_eq q0 q1 q2 b0 b1 b2)
  have HA : Aside0 (N / 65536 % 256 = ((byA q0 q1).toNat : Int)) := ⟨byA_eq q0 q1 q2 0 b0 b1 b2 (by decide) hv⟩
  have HB : Aside0 (N / 256 % 256 = ((byB q1 q2).toNat : Int)) := ⟨byB_eq q0 q1 q2 0 b0 b1 b2 (by decide) hv⟩
  clear hv
  have HFit : Aside0 (off + 2 ≤ cs.size) := ⟨by omega⟩
  have HQ0 := Aside0.mk hq0
  have HQ1 := Aside0.mk hq1
  have HQ2 := Aside0.mk hq2
  have lx : ((ts.length : Int) == (si : Int)) = false := by rw [beq_eq_false_iff_ne]; omega
  have ly : ((ts.length : Int) == (si : Int) + 1) = false := by rw [beq_eq_false_iff_ne]; omega
  have lz : ((ts.length : Int) == (si : Int) + 2) = false := by rw [beq_eq_false_iff_ne]; omega
  have hlx := x.toNat_lt
  have hly := y.toNat_lt
  have hlz := z.toNat_lt
  have lu : ((ts.length : Int) == (si : Int) + 1 + 1 + 1) = true := by rw [beq_iff_eq]; omega
  clear hq0 hq1 hq2 ne255 vx vy vz
  go_enter Tryd.func55, Tryd.ntmps55
  go_wp2_with ((with_reducible refine at_dst (N := 20) rfl ?_); refine wpList_load_mid rfl 68 (.tmp 19) rfl g 64 rfl ((decX url).map bV) _ HRg.out Tryd.underlying68 rfl HSz.out ?_)
  refine wp_loop_rounds 5 ?_
  rw [rounds_succ]
  go_wp2
  rw [rounds_succ]
  go_wp2
  rw [rounds_succ]
  go_wp2
  rw [rounds_succ]
  go_wp2
  refine bodyPost_ret (results_tmp3 rfl _ _ _) rfl ?_
  refine ⟨?_, _, wrote2 cs off (byA q0 q1) (byB q1 q2) HFit.out, ?_⟩
  · have e : (si : Int) + 1 + 1 + 1 = ((si + 3 : Nat) : Int) := by omega
    rw [← e]
    rfl
  · have h := (((HH.out.store 1 rfl (off + 1) (.int .u8 (N / 256 % 256))).store 1 rfl off (.int .u8 (N / 65536 % 256))).alloc_ (.cells #[.int .u8 (N / 65536 % 256), .int .u8 0, .int .u8 (N % 256), .int .u8 0] 100))
    rw [HA.out, HB.out] at h ⊢
    exact h
set_option maxRecDepth 100000 in
set_option maxHeartbeats 4000000 in
theorem quant2_any {w0 : World} {B : Nat} {L : List Asrt} (w : World) (url : Bool) (g gd off b o n c m cap t si : Nat) (D : Option Addr) (ts : List UInt8) (cs : Array Value) (hn : n ≤ 1000000000)
    (hD : D = some ⟨gd, off, none⟩) (hm : 1 ≤ m) (hfit : off + m ≤ cs.size) (hne : g ≠ gd) (H : Hold w0 B w (.blk g (.cells (encX url (-1)) 70) :: .blk gd (.cells cs t) :: L))
    (hC : kB.C w (some ⟨b, o, none⟩) n ts) (hs : si + 2 = n) (x y : UInt8) (hx : ts[si]? = some x) (hy : ts[si + 1]? = some y)
    (vx : dX url x ≠ 255) (vy : dX url y ≠ 255) :
    Calls Tryd.prog 55 #[.pointer (some ⟨g, 0, none⟩), .slice D m cap, .slice (some ⟨b, o, none⟩) n c, .int .i64 si] w fun e w' => e = .returned (.tuple #[.int .i64 (si + 2 : Nat), .int .i64 1, .nilIface]) ∧
      ∃ cs', Wrote cs cs' off [byA (dX url x) (dX url y)] ∧ Hold w0 B w' (.blk g (.cells (encX url (-1)) 70) :: .blk gd (.cells cs' t) :: L) := by
  obtain rfl := hC.1
  subst hD
  have HH := Aside0.mk H
  have HRg := Aside0.mk (H.alloc_ (.cells #[.int .u8 0, .int .u8 0, .int .u8 0, .int .u8 0] 100)).rangeD
  have HSz := Aside0.mk (sizeD url)
  have hu79 := Tryd.underlying70
  have dx := H.dcell x
  have dy := H.dcell y
  have cell : ∀ j v, ts[j]? = some v → w.cell? ⟨b, o + j, none⟩ = some (.int .u8 (v.toNat : Int)) := by
    intro j v hv
    obtain ⟨hj, rfl⟩ := List.getElem?_eq_some_iff.1 hv
    exact cell_of_C hC j hj
  have cx := cell si x hx
  have cy := cell (si + 1) y hy
  obtain ⟨d0, f0⟩ := H.cellq 1 rfl off _ (Array.getElem?_eq_getElem (by omega))
  generalize cs[off] = o0 at d0
  have hstr := (H.cellq 0 rfl 321 _ (ecells_atS _ _ _ (letX_len url) (decX_len url))).1
  have hgb := cell_lt cx
  have hgg : g < w.heap.size := H.blk_lt 0 rfl
  have hgd : gd < w.heap.size := H.blk_lt 1 rfl
  have hpad := (H.cellq 0 rfl 320 _ (ecells_atP _ _ _ (letX_len url) (decX_len url))).1
  clear cell hx hy hC H
  obtain ⟨q0, hq0⟩ : ∃ q0, q0 = dX url x := ⟨_, rfl⟩
  obtain ⟨q1, hq1⟩ : ∃ q1, q1 = dX url y := ⟨_, rfl⟩
  have b0 := dX_lt url x vx
  have b1 := dX_lt url y vy
  rw [← hq0] at dx vx b0 ⊢
  rw [← hq1] at dy vy b1 ⊢
  have ne255 : ∀ q : UInt8, q ≠ 255 → ((q.toNat : Int) != 255) = true := by
    intro q h
    rw [bne_iff_ne]
    intro e
    exact h (UInt8.toNat_inj.1 (by show q.toNat = 255; omega))
  have t0 := ne255 q0 vx
  have t1 := ne255 q1 vy
  obtain ⟨N, hN⟩ : ∃ N, bits .or .u64 (bits .or .u64 (bits .or .u64 ((q0.toNat : Int) * 262144) ((q1.toNat : Int) * 4096)) 0) 0 = N := ⟨_, rfl⟩
  have hv : N = ((q0.toNat * 262144 + q1.toNat * 4096 + (0 : UInt8).toNat * 64 + (0 : UInt8).toNat : Nat) : Int) := by
    rw [← hN, w2_eq q0 q1 b0 b1, or_0 _ (by omega), or_0 _ (by omega), show (0 : UInt8).toNat = 0 from rfl]
    omega
  have HA : Aside0 (N / 65536 % 256 = ((byA q0 q1).toNat : Int)) := ⟨byA_eq q0 q1 0 0 b0 b1 (by decide) (by decide) hv⟩
  clear hv
  have HFit : Aside0 (off + 1 ≤ cs.size) := ⟨by omega⟩
  have HQ0 := Aside0.mk hq0
  have HQ1 := Aside0.mk hq1
  have lx : ((ts.length : Int) == (si : Int)) = false := by rw [beq_eq_false_iff_ne]; omega
  have ly : ((ts.length : Int) == (si : Int) + 1) = false := by rw [beq_eq_false_iff_ne]; omega
  have hlx := x.toNat_lt
  have hly := y.toNat_lt
  have lu : ((ts.length : Int) == (si : Int) + 1 + 1) = true := by rw [beq_iff_eq]; omega
  clear hq0 hq1 ne255 vx vy
  go_enter Tryd.func55, Tryd.ntmps55
  go_wp2_with ((with_reducible refine at_dst (N := 20) rfl ?_); refine wpList_load_mid rfl 68 (.tmp 19) rfl g 64 rfl ((decX url).map bV) _ HRg.out Tryd.underlying68 rfl HSz.out ?_)
  refine wp_loop_rounds 5 ?_
  rw [rounds_succ]
  go_wp2
  rw [rounds_succ]
  go_wp2
  rw [rounds_succ]
  go_wp2
  refine bodyPost_ret (results_tmp3 rfl _ _ _) rfl ?_
  refine ⟨?_, _, wrote1 cs off (byA q0 q1) HFit.out, ?_⟩
  · have e : (si : Int) + 1 + 1 = ((si + 2 : Nat) : Int) := by omega
    rw [← e]
    rfl
  · have h := ((HH.out.store 1 rfl off (.int .u8 (N / 65536 % 256))).alloc_ (.cells #[.int .u8 (N / 65536 % 256), .int .u8 (N / 256 % 256), .int .u8 (N % 256), .int .u8 0] 100))
    rw [HA.out] at h ⊢
    exact h
end Go.Proofs.YtlncbbmmlhammaaDoor
