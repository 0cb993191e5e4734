/-
  encoding/base64: decodeQuantum where it meets padding, or an error: part 1 of 3. (Printed by qleaf.py.)
-/
import Derived.Test.YtdldblfklalaeaaGreatDoorSb
namespace Go.Proofs.YtdldblfklalaeaaGreatDoor
open Go.RowKit Go.Proofs.YtdldblfklalaeaaGreatDoorW.PrintWords Go.Lib
set_option linter.unusedVariables false
set_option linter.unusedSimpArgs false
set_option maxRecDepth 100000 in
set_option maxHeartbeats 4000000 in
theorem qe_0 {w0 : World} {B : Nat} {L : List Asrt} (w : World) (url : Bool) (g gd off b o n c m cap t si : Nat) (D : Option Addr) (ts : List UInt8) (cs : Array Value) (hn : n ≤ 1000000000) (hne : g ≠ gd) (H : Hold w0 B w (.blk g (.cells (encX url 61) 220) :: .blk gd (.cells cs t) :: L)) (hC : kB.C w (some ⟨b, o, none⟩) n ts) (hs : si + 1 ≤ n) (he0 : ts[si]? = some 61) :
    Calls Tryz.prog 199 #[.pointer (some ⟨g, 0, none⟩), .slice D m cap, .slice (some ⟨b, o, none⟩) n c, .int .i64 si] w fun e w' => (∃ s k t' v, e = .returned (.tuple #[.int .i64 s, .int .i64 k, .iface t' v])) ∧ ∃ cs', cs'.size = cs.size ∧ Hold w0 B w' (.blk g (.cells (encX url 61) 220) :: .blk gd (.cells cs' t) :: L) := by
  obtain rfl := hC.1
  have HH := Aside0.mk H
  have HRg := Aside0.mk (H.alloc_ (.cells #[.int .u8 0, .int .u8 0, .int .u8 0, .int .u8 0] 267)).rangeD
  have HSz := Aside0.mk (sizeD url)
  have hu79 := Tryz.underlying220
  have d61 : w.cell? ⟨g, 125, none⟩ = some (.int .u8 255) := by
    have h := H.dcell 61
    rw [dX_61 url] at h
    exact h
  have cell : ∀ j v, ts[j]? = some v → w.cell? ⟨b, o + j, none⟩ = some (.int .u8 (v.toNat : Int)) := by
    intro j v hv
    obtain ⟨hj, rfl⟩ := List.getElem?_eq_some_iff.1 hv
    exact cell_of_C hC j hj
  have ce0 : w.cell? ⟨b, o + si, none⟩ = some (.int .u8 61) := cell si 61 he0
  have hstr := (H.cellq 0 rfl 321 _ (ecells_atS _ _ _ (letX_len url) (decX_len url))).1
  have hpad := (H.cellq 0 rfl 320 _ (ecells_atP _ _ _ (letX_len url) (decX_len url))).1
  have hgb := cell_ltQ ce0
  have hgg : g < w.heap.size := H.blk_lt 0 rfl
  have hgd : gd < w.heap.size := H.blk_lt 1 rfl
  clear cell hC H he0
  have l0 : ((ts.length : Int) == (si : Int)) = false := by rw [beq_eq_false_iff_ne]; omega
  have l0' : ((si : Int) == (ts.length : Int)) = false := by rw [beq_eq_false_iff_ne]; omega
  have m0 : (si : Int) < (ts.length : Int) := by omega
  go_enter Tryz.func199, Tryz.ntmps199
  go_wp2_with ((with_reducible refine at_dst (N := 20) rfl ?_); refine wpList_load_mid rfl 114 (.tmp 19) rfl g 64 rfl ((decX url).map bV) _ HRg.out Tryz.underlying114 rfl HSz.out ?_)
  refine wp_loop_rounds 5 ?_
  rw [rounds_succ]
  go_wp2
  refine bodyPost_ret (results_tmp3 rfl _ _ _) rfl ?_
  exact ⟨⟨_, _, _, _, rfl⟩, cs, rfl, HH.out.alloc_ _⟩
set_option maxRecDepth 100000 in
set_option maxHeartbeats 4000000 in
theorem qe_3 {w0 : World} {B : Nat} {L : List Asrt} (w : World) (url : Bool) (g gd off b o n c m cap t si : Nat) (D : Option Addr) (ts : List UInt8) (cs : Array Value) (hn : n ≤ 1000000000) (hne : g ≠ gd) (H : Hold w0 B w (.blk g (.cells (encX url 61) 220) :: .blk gd (.cells cs t) :: L)) (hC : kB.C w (some ⟨b, o, none⟩) n ts) (hs : n = si + 2) (x y : UInt8) (hx : ts[si]? = some x) (hy : ts[si + 1]? = some y) (vx : dX url x ≠ 255) (vy : dX url y ≠ 255) :
    Calls Tryz.prog 199 #[.pointer (some ⟨g, 0, none⟩), .slice D m cap, .slice (some ⟨b, o, none⟩) n c, .int .i64 si] w fun e w' => (∃ s k t' v, e = .returned (.tuple #[.int .i64 s, .int .i64 k, .iface t' v])) ∧ ∃ cs', cs'.size = cs.size ∧ Hold w0 B w' (.blk g (.cells (encX url 61) 220) :: .blk gd (.cells cs' t) :: L) := by
  obtain rfl := hC.1
  have HH := Aside0.mk H
  have HRg := Aside0.mk (H.alloc_ (.cells #[.int .u8 0, .int .u8 0, .int .u8 0, .int .u8 0] 267)).rangeD
  have HSz := Aside0.mk (sizeD url)
  have hu79 := Tryz.underlying220
  have dx := H.dcell x
  have dy := H.dcell y
  have cell : ∀ j v, ts[j]? = some v → w.cell? ⟨b, o + j, none⟩ = some (.int .u8 (v.toNat : Int)) := by
    intro j v hv
    obtain ⟨hj, rfl⟩ := List.getElem?_eq_some_iff.1 hv
    exact cell_of_C hC j hj
  have cx := cell si x hx
  have cy := cell (si + 1) y hy
  have hstr := (H.cellq 0 rfl 321 _ (ecells_atS _ _ _ (letX_len url) (decX_len url))).1
  have hpad := (H.cellq 0 rfl 320 _ (ecells_atP _ _ _ (letX_len url) (decX_len url))).1
  have hgb := cell_ltQ cx
  have hgg : g < w.heap.size := H.blk_lt 0 rfl
  have hgd : gd < w.heap.size := H.blk_lt 1 rfl
  clear cell hC H hx hy
  obtain ⟨q0, hq0⟩ : ∃ q0, q0 = dX url x := ⟨_, rfl⟩
  obtain ⟨q1, hq1⟩ : ∃ q1, q1 = dX url y := ⟨_, rfl⟩
  have b0 := dX_lt url x vx
  have b1 := dX_lt url y vy
  rw [← hq0] at dx vx b0
  rw [← hq1] at dy vy b1
  have ne255 : ∀ q : UInt8, q ≠ 255 → ((q.toNat : Int) != 255) = true := by
    intro q h
    rw [bne_iff_ne]
    intro e
    exact h (UInt8.toNat_inj.1 (by show q.toNat = 255; omega))
  have t0 := ne255 q0 vx
  have t1 := ne255 q1 vy
  have HQ0 := Aside0.mk hq0
  have HQ1 := Aside0.mk hq1
  have l0 : ((ts.length : Int) == (si : Int)) = false := by rw [beq_eq_false_iff_ne]; omega
  have l0' : ((si : Int) == (ts.length : Int)) = false := by rw [beq_eq_false_iff_ne]; omega
  have m0 : (si : Int) < (ts.length : Int) := by omega
  have l1 : ((ts.length : Int) == (si : Int) + 1) = false := by rw [beq_eq_false_iff_ne]; omega
  have l1' : ((si : Int) + 1 == (ts.length : Int)) = false := by rw [beq_eq_false_iff_ne]; omega
  have m1 : (si : Int) + 1 < (ts.length : Int) := by omega
  have l2 : ((ts.length : Int) == (si : Int) + 1 + 1) = true := by rw [beq_iff_eq]; omega
  have l2' : ((si : Int) + 1 + 1 == (ts.length : Int)) = true := by rw [beq_iff_eq]; omega
  have m2 : ¬ ((si : Int) + 1 + 1 < (ts.length : Int)) := by omega
  have hlx := x.toNat_lt
  have hly := y.toNat_lt
  clear hq0 hq1 ne255 vx vy
  go_enter Tryz.func199, Tryz.ntmps199
  go_wp2_with ((with_reducible refine at_dst (N := 20) rfl ?_); refine wpList_load_mid rfl 114 (.tmp 19) rfl g 64 rfl ((decX url).map bV) _ HRg.out Tryz.underlying114 rfl HSz.out ?_)
  refine wp_loop_rounds 5 ?_
  rw [rounds_succ]
  go_wp2
  rw [rounds_succ]
  go_wp2
  rw [rounds_succ]
  go_wp2
  refine bodyPost_ret (results_tmp3 rfl _ _ _) rfl ?_
  exact ⟨⟨_, _, _, _, rfl⟩, cs, rfl, HH.out.alloc_ _⟩
set_option maxRecDepth 100000 in
set_option maxHeartbeats 4000000 in
theorem qe_c2 {w0 : World} {B : Nat} {L : List Asrt} (w : World) (url : Bool) (g gd off b o n c m cap t si : Nat) (D : Option Addr) (ts : List UInt8) (cs : Array Value) (hn : n ≤ 1000000000) (hD : D = some ⟨gd, off, none⟩) (hm : 1 ≤ m) (hfit : off + m ≤ cs.size) (hne : g ≠ gd) (H : Hold w0 B w (.blk g (.cells (encX url 61) 220) :: .blk gd (.cells cs t) :: L)) (hC : kB.C w (some ⟨b, o, none⟩) n ts) (hs : n = si + 4) (x y : UInt8) (hx : ts[si]? = some x) (hy : ts[si + 1]? = some y) (vx : dX url x ≠ 255) (vy : dX url y ≠ 255) (he2 : ts[si + 2]? = some 61) (he3 : ts[si + 3]? = some 61) :
    Calls Tryz.prog 199 #[.pointer (some ⟨g, 0, none⟩), .slice D m cap, .slice (some ⟨b, o, none⟩) n c, .int .i64 si] w fun e w' => e = .returned (.tuple #[.int .i64 (si + 4 : Nat), .int .i64 1, .nilIface]) ∧ ∃ cs', Wrote cs cs' off [byA (dX url x) (dX url y)] ∧ Hold w0 B w' (.blk g (.cells (encX url 61) 220) :: .blk gd (.cells cs' t) :: L) := by
  obtain rfl := hC.1
  subst hD
  have HH := Aside0.mk H
  have HRg := Aside0.mk (H.alloc_ (.cells #[.int .u8 0, .int .u8 0, .int .u8 0, .int .u8 0] 267)).rangeD
  have HSz := Aside0.mk (sizeD url)
  have hu79 := Tryz.underlying220
  have dx := H.dcell x
  have dy := H.dcell y
  have d61 : w.cell? ⟨g, 125, none⟩ = some (.int .u8 255) := by
    have h := H.dcell 61
    rw [dX_61 url] at h
    exact h
  have cell : ∀ j v, ts[j]? = some v → w.cell? ⟨b, o + j, none⟩ = some (.int .u8 (v.toNat : Int)) := by
    intro j v hv
    obtain ⟨hj, rfl⟩ := List.getElem?_eq_some_iff.1 hv
    exact cell_of_C hC j hj
  have cx := cell si x hx
  have cy := cell (si + 1) y hy
  have ce2 : w.cell? ⟨b, o + (si + 2), none⟩ = some (.int .u8 61) := cell (si + 2) 61 he2
  have ce3 : w.cell? ⟨b, o + (si + 3), none⟩ = some (.int .u8 61) := cell (si + 3) 61 he3
  obtain ⟨d0, f0⟩ := H.cellq 1 rfl off _ (Array.getElem?_eq_getElem (by omega))
  generalize cs[off] = o0 at d0
  have hstr := (H.cellq 0 rfl 321 _ (ecells_atS _ _ _ (letX_len url) (decX_len url))).1
  have hpad := (H.cellq 0 rfl 320 _ (ecells_atP _ _ _ (letX_len url) (decX_len url))).1
  have hgb := cell_ltQ cx
  have hgg : g < w.heap.size := H.blk_lt 0 rfl
  have hgd : gd < w.heap.size := H.blk_lt 1 rfl
  clear cell hC H hx hy he2 he3
  obtain ⟨q0, hq0⟩ : ∃ q0, q0 = dX url x := ⟨_, rfl⟩
  obtain ⟨q1, hq1⟩ : ∃ q1, q1 = dX url y := ⟨_, rfl⟩
  have b0 := dX_lt url x vx
  have b1 := dX_lt url y vy
  rw [← hq0] at dx vx b0 ⊢
  rw [← hq1] at dy vy b1 ⊢
  have ne255 : ∀ q : UInt8, q ≠ 255 → ((q.toNat : Int) != 255) = true := by
    intro q h
    rw [bne_iff_ne]
    intro e
    exact h (UInt8.toNat_inj.1 (by show q.toNat = 255; omega))
  have t0 := ne255 q0 vx
  have t1 := ne255 q1 vy
  obtain ⟨N, hN⟩ : ∃ N, bits .or .u64 (bits .or .u64 (bits .or .u64 ((q0.toNat : Int) * 262144) ((q1.toNat : Int) * 4096)) 0) 0 = N := ⟨_, rfl⟩
  have hv : N = ((q0.toNat * 262144 + q1.toNat * 4096 + (0 : UInt8).toNat * 64 + (0 : UInt8).toNat : Nat) : Int) := by
    rw [← hN, w2_eq q0 q1 b0 b1, or_0 _ (by omega), or_0 _ (by omega), show (0 : UInt8).toNat = 0 from rfl]
    omega
  have HA : Aside0 (N / 65536 % 256 = ((byA q0 q1).toNat : Int)) := ⟨byA_eq q0 q1 0 0 b0 b1 (by decide) (by decide) hv⟩
  clear hv
  have HFit : Aside0 (off + 1 ≤ cs.size) := ⟨by omega⟩
  have HQ0 := Aside0.mk hq0
  have HQ1 := Aside0.mk hq1
  have l0 : ((ts.length : Int) == (si : Int)) = false := by rw [beq_eq_false_iff_ne]; omega
  have l0' : ((si : Int) == (ts.length : Int)) = false := by rw [beq_eq_false_iff_ne]; omega
  have m0 : (si : Int) < (ts.length : Int) := by omega
  have l1 : ((ts.length : Int) == (si : Int) + 1) = false := by rw [beq_eq_false_iff_ne]; omega
  have l1' : ((si : Int) + 1 == (ts.length : Int)) = false := by rw [beq_eq_false_iff_ne]; omega
  have m1 : (si : Int) + 1 < (ts.length : Int) := by omega
  have l2 : ((ts.length : Int) == (si : Int) + 1 + 1) = false := by rw [beq_eq_false_iff_ne]; omega
  have l2' : ((si : Int) + 1 + 1 == (ts.length : Int)) = false := by rw [beq_eq_false_iff_ne]; omega
  have m2 : (si : Int) + 1 + 1 < (ts.length : Int) := by omega
  have l3 : ((ts.length : Int) == (si : Int) + 1 + 1 + 1) = false := by rw [beq_eq_false_iff_ne]; omega
  have l3' : ((si : Int) + 1 + 1 + 1 == (ts.length : Int)) = false := by rw [beq_eq_false_iff_ne]; omega
  have m3 : (si : Int) + 1 + 1 + 1 < (ts.length : Int) := by omega
  have l4 : ((ts.length : Int) == (si : Int) + 1 + 1 + 1 + 1) = true := by rw [beq_iff_eq]; omega
  have l4' : ((si : Int) + 1 + 1 + 1 + 1 == (ts.length : Int)) = true := by rw [beq_iff_eq]; omega
  have m4 : ¬ ((si : Int) + 1 + 1 + 1 + 1 < (ts.length : Int)) := by omega
  have hlx := x.toNat_lt
  have hly := y.toNat_lt
  clear hq0 hq1 ne255 vx vy
  go_enter Tryz.func199, Tryz.ntmps199
  go_wp2_with ((with_reducible refine at_dst (N := 20) rfl ?_); refine wpList_load_mid rfl 114 (.tmp 19) rfl g 64 rfl ((decX url).map bV) _ HRg.out Tryz.underlying114 rfl HSz.out ?_)
  refine wp_loop_rounds 5 ?_
  rw [rounds_succ]
  go_wp2
  rw [rounds_succ]
  go_wp2
  rw [rounds_succ]
  go_wp2
  refine wp_loop_rounds 1 ?_
  rw [rounds_succ]
  go_wp2
  go_quiet (fail)
  go_wp2
  refine wp_loop_rounds 1 ?_
  rw [rounds_succ]
  go_wp2
  refine bodyPost_ret (results_tmp3 rfl _ _ _) rfl ?_
  refine ⟨?_, _, wrote1 cs off (byA q0 q1) HFit.out, ?_⟩
  · first
    | rfl
    | (have e : (si : Int) + 1 + 1 + 1 + 1 = ((si + 4 : Nat) : Int) := by omega
       rw [← e]
       rfl)
    | (have e : (si : Int) + 1 + 1 + 1 + 1 = (si : Int) + 4 := by omega
       rw [← e]
       rfl)
  · have h := ((((((HH.out.alloc (.cells #[.int .u8 (q0.toNat : Int), .int .u8 (q1.toNat : Int), .int .u8 0, .int .u8 0] 267)).drewN nq).store 0 rfl 2 (.int .u8 (N % 256))).store 0 rfl 1 (.int .u8 (N / 256 % 256))).store 0 rfl 0 (.int .u8 (N / 65536 % 256))).store 2 rfl off (.int .u8 (N / 65536 % 256))).tail
    rw [HA.out] at h ⊢
    exact h
set_option maxRecDepth 100000 in
set_option maxHeartbeats 4000000 in
theorem qe_c3 {w0 : World} {B : Nat} {L : List Asrt} (w : World) (url : Bool) (g gd off b o n c m cap t si : Nat) (D : Option Addr) (ts : List UInt8) (cs : Array Value) (hn : n ≤ 1000000000) (hD : D = some ⟨gd, off, none⟩) (hm : 2 ≤ m) (hfit : off + m ≤ cs.size) (hne : g ≠ gd) (H : Hold w0 B w (.blk g (.cells (encX url 61) 220) :: .blk gd (.cells cs t) :: L)) (hC : kB.C w (some ⟨b, o, none⟩) n ts) (hs : n = si + 4) (x y z : UInt8) (hx : ts[si]? = some x) (hy : ts[si + 1]? = some y) (hz : ts[si + 2]? = some z) (vx : dX url x ≠ 255) (vy : dX url y ≠ 255) (vz : dX url z ≠ 255) (he3 : ts[si + 3]? = some 61) :
    Calls Tryz.prog 199 #[.pointer (some ⟨g, 0, none⟩), .slice D m cap, .slice (some ⟨b, o, none⟩) n c, .int .i64 si] w fun e w' => e = .returned (.tuple #[.int .i64 (si + 4 : Nat), .int .i64 2, .nilIface]) ∧ ∃ cs', Wrote cs cs' off [byA (dX url x) (dX url y), byB (dX url y) (dX url z)] ∧ Hold w0 B w' (.blk g (.cells (encX url 61) 220) :: .blk gd (.cells cs' t) :: L) := by
  obtain rfl := hC.1
  subst hD
  have HH := Aside0.mk H
  have HRg := Aside0.mk (H.alloc_ (.cells #[.int .u8 0, .int .u8 0, .int .u8 0, .int .u8 0] 267)).rangeD
  have HSz := Aside0.mk (sizeD url)
  have hu79 := Tryz.underlying220
  have dx := H.dcell x
  have dy := H.dcell y
  have dz := H.dcell z
  have d61 : w.cell? ⟨g, 125, none⟩ = some (.int .u8 255) := by
    have h := H.dcell 61
    rw [dX_61 url] at h
    exact h
  have cell : ∀ j v, ts[j]? = some v → w.cell? ⟨b, o + j, none⟩ = some (.int .u8 (v.toNat : Int)) := by
    intro j v hv
    obtain ⟨hj, rfl⟩ := List.getElem?_eq_some_iff.1 hv
    exact cell_of_C hC j hj
  have cx := cell si x hx
  have cy := cell (si + 1) y hy
  have cz := cell (si + 2) z hz
  have ce3 : w.cell? ⟨b, o + (si + 3), none⟩ = some (.int .u8 61) := cell (si + 3) 61 he3
  obtain ⟨d0, f0⟩ := H.cellq 1 rfl off _ (Array.getElem?_eq_getElem (by omega))
  obtain ⟨d1, f1⟩ := H.cellq 1 rfl (off + 1) _ (Array.getElem?_eq_getElem (by omega))
  generalize cs[off] = o0 at d0
  generalize cs[off + 1] = o1 at d1
  have hstr := (H.cellq 0 rfl 321 _ (ecells_atS _ _ _ (letX_len url) (decX_len url))).1
  have hpad := (H.cellq 0 rfl 320 _ (ecells_atP _ _ _ (letX_len url) (decX_len url))).1
  have hgb := cell_ltQ cx
  have hgg : g < w.heap.size := H.blk_lt 0 rfl
  have hgd : gd < w.heap.size := H.blk_lt 1 rfl
  clear cell hC H hx hy hz he3
  obtain ⟨q0, hq0⟩ : ∃ q0, q0 = dX url x := ⟨_, rfl⟩
  obtain ⟨q1, hq1⟩ : ∃ q1, q1 = dX url y := ⟨_, rfl⟩
  obtain ⟨q2, hq2⟩ : ∃ q2, q2 = dX url z := ⟨_, rfl⟩
  have b0 := dX_lt url x vx
  have b1 := dX_lt url y vy
  have b2 := dX_lt url z vz
  rw [← hq0] at dx vx b0 ⊢
  rw [← hq1] at dy vy b1 ⊢
  rw [← hq2] at dz vz b2 ⊢
  have ne255 : ∀ q : UInt8, q ≠ 255 → ((q.toNat : Int) != 255) = true := by
    intro q h
    rw [bne_iff_ne]
    intro e
    exact h (UInt8.toNat_inj.1 (by show q.toNat = 255; omega))
  have t0 := ne255 q0 vx
  have t1 := ne255 q1 vy
  have t2 := ne255 q2 vz
  obtain ⟨N, hN⟩ : ∃ N, bits .or .u64 (bits .or .u64 (bits .or .u64 ((q0.toNat : Int) * 262144) ((q1.toNat : Int) * 4096)) ((q2.toNat : Int) * 64)) 0 = N := ⟨_, rfl⟩
  have hv := hN.symm.trans (w3_eq q0 q1 q2 b0 b1 b2)
  have HA : Aside0 (N / 65536 % 256 = ((byA q0 q1).toNat : Int)) := ⟨byA_eq q0 q1 q2 0 b0 b1 b2 (by decide) hv⟩
  have HB : Aside0 (N / 256 % 256 = ((byB q1 q2).toNat : Int)) := ⟨byB_eq q0 q1 q2 0 b0 b1 b2 (by decide) hv⟩
  clear hv
  have HFit : Aside0 (off + 2 ≤ cs.size) := ⟨by omega⟩
  have HQ0 := Aside0.mk hq0
  have HQ1 := Aside0.mk hq1
  have HQ2 := Aside0.mk hq2
  have l0 : ((ts.length : Int) == (si : Int)) = false := by rw [beq_eq_false_iff_ne]; omega
  have l0' : ((si : Int) == (ts.length : Int)) = false := by rw [beq_eq_false_iff_ne]; omega
  have m0 : (si : Int) < (ts.length : Int) := by omega
  have l1 : ((ts.length : Int) == (si : Int) + 1) = false := by rw [beq_eq_false_iff_ne]; omega
  have l1' : ((si : Int) + 1 == (ts.length : Int)) = false := by rw [beq_eq_false_iff_ne]; omega
  have m1 : (si : Int) + 1 < (ts.length : Int) := by omega
  have l2 : ((ts.length : Int) == (si : Int) + 1 + 1) = false := by rw [beq_eq_false_iff_ne]; omega
  have l2' : ((si : Int) + 1 + 1 == (ts.length : Int)) = false := by rw [beq_eq_false_iff_ne]; omega
  have m2 : (si : Int) + 1 + 1 < (ts.length : Int) := by omega
  have l3 : ((ts.length : Int) == (si : Int) + 1 + 1 + 1) = false := by rw [beq_eq_false_iff_ne]; omega
  have l3' : ((si : Int) + 1 + 1 + 1 == (ts.length : Int)) = false := by rw [beq_eq_false_iff_ne]; omega
  have m3 : (si : Int) + 1 + 1 + 1 < (ts.length : Int) := by omega
  have l4 : ((ts.length : Int) == (si : Int) + 1 + 1 + 1 + 1) = true := by rw [beq_iff_eq]; omega
  have l4' : ((si : Int) + 1 + 1 + 1 + 1 == (ts.length : Int)) = true := by rw [beq_iff_eq]; omega
  have m4 : ¬ ((si : Int) + 1 + 1 + 1 + 1 < (ts.length : Int)) := by omega
  have hlx := x.toNat_lt
  have hly := y.toNat_lt
  have hlz := z.toNat_lt
  clear hq0 hq1 hq2 ne255 vx vy vz
  go_enter Tryz.func199, Tryz.ntmps199
  go_wp2_with ((with_reducible refine at_dst (N := 20) rfl ?_); refine wpList_load_mid rfl 114 (.tmp 19) rfl g 64 rfl ((decX url).map bV) _ HRg.out Tryz.underlying114 rfl HSz.out ?_)
  refine wp_loop_rounds 5 ?_
  rw [rounds_succ]
  go_wp2
  rw [rounds_succ]
  go_wp2
  rw [rounds_succ]
  go_wp2
  rw [rounds_succ]
  go_wp2
  refine wp_loop_rounds 1 ?_
  rw [rounds_succ]
  go_wp2
  refine bodyPost_ret (results_tmp3 rfl _ _ _) rfl ?_
  refine ⟨?_, _, wrote2 cs off (byA q0 q1) (byB q1 q2) HFit.out, ?_⟩
  · first
    | rfl
    | (have e : (si : Int) + 1 + 1 + 1 + 1 = ((si + 4 : Nat) : Int) := by omega
       rw [← e]
       rfl)
    | (have e : (si : Int) + 1 + 1 + 1 + 1 = (si : Int) + 4 := by omega
       rw [← e]
       rfl)
  · have h := (((HH.out.store 1 rfl (off + 1) (.int .u8 (N / 256 % 256))).store 1 rfl off (.int .u8 (N / 65536 % 256))).alloc_ (.cells #[.int .u8 (N / 65536 % 256), .int .u8 0, .int .u8 (N % 256), .int .u8 0] 267))
    rw [HA.out, HB.out] at h ⊢
    exact h
end Go.Proofs.YtdldblfklalaeaaGreatDoor
