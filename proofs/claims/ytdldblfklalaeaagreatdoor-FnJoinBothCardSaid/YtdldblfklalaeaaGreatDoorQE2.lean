/-
  encoding/base64: decodeQuantum where it meets padding, or an error: part 3 of 3. (Printed by qleaf.py.)
-/
import Derived.Test.YtdldblfklalaeaaGreatDoorSb
namespace Go.Proofs.YtdldblfklalaeaaGreatDoor
open Go.RowKit Go.Proofs.YtdldblfklalaeaaGreatDoorW.PrintWords Go.Lib
set_option linter.unusedVariables false
set_option linter.unusedSimpArgs false
set_option maxRecDepth 100000 in
set_option maxHeartbeats 4000000 in
theorem qe_2 {w0 : World} {B : Nat} {L : List Asrt} (w : World) (url : Bool) (g gd off b o n c m cap t si : Nat) (D : Option Addr) (ts : List UInt8) (cs : Array Value) (hn : n ≤ 1000000000) (hne : g ≠ gd) (H : Hold w0 B w (.blk g (.cells (encX url 61) 220) :: .blk gd (.cells cs t) :: L)) (hC : kB.C w (some ⟨b, o, none⟩) n ts) (hs : si + 2 ≤ n) (x : UInt8) (hx : ts[si]? = some x) (vx : dX url x ≠ 255) (he1 : ts[si + 1]? = some 61) :
    Calls Tryz.prog 199 #[.pointer (some ⟨g, 0, none⟩), .slice D m cap, .slice (some ⟨b, o, none⟩) n c, .int .i64 si] w fun e w' => (∃ s k t' v, e = .returned (.tuple #[.int .i64 s, .int .i64 k, .iface t' v])) ∧ ∃ cs', cs'.size = cs.size ∧ Hold w0 B w' (.blk g (.cells (encX url 61) 220) :: .blk gd (.cells cs' t) :: L) := by
  obtain rfl := hC.1
  have HH := Aside0.mk H
  have HRg := Aside0.mk (H.alloc_ (.cells #[.int .u8 0, .int .u8 0, .int .u8 0, .int .u8 0] 267)).rangeD
  have HSz := Aside0.mk (sizeD url)
  have hu79 := Tryz.underlying220
  have dx := H.dcell x
  have d61 : w.cell? ⟨g, 125, none⟩ = some (.int .u8 255) := by
    have h := H.dcell 61
    rw [dX_61 url] at h
    exact h
  have cell : ∀ j v, ts[j]? = some v → w.cell? ⟨b, o + j, none⟩ = some (.int .u8 (v.toNat : Int)) := by
    intro j v hv
    obtain ⟨hj, rfl⟩ := List.getElem?_eq_some_iff.1 hv
    exact cell_of_C hC j hj
  have cx := cell si x hx
  have ce1 : w.cell? ⟨b, o + (si + 1), none⟩ = some (.int .u8 61) := cell (si + 1) 61 he1
  have hstr := (H.cellq 0 rfl 321 _ (ecells_atS _ _ _ (letX_len url) (decX_len url))).1
  have hpad := (H.cellq 0 rfl 320 _ (ecells_atP _ _ _ (letX_len url) (decX_len url))).1
  have hgb := cell_ltQ cx
  have hgg : g < w.heap.size := H.blk_lt 0 rfl
  have hgd : gd < w.heap.size := H.blk_lt 1 rfl
  clear cell hC H hx he1
  obtain ⟨q0, hq0⟩ : ∃ q0, q0 = dX url x := ⟨_, rfl⟩
  have b0 := dX_lt url x vx
  rw [← hq0] at dx vx b0
  have ne255 : ∀ q : UInt8, q ≠ 255 → ((q.toNat : Int) != 255) = true := by
    intro q h
    rw [bne_iff_ne]
    intro e
    exact h (UInt8.toNat_inj.1 (by show q.toNat = 255; omega))
  have t0 := ne255 q0 vx
  have HQ0 := Aside0.mk hq0
  have l0 : ((ts.length : Int) == (si : Int)) = false := by rw [beq_eq_false_iff_ne]; omega
  have l0' : ((si : Int) == (ts.length : Int)) = false := by rw [beq_eq_false_iff_ne]; omega
  have m0 : (si : Int) < (ts.length : Int) := by omega
  have l1 : ((ts.length : Int) == (si : Int) + 1) = false := by rw [beq_eq_false_iff_ne]; omega
  have l1' : ((si : Int) + 1 == (ts.length : Int)) = false := by rw [beq_eq_false_iff_ne]; omega
  have m1 : (si : Int) + 1 < (ts.length : Int) := by omega
  have hlx := x.toNat_lt
  clear hq0 ne255 vx
  go_enter Tryz.func199, Tryz.ntmps199
  go_wp2_with ((with_reducible refine at_dst (N := 20) rfl ?_); refine wpList_load_mid rfl 114 (.tmp 19) rfl g 64 rfl ((decX url).map bV) _ HRg.out Tryz.underlying114 rfl HSz.out ?_)
  refine wp_loop_rounds 5 ?_
  rw [rounds_succ]
  go_wp2
  rw [rounds_succ]
  go_wp2
  refine bodyPost_ret (results_tmp3 rfl _ _ _) rfl ?_
  exact ⟨⟨_, _, _, _, rfl⟩, cs, rfl, HH.out.alloc_ _⟩
set_option maxRecDepth 100000 in
set_option maxHeartbeats 4000000 in
theorem qe_4b {w0 : World} {B : Nat} {L : List Asrt} (w : World) (url : Bool) (g gd off b o n c m cap t si : Nat) (D : Option Addr) (ts : List UInt8) (cs : Array Value) (hn : n ≤ 1000000000) (hne : g ≠ gd) (H : Hold w0 B w (.blk g (.cells (encX url 61) 220) :: .blk gd (.cells cs t) :: L)) (hC : kB.C w (some ⟨b, o, none⟩) n ts) (hs : si + 4 ≤ n) (x y : UInt8) (hx : ts[si]? = some x) (hy : ts[si + 1]? = some y) (vx : dX url x ≠ 255) (vy : dX url y ≠ 255) (he2 : ts[si + 2]? = some 61) (cc : UInt8) (hcc : ts[si + 3]? = some cc) (nc : cc ≠ 10 ∧ cc ≠ 13 ∧ cc ≠ 61) :
    Calls Tryz.prog 199 #[.pointer (some ⟨g, 0, none⟩), .slice D m cap, .slice (some ⟨b, o, none⟩) n c, .int .i64 si] w fun e w' => (∃ s k t' v, e = .returned (.tuple #[.int .i64 s, .int .i64 k, .iface t' v])) ∧ ∃ cs', cs'.size = cs.size ∧ Hold w0 B w' (.blk g (.cells (encX url 61) 220) :: .blk gd (.cells cs' t) :: L) := by
  obtain rfl := hC.1
  have HH := Aside0.mk H
  have HRg := Aside0.mk (H.alloc_ (.cells #[.int .u8 0, .int .u8 0, .int .u8 0, .int .u8 0] 267)).rangeD
  have HSz := Aside0.mk (sizeD url)
  have hu79 := Tryz.underlying220
  have dx := H.dcell x
  have dy := H.dcell y
  have d61 : w.cell? ⟨g, 125, none⟩ = some (.int .u8 255) := by
    have h := H.dcell 61
    rw [dX_61 url] at h
    exact h
  have cell : ∀ j v, ts[j]? = some v → w.cell? ⟨b, o + j, none⟩ = some (.int .u8 (v.toNat : Int)) := by
    intro j v hv
    obtain ⟨hj, rfl⟩ := List.getElem?_eq_some_iff.1 hv
    exact cell_of_C hC j hj
  have cx := cell si x hx
  have cy := cell (si + 1) y hy
  have ce2 : w.cell? ⟨b, o + (si + 2), none⟩ = some (.int .u8 61) := cell (si + 2) 61 he2
  have ccc := cell (si + 3) cc hcc
  have n10 : ((cc.toNat : Int) == 10) = false := by
    rw [beq_eq_false_iff_ne]; intro e; exact nc.1 (UInt8.toNat_inj.1 (by show cc.toNat = 10; omega))
  have n13 : ((cc.toNat : Int) == 13) = false := by
    rw [beq_eq_false_iff_ne]; intro e; exact nc.2.1 (UInt8.toNat_inj.1 (by show cc.toNat = 13; omega))
  have n61 : ((cc.toNat : Int) != 61) = true := by
    rw [bne_iff_ne]; intro e; exact nc.2.2 (UInt8.toNat_inj.1 (by show cc.toNat = 61; omega))
  have hlc := cc.toNat_lt
  have hstr := (H.cellq 0 rfl 321 _ (ecells_atS _ _ _ (letX_len url) (decX_len url))).1
  have hpad := (H.cellq 0 rfl 320 _ (ecells_atP _ _ _ (letX_len url) (decX_len url))).1
  have hgb := cell_ltQ cx
  have hgg : g < w.heap.size := H.blk_lt 0 rfl
  have hgd : gd < w.heap.size := H.blk_lt 1 rfl
  clear cell hC H hx hy he2 hcc nc
  obtain ⟨q0, hq0⟩ : ∃ q0, q0 = dX url x := ⟨_, rfl⟩
  obtain ⟨q1, hq1⟩ : ∃ q1, q1 = dX url y := ⟨_, rfl⟩
  have b0 := dX_lt url x vx
  have b1 := dX_lt url y vy
  rw [← hq0] at dx vx b0
  rw [← hq1] at dy vy b1
  have ne255 : ∀ q : UInt8, q ≠ 255 → ((q.toNat : Int) != 255) = true := by
    intro q h
    rw [bne_iff_ne]
    intro e
    exact h (UInt8.toNat_inj.1 (by show q.toNat = 255; omega))
  have t0 := ne255 q0 vx
  have t1 := ne255 q1 vy
  have HQ0 := Aside0.mk hq0
  have HQ1 := Aside0.mk hq1
  have l0 : ((ts.length : Int) == (si : Int)) = false := by rw [beq_eq_false_iff_ne]; omega
  have l0' : ((si : Int) == (ts.length : Int)) = false := by rw [beq_eq_false_iff_ne]; omega
  have m0 : (si : Int) < (ts.length : Int) := by omega
  have l1 : ((ts.length : Int) == (si : Int) + 1) = false := by rw [beq_eq_false_iff_ne]; omega
  have l1' : ((si : Int) + 1 == (ts.length : Int)) = false := by rw [beq_eq_false_iff_ne]; omega
  have m1 : (si : Int) + 1 < (ts.length : Int) := by omega
  have l2 : ((ts.length : Int) == (si : Int) + 1 + 1) = false := by rw [beq_eq_false_iff_ne]; omega
  have l2' : ((si : Int) + 1 + 1 == (ts.length : Int)) = false := by rw [beq_eq_false_iff_ne]; omega
  have m2 : (si : Int) + 1 + 1 < (ts.length : Int) := by omega
  have l3 : ((ts.length : Int) == (si : Int) + 1 + 1 + 1) = false := by rw [beq_eq_false_iff_ne]; omega
  have l3' : ((si : Int) + 1 + 1 + 1 == (ts.length : Int)) = false := by rw [beq_eq_false_iff_ne]; omega
  have m3 : (si : Int) + 1 + 1 + 1 < (ts.length : Int) := by omega
  have hlx := x.toNat_lt
  have hly := y.toNat_lt
  clear hq0 hq1 ne255 vx vy
  go_enter Tryz.func199, Tryz.ntmps199
  go_wp2_with ((with_reducible refine at_dst (N := 20) rfl ?_); refine wpList_load_mid rfl 114 (.tmp 19) rfl g 64 rfl ((decX url).map bV) _ HRg.out Tryz.underlying114 rfl HSz.out ?_)
  refine wp_loop_rounds 5 ?_
  rw [rounds_succ]
  go_wp2
  rw [rounds_succ]
  go_wp2
  rw [rounds_succ]
  go_wp2
  refine wp_loop_rounds 1 ?_
  rw [rounds_succ]
  go_wp2
  go_quiet (fail)
  go_wp2
  refine bodyPost_ret (results_tmp3 rfl _ _ _) rfl ?_
  exact ⟨⟨_, _, _, _, rfl⟩, cs, rfl, (HH.out.alloc_ _).drewN _⟩
set_option maxRecDepth 100000 in
set_option maxHeartbeats 4000000 in
theorem qe_5 {w0 : World} {B : Nat} {L : List Asrt} (w : World) (url : Bool) (g gd off b o n c m cap t si : Nat) (D : Option Addr) (ts : List UInt8) (cs : Array Value) (hn : n ≤ 1000000000) (hne : g ≠ gd) (H : Hold w0 B w (.blk g (.cells (encX url 61) 220) :: .blk gd (.cells cs t) :: L)) (hC : kB.C w (some ⟨b, o, none⟩) n ts) (hs : n = si + 3) (x y z : UInt8) (hx : ts[si]? = some x) (hy : ts[si + 1]? = some y) (hz : ts[si + 2]? = some z) (vx : dX url x ≠ 255) (vy : dX url y ≠ 255) (vz : dX url z ≠ 255) :
    Calls Tryz.prog 199 #[.pointer (some ⟨g, 0, none⟩), .slice D m cap, .slice (some ⟨b, o, none⟩) n c, .int .i64 si] w fun e w' => (∃ s k t' v, e = .returned (.tuple #[.int .i64 s, .int .i64 k, .iface t' v])) ∧ ∃ cs', cs'.size = cs.size ∧ Hold w0 B w' (.blk g (.cells (encX url 61) 220) :: .blk gd (.cells cs' t) :: L) := by
  obtain rfl := hC.1
  have HH := Aside0.mk H
  have HRg := Aside0.mk (H.alloc_ (.cells #[.int .u8 0, .int .u8 0, .int .u8 0, .int .u8 0] 267)).rangeD
  have HSz := Aside0.mk (sizeD url)
  have hu79 := Tryz.underlying220
  have dx := H.dcell x
  have dy := H.dcell y
  have dz := H.dcell z
  have cell : ∀ j v, ts[j]? = some v → w.cell? ⟨b, o + j, none⟩ = some (.int .u8 (v.toNat : Int)) := by
    intro j v hv
    obtain ⟨hj, rfl⟩ := List.getElem?_eq_some_iff.1 hv
    exact cell_of_C hC j hj
  have cx := cell si x hx
  have cy := cell (si + 1) y hy
  have cz := cell (si + 2) z hz
  have hstr := (H.cellq 0 rfl 321 _ (ecells_atS _ _ _ (letX_len url) (decX_len url))).1
  have hpad := (H.cellq 0 rfl 320 _ (ecells_atP _ _ _ (letX_len url) (decX_len url))).1
  have hgb := cell_ltQ cx
  have hgg : g < w.heap.size := H.blk_lt 0 rfl
  have hgd : gd < w.heap.size := H.blk_lt 1 rfl
  clear cell hC H hx hy hz
  obtain ⟨q0, hq0⟩ : ∃ q0, q0 = dX url x := ⟨_, rfl⟩
  obtain ⟨q1, hq1⟩ : ∃ q1, q1 = dX url y := ⟨_, rfl⟩
  obtain ⟨q2, hq2⟩ : ∃ q2, q2 = dX url z := ⟨_, rfl⟩
  have b0 := dX_lt url x vx
  have b1 := dX_lt url y vy
  have b2 := dX_lt url z vz
  rw [← hq0] at dx vx b0
  rw [← hq1] at dy vy b1
  rw [← hq2] at dz vz b2
  have ne255 : ∀ q : UInt8, q ≠ 255 → ((q.toNat : Int) != 255) = true := by
    intro q h
    rw [bne_iff_ne]
    intro e
    exact h (UInt8.toNat_inj.1 (by show q.toNat = 255; omega))
  have t0 := ne255 q0 vx
  have t1 := ne255 q1 vy
  have t2 := ne255 q2 vz
  have HQ0 := Aside0.mk hq0
  have HQ1 := Aside0.mk hq1
  have HQ2 := Aside0.mk hq2
  have l0 : ((ts.length : Int) == (si : Int)) = false := by rw [beq_eq_false_iff_ne]; omega
  have l0' : ((si : Int) == (ts.length : Int)) = false := by rw [beq_eq_false_iff_ne]; omega
  have m0 : (si : Int) < (ts.length : Int) := by omega
  have l1 : ((ts.length : Int) == (si : Int) + 1) = false := by rw [beq_eq_false_iff_ne]; omega
  have l1' : ((si : Int) + 1 == (ts.length : Int)) = false := by rw [beq_eq_false_iff_ne]; omega
  have m1 : (si : Int) + 1 < (ts.length : Int) := by omega
  have l2 : ((ts.length : Int) == (si : Int) + 1 + 1) = false := by rw [beq_eq_false_iff_ne]; omega
  have l2' : ((si : Int) + 1 + 1 == (ts.length : Int)) = false := by rw [beq_eq_false_iff_ne]; omega
  have m2 : (si : Int) + 1 + 1 < (ts.length : Int) := by omega
  have l3 : ((ts.length : Int) == (si : Int) + 1 + 1 + 1) = true := by rw [beq_iff_eq]; omega
  have l3' : ((si : Int) + 1 + 1 + 1 == (ts.length : Int)) = true := by rw [beq_iff_eq]; omega
  have m3 : ¬ ((si : Int) + 1 + 1 + 1 < (ts.length : Int)) := by omega
  have hlx := x.toNat_lt
  have hly := y.toNat_lt
  have hlz := z.toNat_lt
  clear hq0 hq1 hq2 ne255 vx vy vz
  go_enter Tryz.func199, Tryz.ntmps199
  go_wp2_with ((with_reducible refine at_dst (N := 20) rfl ?_); refine wpList_load_mid rfl 114 (.tmp 19) rfl g 64 rfl ((decX url).map bV) _ HRg.out Tryz.underlying114 rfl HSz.out ?_)
  refine wp_loop_rounds 5 ?_
  rw [rounds_succ]
  go_wp2
  rw [rounds_succ]
  go_wp2
  rw [rounds_succ]
  go_wp2
  rw [rounds_succ]
  go_wp2
  refine bodyPost_ret (results_tmp3 rfl _ _ _) rfl ?_
  exact ⟨⟨_, _, _, _, rfl⟩, cs, rfl, HH.out.alloc_ _⟩
end Go.Proofs.YtdldblfklalaeaaGreatDoor
