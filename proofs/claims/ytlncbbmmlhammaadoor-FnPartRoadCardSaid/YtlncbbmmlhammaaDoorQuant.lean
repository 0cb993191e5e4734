/-
  encoding/base64: decodeQuantum on letters (no ends of lines): its contract, case by case. (Under way.)
-/
import Derived.Test.YtlncbbmmlhammaaDoorGuess
import Derived.Test.YtlncbbmmlhammaaDoorB32
import Derived.LoopN
namespace Go.Proofs.YtlncbbmmlhammaaDoor
open Go.RowKit Go.Proofs.YtlncbbmmlhammaaDoorW.PrintWords Go.Lib
set_option linter.unusedVariables false
set_option linter.unusedSimpArgs false
def dX (url : Bool) (c : UInt8) : UInt8 := (decX url).getD c.toNat 0
theorem Hold.rangeD {w0 : World} {B : Nat} {w : World} {L : List Asrt} {url : Bool} {g t : Nat} {p : Int} (H : Hold w0 B w (.blk g (.cells (encX url p) t) :: L)) : w.rangeAt g 64 ((decX url).map bV) := by
  intro j v hv
  have hj : j < 256 := by
    have := (List.getElem?_eq_some_iff.1 hv).1
    rwa [List.length_map, decX_len] at this
  have := (H.cellq 0 rfl (64 + j) _ (ecells_atD (letX url) (decX url) p (letX_len url) (decX_len url) j hj)).1
  rw [this]
  rw [List.getElem?_map, List.getElem?_eq_getElem (by rw [decX_len]; exact hj)] at hv
  rw [List.getD_eq_getElem?_getD, List.getElem?_eq_getElem (by rw [decX_len]; exact hj)]
  exact hv
theorem sizeD (url : Bool) : (Tryd.prog.info? 68).map (·.size) = some ((decX url).map bV).length := by
  rw [List.length_map, decX_len]
  kernel_rfl
theorem Hold.dcell {w0 : World} {B : Nat} {w : World} {L : List Asrt} {url : Bool} {g t : Nat} {p : Int} (H : Hold w0 B w (.blk g (.cells (encX url p) t) :: L)) (c : UInt8) : w.cell? ⟨g, 64 + c.toNat, none⟩ = some (.int .u8 ((dX url c).toNat : Int)) :=
  (H.cellq 0 rfl (64 + c.toNat) _ (ecells_atD (letX url) (decX url) p (letX_len url) (decX_len url) c.toNat c.toNat_lt)).1
/-- Bytes written into a block from a place on; what lies ahead of them stays. -/
structure Wrote (cs cs' : Array Value) (off : Nat) (bs : List UInt8) : Prop where
  size : cs'.size = cs.size
  pre : cs'.toList.take (off + bs.length) = cs.toList.take off ++ bs.map bV
theorem wrote3 (cs : Array Value) (off : Nat) (a b c : UInt8) (h : off + 3 ≤ cs.size) : Wrote cs (((cs.setIfInBounds (off + 2) (bV c)).setIfInBounds (off + 1) (bV b)).setIfInBounds off (bV a)) off [a, b, c] := by
  constructor
  · simp
  · apply List.ext_getElem?
    intro i
    simp only [Array.toList_setIfInBounds, List.length_cons, List.length_nil, List.getElem?_take, List.getElem?_set, List.length_set, List.map_cons, List.map_nil, List.getElem?_append, List.length_take]
    have hl : cs.toList.length = cs.size := by simp
    rw [hl, Nat.min_eq_left (by omega)]
    rcases Nat.lt_or_ge i off with h1 | h1
    · rw [if_pos (by omega), if_neg (by omega), if_neg (by omega), if_neg (by omega), if_pos h1, if_pos h1]
    · obtain ⟨j, rfl⟩ : ∃ j, i = off + j := ⟨i - off, by omega⟩
      rw [if_neg (show ¬ off + j < off by omega), Nat.add_sub_cancel_left]
      match j with
      | 0 => simp; omega
      | 1 => simp; omega
      | 2 => simp; omega
      | j + 3 => rw [if_neg (by omega)]; rfl
theorem dX_lt (url : Bool) (c : UInt8) (h : dX url c ≠ 255) : (dX url c).toNat < 64 := by
  have hall : ∀ u : Bool, (decX u).all (fun q => q == 255 || decide (q.toNat < 64)) = true := by decide +kernel
  have hc := c.toNat_lt
  have hm : dX url c ∈ decX url := by
    unfold dX
    rw [List.getD_eq_getElem?_getD, List.getElem?_eq_getElem (by rw [decX_len]; exact hc)]
    exact List.getElem_mem _
  have := List.all_eq_true.1 (hall url) _ hm
  simp only [Bool.or_eq_true, beq_iff_eq, decide_eq_true_eq] at this
  rcases this with h2 | h2
  · exact absurd h2 h
  · exact h2
theorem v4_eq (a b c d : UInt8) (ha : a.toNat < 64) (hb : b.toNat < 64) (hc : c.toNat < 64) (hd : d.toNat < 64) : bits .or .u64 (bits .or .u64 (bits .or .u64 (IntKind.u64.wrap (IntKind.u64.wrap (a.toNat : Int) * 262144)) (IntKind.u64.wrap (IntKind.u64.wrap (b.toNat : Int) * 4096))) (IntKind.u64.wrap (IntKind.u64.wrap (c.toNat : Int) * 64))) (IntKind.u64.wrap (d.toNat : Int)) = ((a.toNat * 262144 + b.toNat * 4096 + c.toNat * 64 + d.toNat : Nat) : Int) := by
  rw [wrapN a.toNat (by omega), wrapN b.toNat (by omega), wrapN c.toNat (by omega), wrapN d.toNat (by omega)]
  rw [show (a.toNat : Int) * 262144 = ((a.toNat * 262144 : Nat) : Int) by omega, show (b.toNat : Int) * 4096 = ((b.toNat * 4096 : Nat) : Int) by omega, show (c.toNat : Int) * 64 = ((c.toNat * 64 : Nat) : Int) by omega]
  rw [wrapN _ (by omega), wrapN _ (by omega), wrapN _ (by omega), orN _ _ (by omega) (by omega)]
  rw [show a.toNat * 262144 = a.toNat * 2 ^ 18 from rfl, or_add a.toNat (b.toNat * 4096) 18 (by omega), orN _ _ (by omega) (by omega)]
  rw [show a.toNat * 2 ^ 18 + b.toNat * 4096 = (a.toNat * 64 + b.toNat) * 2 ^ 12 by omega, or_add _ (c.toNat * 64) 12 (by omega), orN _ _ (by omega) (by omega)]
  rw [show (a.toNat * 64 + b.toNat) * 2 ^ 12 + c.toNat * 64 = ((a.toNat * 64 + b.toNat) * 64 + c.toNat) * 2 ^ 6 by omega, or_add _ d.toNat 6 (by omega)]
def byA (a b : UInt8) : UInt8 := UInt8.ofNat (a.toNat * 4 + b.toNat / 16)
def byB (b c : UInt8) : UInt8 := UInt8.ofNat (b.toNat % 16 * 16 + c.toNat / 4)
def byC (c d : UInt8) : UInt8 := UInt8.ofNat (c.toNat % 4 * 64 + d.toNat)
theorem byA_eq {N : Int} (a b c d : UInt8) (ha : a.toNat < 64) (hb : b.toNat < 64) (hc : c.toNat < 64) (hd : d.toNat < 64) (h : N = ((a.toNat * 262144 + b.toNat * 4096 + c.toNat * 64 + d.toNat : Nat) : Int)) : N / 65536 % 256 = ((byA a b).toNat : Int) := by
  unfold byA
  rw [UInt8.toNat_ofNat_of_lt' (show a.toNat * 4 + b.toNat / 16 < 256 by omega), h]
  generalize a.toNat = a at *
  generalize b.toNat = b at *
  generalize c.toNat = c at *
  generalize d.toNat = d at *
  have e : (a * 262144 + b * 4096 + c * 64 + d) / 65536 % 256 = a * 4 + b / 16 := by omega
  rw [← e]
  omega
theorem byB_eq {N : Int} (a b c d : UInt8) (ha : a.toNat < 64) (hb : b.toNat < 64) (hc : c.toNat < 64) (hd : d.toNat < 64) (h : N = ((a.toNat * 262144 + b.toNat * 4096 + c.toNat * 64 + d.toNat : Nat) : Int)) : N / 256 % 256 = ((byB b c).toNat : Int) := by
  unfold byB
  rw [UInt8.toNat_ofNat_of_lt' (show b.toNat % 16 * 16 + c.toNat / 4 < 256 by omega), h]
  generalize a.toNat = a at *
  generalize b.toNat = b at *
  generalize c.toNat = c at *
  generalize d.toNat = d at *
  have e : (a * 262144 + b * 4096 + c * 64 + d) / 256 % 256 = b % 16 * 16 + c / 4 := by omega
  rw [← e]
  omega
theorem byC_eq {N : Int} (a b c d : UInt8) (ha : a.toNat < 64) (hb : b.toNat < 64) (hc : c.toNat < 64) (hd : d.toNat < 64) (h : N = ((a.toNat * 262144 + b.toNat * 4096 + c.toNat * 64 + d.toNat : Nat) : Int)) : N % 256 = ((byC c d).toNat : Int) := by
  unfold byC
  rw [UInt8.toNat_ofNat_of_lt' (show c.toNat % 4 * 64 + d.toNat < 256 by omega), h]
  generalize a.toNat = a at *
  generalize b.toNat = b at *
  generalize c.toNat = c at *
  generalize d.toNat = d at *
  have e : (a * 262144 + b * 4096 + c * 64 + d) % 256 = c % 4 * 64 + d := by omega
  rw [← e]
  omega
theorem cell_lt {w : World} {b j : Nat} {v : Value} (h : w.cell? ⟨b, j, none⟩ = some v) : b < w.heap.size := by
  rcases Nat.lt_or_ge b w.heap.size with h1 | h1
  · exact h1
  · simp [World.cell?, Array.getElem?_eq_none h1] at h
set_option maxRecDepth 100000 in
set_option maxHeartbeats 4000000 in
theorem quant4_any {w0 : World} {B : Nat} {L : List Asrt} (w : World) (url : Bool) (p : Int) (g gd off b o n c m cap t si : Nat) (D : Option Addr) (ts : List UInt8) (cs : Array Value) (hn : n ≤ 1000000000)
    (hD : D = some ⟨gd, off, none⟩) (hm : 3 ≤ m) (hfit : off + m ≤ cs.size) (hne : g ≠ gd) (H : Hold w0 B w (.blk g (.cells (encX url p) 70) :: .blk gd (.cells cs t) :: L))
    (hC : kB.C w (some ⟨b, o, none⟩) n ts) (hs : si + 4 ≤ n) (x y z u : UInt8) (hx : ts[si]? = some x) (hy : ts[si + 1]? = some y) (hz : ts[si + 2]? = some z) (hu : ts[si + 3]? = some u)
    (vx : dX url x ≠ 255) (vy : dX url y ≠ 255) (vz : dX url z ≠ 255) (vu : dX url u ≠ 255) :
    Calls Tryd.prog 55 #[.pointer (some ⟨g, 0, none⟩), .slice D m cap, .slice (some ⟨b, o, none⟩) n c, .int .i64 si] w fun e w' => e = .returned (.tuple #[.int .i64 (si + 4 : Nat), .int .i64 3, .nilIface]) ∧
      ∃ cs', Wrote cs cs' off [byA (dX url x) (dX url y), byB (dX url y) (dX url z), byC (dX url z) (dX url u)] ∧ Hold w0 B w' (.blk g (.cells (encX url p) 70) :: .blk gd (.cells cs' t) :: L) := by
  obtain rfl := hC.1
  subst hD
  have HH := Aside0.mk H
  have HRg := Aside0.mk (H.alloc_ (.cells #[.int .u8 0, .int .u8 0, .int .u8 0, .int .u8 0] 100)).rangeD
  have HSz := Aside0.mk (sizeD url)
  have hu79 := Tryd.underlying70
  have dx := H.dcell x
  have dy := H.dcell y
  have dz := H.dcell z
  have du := H.dcell u
  have cell : ∀ j v, ts[j]? = some v → w.cell? ⟨b, o + j, none⟩ = some (.int .u8 (v.toNat : Int)) := by
    intro j v hv
    obtain ⟨hj, rfl⟩ := List.getElem?_eq_some_iff.1 hv
    exact cell_of_C hC j hj
  have cx := cell si x hx
  have cy := cell (si + 1) y hy
  have cz := cell (si + 2) z hz
  have cu := cell (si + 3) u hu
  obtain ⟨d0, f0⟩ := H.cellq 1 rfl off _ (Array.getElem?_eq_getElem (by omega))
  obtain ⟨d1, f1⟩ := H.cellq 1 rfl (off + 1) _ (Array.getElem?_eq_getElem (by omega))
  obtain ⟨d2, f2⟩ := H.cellq 1 rfl (off + 2) _ (Array.getElem?_eq_getElem (by omega))
  generalize cs[off] = o0 at d0
  generalize cs[off + 1] = o1 at d1
  generalize cs[off + 2] = o2 at d2
  have hstr := (H.cellq 0 rfl 321 _ (ecells_atS _ _ _ (letX_len url) (decX_len url))).1
  have hgb := cell_lt cx
  have hgg : g < w.heap.size := H.blk_lt 0 rfl
  have hgd : gd < w.heap.size := H.blk_lt 1 rfl
  clear cell hx hy hz hu hC H
  obtain ⟨q0, hq0⟩ : ∃ q0, q0 = dX url x := ⟨_, rfl⟩
  obtain ⟨q1, hq1⟩ : ∃ q1, q1 = dX url y := ⟨_, rfl⟩
  obtain ⟨q2, hq2⟩ : ∃ q2, q2 = dX url z := ⟨_, rfl⟩
  obtain ⟨q3, hq3⟩ : ∃ q3, q3 = dX url u := ⟨_, rfl⟩
  have b0 := dX_lt url x vx
  have b1 := dX_lt url y vy
  have b2 := dX_lt url z vz
  have b3 := dX_lt url u vu
  rw [← hq0] at dx vx b0 ⊢
  rw [← hq1] at dy vy b1 ⊢
  rw [← hq2] at dz vz b2 ⊢
  rw [← hq3] at du vu b3 ⊢
  have ne255 : ∀ q : UInt8, q ≠ 255 → ((q.toNat : Int) != 255) = true := by
    intro q h
    rw [bne_iff_ne]
    intro e
    exact h (UInt8.toNat_inj.1 (by show q.toNat = 255; omega))
  have t0 := ne255 q0 vx
  have t1 := ne255 q1 vy
  have t2 := ne255 q2 vz
  have t3 := ne255 q3 vu
  obtain ⟨N, hN⟩ : ∃ N, bits .or .u64 (bits .or .u64 (bits .or .u64 (IntKind.u64.wrap (IntKind.u64.wrap (q0.toNat : Int) * 262144)) (IntKind.u64.wrap (IntKind.u64.wrap (q1.toNat : Int) * 4096))) (IntKind.u64.wrap (IntKind.u64.wrap (q2.toNat : Int) * 64))) (IntKind.u64.wrap (q3.toNat : Int)) = N := ⟨_, rfl⟩
  have hv := hN.symm.trans (v4_eq q0 q1 q2 q3 b0 b1 b2 b3)
  have HA : Aside0 (N / 65536 % 256 = ((byA q0 q1).toNat : Int)) := ⟨byA_eq q0 q1 q2 q3 b0 b1 b2 b3 hv⟩
  have HB : Aside0 (N / 256 % 256 = ((byB q1 q2).toNat : Int)) := ⟨byB_eq q0 q1 q2 q3 b0 b1 b2 b3 hv⟩
  have HC : Aside0 (N % 256 = ((byC q2 q3).toNat : Int)) := ⟨byC_eq q0 q1 q2 q3 b0 b1 b2 b3 hv⟩
  have HFit : Aside0 (off + 3 ≤ cs.size) := ⟨by omega⟩
  clear hv b0 b1 b2 b3
  have HQ0 := Aside0.mk hq0
  have HQ1 := Aside0.mk hq1
  have HQ2 := Aside0.mk hq2
  have HQ3 := Aside0.mk hq3
  have lx : ((ts.length : Int) == (si : Int)) = false := by rw [beq_eq_false_iff_ne]; omega
  have ly : ((ts.length : Int) == (si : Int) + 1) = false := by rw [beq_eq_false_iff_ne]; omega
  have lz : ((ts.length : Int) == (si : Int) + 2) = false := by rw [beq_eq_false_iff_ne]; omega
  have lu : ((ts.length : Int) == (si : Int) + 3) = false := by rw [beq_eq_false_iff_ne]; omega
  have hlx := x.toNat_lt
  have hly := y.toNat_lt
  have hlz := z.toNat_lt
  have hlu := u.toNat_lt
  clear hq0 hq1 hq2 hq3 ne255 vx vy vz vu
  go_enter Tryd.func55, Tryd.ntmps55
  go_wp2_with ((with_reducible refine at_dst (N := 20) rfl ?_); refine wpList_load_mid rfl 68 (.tmp 19) rfl g 64 rfl ((decX url).map bV) _ HRg.out Tryd.underlying68 rfl HSz.out ?_)
  refine wp_loop_rounds 5 ?_
  rw [rounds_succ]
  go_wp2
  rw [rounds_succ]
  go_wp2
  rw [rounds_succ]
  go_wp2
  rw [rounds_succ]
  go_wp2
  rw [rounds_succ]
  go_wp2
  refine bodyPost_ret (results_tmp3 rfl _ _ _) rfl ?_
  refine ⟨?_, _, wrote3 cs off (byA q0 q1) (byB q1 q2) (byC q2 q3) HFit.out, ?_⟩
  · have e : (si : Int) + 1 + 1 + 1 + 1 = ((si + 4 : Nat) : Int) := by omega
    rw [← e]
    rfl
  · have h := ((((HH.out.store 1 rfl (off + 2) (.int .u8 (N % 256))).store 1 rfl (off + 1) (.int .u8 (N / 256 % 256))).store 1 rfl off (.int .u8 (N / 65536 % 256))).alloc_ (.cells #[.int .u8 (N / 65536 % 256), .int .u8 0, .int .u8 0, .int .u8 (q3.toNat : Int)] 100))
    rw [HA.out, HB.out, HC.out] at h ⊢
    exact h
end Go.Proofs.YtlncbbmmlhammaaDoor
