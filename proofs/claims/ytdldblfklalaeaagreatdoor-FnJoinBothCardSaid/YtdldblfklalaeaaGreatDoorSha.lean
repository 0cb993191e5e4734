/-
  spec.ShaSum: that it is a function of its bytes.
-/
import Derived.Test.YtdldblfklalaeaaGreatDoorQt
import Derived.Test.YtdldblfklalaeaaGreatDoorQa
import Derived.WalkKit
import Derived.WalkSpells
import Derived.WalkLawsBesides
import Derived.BigQuiet
import Derived.Deep.QuietTactic
import Derived.Deep.DeepFit
namespace Go.Proofs.YtdldblfklalaeaaGreatDoor
open Go.RowKit Go.Proofs.YtdldblfklalaeaaGreatDoorW.PrintWords Go.ChangeShapes Go.WideShapes
set_option linter.unusedVariables false
set_option linter.unusedSimpArgs false
set_option maxRecDepth 100000
/-- A word whose bits are turned, as the walk has it. -/
def turnN (x n : Int) : Int := bits .or .u32 (x / 2 ^ n.toNat) (x * 2 ^ (32 - n).toNat % 4294967296)
theorem turn_any (x n : Int) (w : World) (hn : n ∈ ([7, 18, 17, 19, 6, 11, 25, 2, 13, 22] : List Int)) : Calls Tryz.prog 109 #[.int .u32 x, .int .i64 n] w fun e w' => e = .returned (.int .u32 (turnN x n)) ∧ ∃ m, w' = w.drewN m := by
  simp only [List.mem_cons, List.not_mem_nil, or_false] at hn
  unfold turnN
  rcases hn with rfl | rfl | rfl | rfl | rfl | rfl | rfl | rfl | rfl | rfl
  all_goals
    go_enter Tryz.func109, Tryz.ntmps109
    go_wp2
    go_quiet (fail)
    go_wp2
    go_ret
    exact ⟨rfl, nq, rfl⟩
theorem quiet_of2 {P : Program} {f : FuncId} {args : Array Value} {w : World} {n k : Nat} {v : Value} (h : Calls P f args (w.drewN (k + n)) fun e w' => e = .returned v ∧ ∃ m, w' = (w.drewN (k + n)).drewN m) :
    Calls P f args (w.drewN (k + n)) fun e w'' => e = .returned v ∧ ∃ m, w'' = w.drewN (k + m) :=
  h.mono fun _ _ ⟨he, m, hm⟩ => ⟨he, n + m, by rw [hm, World.drewN_drewN, Nat.add_assoc]⟩
theorem info8 : (Tryz.prog.info? 158).map (·.zero) = some (some (.agg #[.int .u32 0, .int .u32 0, .int .u32 0, .int .u32 0, .int .u32 0, .int .u32 0, .int .u32 0, .int .u32 0])) := by kernel_rfl
def uV (x : Int) : Value := .int .u32 x
/-- Eight words. -/
structure W8 where
  a : Int
  b : Int
  c : Int
  d : Int
  e : Int
  f : Int
  g : Int
  h : Int
def W8.cs (v : W8) : Array Value := #[.int .u32 v.a, .int .u32 v.b, .int .u32 v.c, .int .u32 v.d, .int .u32 v.e, .int .u32 v.f, .int .u32 v.g, .int .u32 v.h]
def ws0 : List Int := List.replicate 64 0
/-- A word out of four bytes. -/
def word4 (a b c d : UInt8) : Int := bits .or .u32 (bits .or .u32 (bits .or .u32 ((a.toNat : Int) % 4294967296 * 16777216 % 4294967296) ((b.toNat : Int) % 4294967296 * 65536 % 4294967296)) ((c.toNat : Int) % 4294967296 * 256 % 4294967296)) ((d.toNat : Int) % 4294967296)
theorem uset (l : List Int) (k : Nat) (x : Int) : ((l.map uV).toArray).setIfInBounds k (uV x) = ((l.set k x).map uV).toArray := by rw [List.setIfInBounds_toArray, List.map_set]
/-- The first sixteen words. -/
def wsA (bs : Bs) : Nat → List Int
  | 0 => ws0
  | k + 1 => (wsA bs k).set k (word4 (bs.getD (4 * k) 0) (bs.getD (4 * k + 1) 0) (bs.getD (4 * k + 2) 0) (bs.getD (4 * k + 3) 0))
theorem wsA_len (bs : Bs) (k : Nat) : (wsA bs k).length = 64 := by
  induction k with
  | zero => rfl
  | succ k ih => rw [wsA, List.length_set, ih]
def ug (l : List Int) (j : Nat) : Int := l.getD j 0
theorem ugetC {l : List Int} (hl : l.length = 64) {j : Nat} (hj : j < 64) (h : j < ((l.map uV).toArray).size) : ((l.map uV).toArray)[j] = .int .u32 (ug l j) := by
  unfold ug
  simp only [List.getElem_toArray, List.getElem_map]
  rw [List.getD_eq_getElem?_getD, List.getElem?_eq_getElem (by omega)]
  rfl
/-- A word out of earlier ones. -/
def mixW (ws : List Int) (m : Nat) : Int := (ug ws m + ug ws (m + 9) + bits .xor .u32 (bits .xor .u32 (turnN (ug ws (m + 1)) 7) (turnN (ug ws (m + 1)) 18)) (ug ws (m + 1) / 8) + bits .xor .u32 (bits .xor .u32 (turnN (ug ws (m + 14)) 17) (turnN (ug ws (m + 14)) 19)) (ug ws (m + 14) / 1024)) % 4294967296
def wsB (bs : Bs) : Nat → List Int
  | 0 => wsA bs 16
  | m + 1 => (wsB bs m).set (m + 16) (mixW (wsB bs m) m)
theorem wsB_len (bs : Bs) (m : Nat) : (wsB bs m).length = 64 := by
  induction m with
  | zero => exact wsA_len bs 16
  | succ m ih => rw [wsB, List.length_set, ih]
def keysL : List Int := [1116352408, 1899447441, 3049323471, 3921009573, 961987163, 1508970993, 2453635748, 2870763221, 3624381080, 310598401, 607225278, 1426881987, 1925078388, 2162078206, 2614888103, 3248222580, 3835390401, 4022224774, 264347078, 604807628, 770255983, 1249150122, 1555081692, 1996064986, 2554220882, 2821834349, 2952996808, 3210313671, 3336571891, 3584528711, 113926993, 338241895, 666307205, 773529912, 1294757372, 1396182291, 1695183700, 1986661051, 2177026350, 2456956037, 2730485921, 2820302411, 3259730800, 3345764771, 3516065817, 3600352804, 4094571909, 275423344, 430227734, 506948616, 659060556, 883997877, 958139571, 1322822218, 1537002063, 1747873779, 1955562222, 2024104815, 2227730452, 2361852424, 2428436474, 2756734187, 3204031479, 3329325298]
theorem keys_size : (Tryz.prog.info? 189).map (·.size) = some ((keysL.map uV).toArray).size := by kernel_rfl
theorem ones {l : List Int} : ((l.map uV).toArray).all (·.oneCell') = true := by
  rw [Array.all_eq_true_iff_forall_mem]
  intro x hx
  simp only [List.mem_toArray, List.mem_map] at hx
  obtain ⟨y, _, rfl⟩ := hx
  rfl
set_option maxHeartbeats 4000000 in
theorem keys_any (w : World) : Calls Tryz.prog 110 #[] w fun e w' => e = .returned (.agg (keysL.map uV).toArray) ∧ Below w.heap.size w w' := by
  have h0 := (Hold.start w).alloc (.cells (ws0.map uV).toArray 189)
  have h1 := h0.setRow 0 rfl (cs' := (keysL.map uV).toArray)
  have HB0 := Aside0.mk (h0.blk 0 rfl)
  have HB1 := Aside0.mk (h1.blk 0 rfl)
  have H1 := Aside0.mk h1.below
  clear h0 h1
  go_enter Tryz.func110, Tryz.ntmps110
  go_wp2_with (refine wpList_store_row rfl 189 (.tmp 0) (.tmp 1) rfl w.heap.size ((keysL.map uV).toArray) rfl rfl 189 _ HB0.out keys_size rfl ones ?_)
  refine bodyPost_ret (results_cell_row rfl _ _ w.heap.size 189 _ (0, 0) _ rfl HB1.out Tryz.underlying189 rfl keys_size) rfl ?_
  exact ⟨rfl, H1.out⟩
/-- A round. -/
def oneW (s : W8) (ky wd : Int) : Int := s.h + bits .xor .u32 (bits .xor .u32 (turnN s.e 6) (turnN s.e 11)) (turnN s.e 25) + bits .xor .u32 (bits .and .u32 s.e s.f) (bits .and .u32 (bits .xor .u32 IntKind.u32.max s.e) s.g) + ky + wd
def twoW (s : W8) : Int := bits .xor .u32 (bits .xor .u32 (turnN s.a 2) (turnN s.a 13)) (turnN s.a 22) + bits .xor .u32 (bits .xor .u32 (bits .and .u32 s.a s.b) (bits .and .u32 s.a s.c)) (bits .and .u32 s.b s.c)
def rndW (s : W8) (ky wd : Int) : W8 := ⟨(oneW s ky wd + twoW s) % 4294967296, s.a, s.b, s.c, (s.d + oneW s ky wd) % 4294967296, s.e, s.f, s.g⟩
/-- The words as a list. -/
def W8.l (v : W8) : List Int := [v.a, v.b, v.c, v.d, v.e, v.f, v.g, v.h]
def sumK (v s : W8) : Nat → List Int
  | 0 => v.l
  | k + 1 => (sumK v s k).set k ((ug (sumK v s k) k + ug s.l k) % 4294967296)
theorem sumK_len (v s : W8) (k : Nat) : (sumK v s k).length = 8 := by
  induction k with
  | zero => rfl
  | succ k ih => rw [sumK, List.length_set, ih]
def addW (v s : W8) : W8 := ⟨(v.a + s.a) % 4294967296, (v.b + s.b) % 4294967296, (v.c + s.c) % 4294967296, (v.d + s.d) % 4294967296, (v.e + s.e) % 4294967296, (v.f + s.f) % 4294967296, (v.g + s.g) % 4294967296, (v.h + s.h) % 4294967296⟩
theorem sumK_all (v s : W8) : sumK v s 8 = (addW v s).l := rfl
theorem uget8 {l : List Int} (hl : l.length = 8) {j : Nat} (hj : j < 8) (h : j < ((l.map uV).toArray).size) : ((l.map uV).toArray)[j] = .int .u32 (ug l j) := by
  unfold ug
  simp only [List.getElem_toArray, List.getElem_map]
  rw [List.getD_eq_getElem?_getD, List.getElem?_eq_getElem (by omega)]
  rfl
theorem size8 {l : List Int} (hl : l.length = 8) : (Tryz.prog.info? 158).map (·.size) = some ((l.map uV).toArray).size := by
  rw [show ((l.map uV).toArray).size = 8 by simp [hl]]
  kernel_rfl
def vAt (v : W8) (bs : Bs) : Nat → W8
  | 0 => v
  | k + 1 => rndW (vAt v bs k) (ug keysL k) (ug (wsB bs 48) k)
/-- What the third loop keeps. -/
structure Rnd (w : World) (g0 g1 g2 g3 g4 : Nat) (v : W8) (bs : Bs) (i : Value) (wr : World) : Prop where
  out : ∃ k : Nat, k ≤ 64 ∧ i = .int .i64 k ∧ Hold w g0 wr [.blk g4 (.cells (vAt v bs k).cs 158), .blk g3 (.cells (keysL.map uV).toArray 189), .blk g2 (.cells ((wsB bs 48).map uV).toArray 189), .blk g1 (.cells #[.int .u32 0, .int .u32 0, .int .u32 0, .int .u32 0, .int .u32 0, .int .u32 0, .int .u32 0, .int .u32 0] 158), .blk g0 (.cells #[.int .u32 v.a, .int .u32 v.b, .int .u32 v.c, .int .u32 v.d, .int .u32 v.e, .int .u32 v.f, .int .u32 v.g, .int .u32 v.h] 158)]
structure Fin8 (w : World) (g0 g1 g2 g3 g4 : Nat) (v s : W8) (bs : Bs) (i : Value) (wr : World) : Prop where
  out : ∃ k : Nat, k ≤ 8 ∧ i = .int .i64 k ∧ Hold w g0 wr [.blk g4 (.cells (s.l.map uV).toArray 158), .blk g3 (.cells (keysL.map uV).toArray 189), .blk g2 (.cells ((wsB bs 48).map uV).toArray 189), .blk g1 (.cells #[.int .u32 0, .int .u32 0, .int .u32 0, .int .u32 0, .int .u32 0, .int .u32 0, .int .u32 0, .int .u32 0] 158), .blk g0 (.cells ((sumK v s k).map uV).toArray 158)]
/-- The words behind a block. -/
def blkF (v : W8) (bs : Bs) : W8 := addW v (vAt v bs 64)
set_option maxHeartbeats 8000000 in
theorem block_any (w : World) (v : W8) (B : Option Addr) (c : Nat) (bs : Bs) (hC : kB.C w B 64 bs) (hc : 64 ≤ c) :
    Calls Tryz.prog 97 #[.agg v.cs, .slice B 64 c] w fun e w' => e = .returned (.agg (blkF v bs).cs) ∧ Below w.heap.size w w' := by
  unfold blkF
  have hbl : bs.length = 64 := hC.1
  have HC := Aside0.mk (fun (wz : World) (hb : Below w.heap.size w wz) => Kd.C_below hC hb)
  have h0 := (((Hold.start w).alloc (.cells v.cs 158)).alloc (.cells #[.int .u32 0, .int .u32 0, .int .u32 0, .int .u32 0, .int .u32 0, .int .u32 0, .int .u32 0, .int .u32 0] 158)).alloc (.cells (ws0.map uV).toArray 189)
  rw [show ∀ o o', ((w.alloc o).alloc o').heap.size = w.heap.size + 1 + 1 from fun o o' => by simp, show ∀ o, (w.alloc o).heap.size = w.heap.size + 1 from fun o => by simp] at h0
  clear hC
  unfold W8.cs at h0 ⊢
  have H0 := Aside0.mk h0
  clear h0
  go_enter Tryz.func97, Tryz.ntmps97
  go_wp2
  obtain ⟨g2, hg2⟩ : ∃ g, g = w.heap.size + 1 + 1 := ⟨_, rfl⟩
  rw [← hg2] at H0 ⊢
  obtain ⟨g1, hg1⟩ : ∃ g, g = w.heap.size + 1 := ⟨_, rfl⟩
  rw [← hg1] at H0 ⊢
  have HS := Aside0.mk (Nat.le_refl w.heap.size)
  generalize hg0 : w.heap.size = g0 at H0 HS ⊢
  clear hg2 hg1
  go_loopw [6] (fun i wr => ∃ k : Nat, k ≤ 16 ∧ i = .int .i64 k ∧ Hold w g0 wr [.blk g2 (.cells ((wsA bs k).map uV).toArray 189), .blk g1 (.cells #[.int .u32 0, .int .u32 0, .int .u32 0, .int .u32 0, .int .u32 0, .int .u32 0, .int .u32 0, .int .u32 0] 158), .blk g0 (.cells #[.int .u32 v.a, .int .u32 v.b, .int .u32 v.c, .int .u32 v.d, .int .u32 v.e, .int .u32 v.f, .int .u32 v.g, .int .u32 v.h] 158)]) (fun i _ => 16 - (intOf i).toNat)
  case atStart => exact ⟨0, by omega, rfl, H0.out⟩
  case round =>
    obtain ⟨k, hk, rfl, hR⟩ := hrel
    have HR := Aside0.mk hR
    clear hR H0
    by_cases hlt : k < 16
    · obtain ⟨ad, rfl, c0⟩ := C1_get (HC.out wr (by rw [hg0]; exact HR.out.below)) (4 * k) (by omega)
      obtain ⟨_, he, c1⟩ := C1_get (HC.out wr (by rw [hg0]; exact HR.out.below)) (4 * k + 1) (by omega)
      injection he with he
      subst he
      obtain ⟨_, he, c2⟩ := C1_get (HC.out wr (by rw [hg0]; exact HR.out.below)) (4 * k + 2) (by omega)
      injection he with he
      subst he
      obtain ⟨_, he, c3⟩ := C1_get (HC.out wr (by rw [hg0]; exact HR.out.below)) (4 * k + 3) (by omega)
      injection he with he
      subst he
      obtain ⟨kc, kf⟩ := HR.out.cell 0 rfl k (by simp [wsA_len]; omega)
      have d0 : bs[4 * k]'(by omega) = bs.getD (4 * k) 0 := by rw [List.getD_eq_getElem?_getD, List.getElem?_eq_getElem (by omega)]; rfl
      have d1 : bs[4 * k + 1]'(by omega) = bs.getD (4 * k + 1) 0 := by rw [List.getD_eq_getElem?_getD, List.getElem?_eq_getElem (by omega)]; rfl
      have d2 : bs[4 * k + 2]'(by omega) = bs.getD (4 * k + 2) 0 := by rw [List.getD_eq_getElem?_getD, List.getElem?_eq_getElem (by omega)]; rfl
      have d3 : bs[4 * k + 3]'(by omega) = bs.getD (4 * k + 3) 0 := by rw [List.getD_eq_getElem?_getD, List.getElem?_eq_getElem (by omega)]; rfl
      rw [d0] at c0
      rw [d1] at c1
      rw [d2] at c2
      rw [d3] at c3
      unfold bV at c0 c1 c2 c3
      clear d0 d1 d2 d3
      generalize hq0 : bs.getD (4 * k) 0 = q0 at c0
      generalize hq1 : bs.getD (4 * k + 1) 0 = q1 at c1
      generalize hq2 : bs.getD (4 * k + 2) 0 = q2 at c2
      generalize hq3 : bs.getD (4 * k + 3) 0 = q3 at c3
      have HW : Aside0 (wsA bs (k + 1) = (wsA bs k).set k (word4 q0 q1 q2 q3)) := ⟨by rw [wsA, hq0, hq1, hq2, hq3]⟩
      clear hq0 hq1 hq2 hq3
      have c1' : wr.cell? ⟨ad.block, ad.off + (4 * k + 1), none⟩ = some (.int .u8 (q1.toNat : Int)) := c1
      have c2' : wr.cell? ⟨ad.block, ad.off + (4 * k + 2), none⟩ = some (.int .u8 (q2.toNat : Int)) := c2
      have c3' : wr.cell? ⟨ad.block, ad.off + (4 * k + 3), none⟩ = some (.int .u8 (q3.toNat : Int)) := c3
      go_wp2
      refine wp_region_quiet_tail 35 (by kernel_rfl) (by kernel_rfl) ?_
      simp only [List.take_succ_cons, List.take_zero, List.drop_succ_cons, List.drop_zero]
      repeat (go_big_quiet_step (fail))
      refine wpQuiet_nil ?_
      rintro _ ⟨nq, rfl⟩
      go_wp2
      refine ⟨⟨k + 1, hlt, by go_num, ?_⟩, by simp [intOf]; omega⟩
      rw [HW.out, ← uset]
      exact (HR.out.drewN nq).store 0 rfl k (uV (word4 q0 q1 q2 q3))
    · obtain rfl : k = 16 := by omega
      go_wp2
      go_loopw [7] (fun i wr => ∃ m : Nat, m ≤ 48 ∧ i = .int .i64 ((m : Int) + 16) ∧ Hold w g0 wr [.blk g2 (.cells ((wsB bs m).map uV).toArray 189), .blk g1 (.cells #[.int .u32 0, .int .u32 0, .int .u32 0, .int .u32 0, .int .u32 0, .int .u32 0, .int .u32 0, .int .u32 0] 158), .blk g0 (.cells #[.int .u32 v.a, .int .u32 v.b, .int .u32 v.c, .int .u32 v.d, .int .u32 v.e, .int .u32 v.f, .int .u32 v.g, .int .u32 v.h] 158)]) (fun i _ => 64 - (intOf i).toNat)
      case atStart => exact ⟨0, by omega, rfl, HR.out⟩
      case round =>
        obtain ⟨m, hm, rfl, hR2⟩ := hrel
        have HR2 := Aside0.mk hR2
        clear hR2 HR
        by_cases hlm : m < 48
        · have k1 := HR2.out.cell 0 rfl (m + 1) (by simp [wsB_len]; omega)
          have k2 := HR2.out.cell 0 rfl (m + 14) (by simp [wsB_len]; omega)
          have k3 := HR2.out.cell 0 rfl m (by simp [wsB_len]; omega)
          have k4 := HR2.out.cell 0 rfl (m + 9) (by simp [wsB_len]; omega)
          have k5 := HR2.out.cell 0 rfl (m + 16) (by simp [wsB_len]; omega)
          rw [ugetC (wsB_len bs m) (by omega)] at k1 k2 k3 k4
          obtain ⟨k1, -⟩ := k1
          obtain ⟨k2, -⟩ := k2
          obtain ⟨k3, -⟩ := k3
          obtain ⟨k4, -⟩ := k4
          obtain ⟨k5, f5⟩ := k5
          go_wp2
          go_quiet (fail)
          obtain ⟨nq_, hnq_⟩ : ∃ x, x = nq := ⟨_, rfl⟩
          rw [← hnq_]
          clear hnq_
          go_wp2
          refine wp_region_quiet_tail 29 (by kernel_rfl) (by kernel_rfl) ?_
          simp only [List.take_succ_cons, List.take_zero, List.drop_succ_cons, List.drop_zero]
          repeat (go_big_quiet_step (first | (go_at_call 109; refine quiet_of2 (turn_any _ _ _ (by decide))) | (go_at_call 109; refine Calls.quiet_of (turn_any _ _ _ (by decide)))))
          refine wpQuiet_nil ?_
          rintro _ ⟨nq, rfl⟩
          go_wp2
          refine ⟨⟨m + 1, hlm, by go_num, ?_⟩, by simp [intOf]; omega⟩
          have h := (HR2.out.drewN (nq_ + nq)).store 0 rfl (m + 16) (uV (mixW (wsB bs m) m))
          rw [uset] at h
          exact h
        · obtain rfl : m = 48 := by omega
          have HK := Aside0.mk (keys_any wr)
          go_wp2_with fail
          refine HK.out.mono ?_
          rintro e wk ⟨rfl, hk⟩
          have H3 := Aside0.mk ((HR2.out.of_below hk).alloc (.cells (ws0.map uV).toArray 189))
          clear hk HK HR2
          have HB3 := Aside0.mk (H3.out.blk 0 rfl)
          have HG0 := Aside0.mk ((H3.out.setRow 0 rfl (cs' := (keysL.map uV).toArray)).blk 3 rfl)
          have h4 := (H3.out.setRow 0 rfl (cs' := (keysL.map uV).toArray)).alloc (.cells #[.int .u32 v.a, .int .u32 v.b, .int .u32 v.c, .int .u32 v.d, .int .u32 v.e, .int .u32 v.f, .int .u32 v.g, .int .u32 v.h] 158)
          rw [show ((wk.alloc (.cells (ws0.map uV).toArray 189)).setRow wk.heap.size (keysL.map uV).toArray).heap.size = wk.heap.size + 1 by simp [World.setRow]] at h4
          have H5 := Aside0.mk h4
          clear h4
          go_wp2_with (first | (refine wpList_store_row rfl 189 (.tmp 10) (.tmp 98) rfl wk.heap.size ((keysL.map uV).toArray) rfl rfl 189 _ HB3.out keys_size rfl ones ?_) | ((with_reducible refine at_dst (N := 99) rfl ?_); refine wpList_load_row rfl 158 (.tmp 2) rfl g0 rfl 158 _ (0, 0) _ HG0.out Tryz.underlying158 rfl (by kernel_rfl) ?_))
          obtain ⟨g4, hg4⟩ : ∃ g, g = wk.heap.size + 1 := ⟨_, rfl⟩
          rw [← hg4] at H5 ⊢
          generalize wk.heap.size = g3 at *
          clear hg4 HB3 HG0 H3
          go_loopw [12] (fun i wr => Rnd w g0 g1 g2 g3 g4 v bs i wr) (fun i _ => 64 - (intOf i).toNat)
          case atStart => exact ⟨⟨0, by omega, rfl, H5.out⟩⟩
          case round =>
            obtain ⟨k, hk, rfl, hR3⟩ := hrel.out
            clear hrel H5
            have HR3 := Aside0.mk hR3
            clear hR3
            by_cases hlk : k < 64
            · have HSt := Aside0.mk (show vAt v bs (k + 1) = rndW (vAt v bs k) (ug keysL k) (ug (wsB bs 48) k) from rfl)
              have q1 := HR3.out.cell 1 rfl k (by show k < 64; omega)
              have q2 := HR3.out.cell 2 rfl k (by simp [wsB_len]; omega)
              rw [ugetC rfl (by omega)] at q1
              rw [ugetC (wsB_len bs 48) (by omega)] at q2
              obtain ⟨q1, -⟩ := q1
              obtain ⟨q2, -⟩ := q2
              generalize vAt v bs k = s at *
              generalize ug keysL k = ky at *
              generalize ug (wsB bs 48) k = wd at *
              obtain ⟨k0, f0⟩ := HR3.out.cell 0 rfl 0 (by simp [W8.cs])
              obtain ⟨k1, f1⟩ := HR3.out.cell 0 rfl 1 (by simp [W8.cs])
              obtain ⟨k2, f2⟩ := HR3.out.cell 0 rfl 2 (by simp [W8.cs])
              obtain ⟨k3, f3⟩ := HR3.out.cell 0 rfl 3 (by simp [W8.cs])
              obtain ⟨k4, f4⟩ := HR3.out.cell 0 rfl 4 (by simp [W8.cs])
              obtain ⟨k5, f5⟩ := HR3.out.cell 0 rfl 5 (by simp [W8.cs])
              obtain ⟨k6, f6⟩ := HR3.out.cell 0 rfl 6 (by simp [W8.cs])
              obtain ⟨k7, f7⟩ := HR3.out.cell 0 rfl 7 (by simp [W8.cs])
              replace k0 : wr.cell? ⟨g4, 0, none⟩ = some (.int .u32 s.a) := k0
              replace k1 : wr.cell? ⟨g4, 1, none⟩ = some (.int .u32 s.b) := k1
              replace k2 : wr.cell? ⟨g4, 2, none⟩ = some (.int .u32 s.c) := k2
              replace k3 : wr.cell? ⟨g4, 3, none⟩ = some (.int .u32 s.d) := k3
              replace k4 : wr.cell? ⟨g4, 4, none⟩ = some (.int .u32 s.e) := k4
              replace k5 : wr.cell? ⟨g4, 5, none⟩ = some (.int .u32 s.f) := k5
              replace k6 : wr.cell? ⟨g4, 6, none⟩ = some (.int .u32 s.g) := k6
              replace k7 : wr.cell? ⟨g4, 7, none⟩ = some (.int .u32 s.h) := k7
              go_wp2
              go_quiet (fail)
              go_wp2
              go_quiet (first | (go_at_call 109; refine quiet_of2 (turn_any _ _ _ (by decide))) | (go_at_call 109; refine Calls.quiet_of (turn_any _ _ _ (by decide))))
              go_wp2
              go_quiet (first | (go_at_call 109; refine quiet_of2 (turn_any _ _ _ (by decide))) | (go_at_call 109; refine Calls.quiet_of (turn_any _ _ _ (by decide))))
              go_wp2
              refine ⟨⟨⟨k + 1, hlk, by go_num, ?_⟩⟩, by simp [intOf]; omega⟩
              rw [HSt.out]
              exact ((((((((HR3.out.drewN _).store 0 rfl 0 _).store 0 rfl 1 _).store 0 rfl 2 _).store 0 rfl 3 _).store 0 rfl 4 _).store 0 rfl 5 _).store 0 rfl 6 _).store 0 rfl 7 _
            · obtain rfl : k = 64 := by omega
              generalize hs : vAt v bs 64 = s at *
              have HSs := Aside0.mk hs
              clear hs
              have HR4 : Aside0 (Hold w g0 wr [.blk g4 (.cells (s.l.map uV).toArray 158), .blk g3 (.cells (keysL.map uV).toArray 189), .blk g2 (.cells ((wsB bs 48).map uV).toArray 189), .blk g1 (.cells #[.int .u32 0, .int .u32 0, .int .u32 0, .int .u32 0, .int .u32 0, .int .u32 0, .int .u32 0, .int .u32 0] 158), .blk g0 (.cells ((sumK v s 0).map uV).toArray 158)]) := ⟨HR3.out⟩
              clear HR3
              go_wp2
              go_loopw [17] (fun i wx => Fin8 w g0 g1 g2 g3 g4 v s bs i wx) (fun i _ => 8 - (intOf i).toNat)
              case atStart => exact ⟨⟨0, by omega, rfl, HR4.out⟩⟩
              case round =>
                obtain ⟨j, hj, rfl, hR5⟩ := hrel.out
                clear hrel HR4
                have HR5 := Aside0.mk hR5
                clear hR5
                by_cases hl8 : j < 8
                · have q1 := HR5.out.cell 0 rfl j (by simp [W8.l]; omega)
                  have q2 := HR5.out.cell 4 rfl j (by simp [sumK_len]; omega)
                  rw [uget8 rfl (by omega)] at q1
                  rw [uget8 (sumK_len v s j) (by omega)] at q2
                  obtain ⟨q1, -⟩ := q1
                  obtain ⟨q2, f2⟩ := q2
                  go_wp2
                  refine wp_region_quiet_tail 8 (by kernel_rfl) (by kernel_rfl) ?_
                  simp only [List.take_succ_cons, List.take_zero, List.drop_succ_cons, List.drop_zero]
                  repeat (go_big_quiet_step (fail))
                  refine wpQuiet_nil ?_
                  rintro _ ⟨nq, rfl⟩
                  go_wp2
                  refine ⟨⟨⟨j + 1, hl8, by go_num, ?_⟩⟩, by simp [intOf]; omega⟩
                  have h := (HR5.out.drewN nq).store 4 rfl j (uV ((ug (sumK v s j) j + ug s.l j) % 4294967296))
                  rw [uset] at h
                  exact h
                · obtain rfl : j = 8 := by omega
                  have HG0 := Aside0.mk (HR5.out.blk 4 rfl)
                  have HG1 := Aside0.mk (HR5.out.blk 3 rfl)
                  have h6 := HR5.out.setRow 3 rfl (cs' := ((sumK v s 8).map uV).toArray)
                  have HG2 := Aside0.mk (h6.blk 3 rfl)
                  have H6 := Aside0.mk h6.below
                  clear h6 HR5
                  go_wp2_with (first | (refine wpList_store_row rfl 158 (.tmp 4) (.tmp 194) rfl g1 (((sumK v s 8).map uV).toArray) rfl rfl 158 _ HG1.out (size8 (sumK_len v s 8)) (by simp [sumK_len]) ones ?_) | ((with_reducible refine at_dst (N := 194) rfl ?_); refine wpList_load_row rfl 158 (.tmp 2) rfl g0 rfl 158 _ (0, 0) _ HG0.out Tryz.underlying158 rfl (size8 (sumK_len v s 8)) ?_))
                  refine bodyPost_ret (results_cell_row rfl _ _ g1 158 _ (0, 0) _ rfl HG2.out Tryz.underlying158 rfl (size8 (sumK_len v s 8))) rfl ?_
                  refine ⟨?_, by rw [hg0]; exact H6.out⟩
                  rw [sumK_all, ← HSs.out]
                  rfl
end Go.Proofs.YtdldblfklalaeaaGreatDoor
