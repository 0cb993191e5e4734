/-
  spec.ShaSum: its contract: the result is a function of the bytes.
-/
import Derived.Test.YtdldblfklalaeaaGreatDoorSha
import Derived.Test.YtdldblfklalaeaaGreatDoorSa
import Derived.Test.YtdldblfklalaeaaGreatDoorQg
import Derived.LoopN
namespace Go.Proofs.YtdldblfklalaeaaGreatDoor
open Go.RowKit Go.Proofs.YtdldblfklalaeaaGreatDoorW.PrintWords Go.ChangeShapes Go.WideShapes
set_option linter.unusedVariables false
set_option linter.unusedSimpArgs false
set_option maxRecDepth 100000
def z32 : Bs := List.replicate 32 0
def padN (n : Nat) : Nat := (119 - n % 64) % 64
theorem padN_lt (n : Nat) : padN n < 64 := by unfold padN; omega
/-- The bytes and what is put behind them, up to the length. -/
def fillB (xs : Bs) (j : Nat) : Bs := xs ++ [128] ++ List.replicate j 0
theorem fillB_len (xs : Bs) (j : Nat) : (fillB xs j).length = xs.length + 1 + j := by simp [fillB]; omega
theorem fillB_succ (xs : Bs) (j : Nat) : fillB xs j ++ [0] = fillB xs (j + 1) := by
  unfold fillB
  rw [List.append_assoc, ← List.replicate_succ']
structure Fil (w : World) (g : Nat) (xs : Bs) (s3 : Value) (wr : World) : Prop where
  out : ∃ (j : Nat) (A : Option Addr) (c : Nat), j ≤ padN xs.length ∧ s3 = .slice A (fillB xs j).length c ∧ Hold w g wr [.row kB 5 (.slice A (fillB xs j).length c) (fillB xs j), .blk g (.cells (z32.map bV).toArray 110)]
theorem lenV (X D : Int) : Value.int .u8 (X / D % 256) = bV (UInt8.ofNat (X / D % 256).toNat) := by
  unfold bV
  congr 1
  rw [UInt8.toNat_ofNat']
  omega
theorem lenV0 (X : Int) : Value.int .u8 (X % 256) = bV (UInt8.ofNat (X % 256).toNat) := by
  unfold bV
  congr 1
  rw [UInt8.toNat_ofNat']
  omega
/-- The length in bits, as eight bytes. -/
def lenB (X D : Int) : UInt8 := UInt8.ofNat (X / D % 256).toNat
def tailB (xs : Bs) : Bs := [UInt8.ofNat ((xs.length : Int) * 8 / 72057594037927936 % 256).toNat, UInt8.ofNat ((xs.length : Int) * 8 / 281474976710656 % 256).toNat, UInt8.ofNat ((xs.length : Int) * 8 / 1099511627776 % 256).toNat, UInt8.ofNat ((xs.length : Int) * 8 / 4294967296 % 256).toNat, UInt8.ofNat ((xs.length : Int) * 8 / 16777216 % 256).toNat, UInt8.ofNat ((xs.length : Int) * 8 / 65536 % 256).toNat, UInt8.ofNat ((xs.length : Int) * 8 / 256 % 256).toNat, UInt8.ofNat ((xs.length : Int) * 8 % 256).toNat]
def ivW : W8 := ⟨1779033703, 3144134277, 1013904242, 2773480762, 1359893119, 2600822924, 528734635, 1541459225⟩
/-- The words behind the first blocks. -/
def hAt (G : Bs) : Nat → W8
  | 0 => ivW
  | k + 1 => blkF (hAt G k) ((G.drop (64 * k)).take 64)
structure Blks (w : World) (g g5 : Nat) (G : Bs) (B : Option Addr) (d K : Nat) (i : Value) (wr : World) : Prop where
  out : ∃ k : Nat, k ≤ K ∧ i = .int .i64 ((64 * k : Nat) : Int) ∧ Hold w g wr [.blk g5 (.cells (hAt G k).cs 158), .row kB 5 (.slice B G.length d) G, .blk g (.cells (z32.map bV).toArray 110)]
theorem size8s {s : W8} : (Tryz.prog.info? 158).map (·.size) = some s.cs.size := by
  show _ = some 8
  kernel_rfl
/-- The words behind all blocks. -/
def shaW (xs : Bs) : W8 := hAt (fillB xs (padN xs.length) ++ tailB xs) ((fillB xs (padN xs.length) ++ tailB xs).length / 64)
def outB (s : W8) (j : Nat) : UInt8 := UInt8.ofNat (ug s.l (j / 4) / ((2 ^ (24 - 8 * (j % 4)) : Nat) : Int) % 256).toNat
def outK (s : W8) : Nat → Bs
  | 0 => z32
  | j + 1 => (outK s j).set j (outB s j)
theorem outK_len (s : W8) (j : Nat) : (outK s j).length = 32 := by
  induction j with
  | zero => rfl
  | succ j ih => rw [outK, List.length_set, ih]
/-- The hash. -/
def shaF (xs : Bs) : Bs := outK (shaW xs) 32
theorem size32 {l : Bs} (hl : l.length = 32) : (Tryz.prog.info? 110).map (·.size) = some ((l.map bV).toArray).size := by
  rw [show ((l.map bV).toArray).size = 32 by simp [hl]]
  kernel_rfl
theorem ones32 {l : Bs} : ((l.map bV).toArray).all (·.oneCell') = true := by
  rw [Array.all_eq_true_iff_forall_mem]
  intro x hx
  simp only [List.mem_toArray, List.mem_map] at hx
  obtain ⟨y, _, rfl⟩ := hx
  rfl
theorem bset (l : Bs) (k : Nat) (x : UInt8) : ((l.map bV).toArray).setIfInBounds k (bV x) = ((l.set k x).map bV).toArray := by rw [List.setIfInBounds_toArray, List.map_set]
structure Outs (w : World) (g g5 g6 : Nat) (G : Bs) (B : Option Addr) (d : Nat) (s : W8) (i : Value) (wr : World) : Prop where
  out : ∃ j : Nat, j ≤ 32 ∧ i = .int .i64 (j : Int) ∧ Hold w g wr [.blk g6 (.cells ((outK s j).map bV).toArray 110), .blk g5 (.cells (s.l.map uV).toArray 158), .row kB 5 (.slice B G.length d) G, .blk g (.cells (z32.map bV).toArray 110)]
set_option maxHeartbeats 8000000 in
theorem sha_any (w : World) (A : Option Addr) (n c : Nat) (xs : Bs) (hn : n ≤ 100000000) (hC : kB.C w A n xs) :
    Calls Tryz.prog 72 #[.slice A n c] w fun e w' => e = .returned (.agg ((shaF xs).map bV).toArray) ∧ Below w.heap.size w w' := by
  obtain rfl := hC.1
  have h0 := (Hold.start w).alloc (.cells (z32.map bV).toArray 110)
  have h1 := h0.app (emptyRow _)
  rw [show (w.alloc (.cells (z32.map bV).toArray 110)).heap.size = w.heap.size + 1 by simp] at h1
  have H1 : Aside0 (Hold w w.heap.size _ [.row kB 5 (.slice (some ⟨w.heap.size + 1, 0, none⟩) 0 0) [], .blk w.heap.size (.cells (z32.map bV).toArray 110)]) := ⟨h1⟩
  have HC1 := Aside0.mk (Kd.C_below hC h1.below)
  have HC := Aside0.mk (fun (wz : World) (hb : Below w.heap.size w wz) => Kd.C_below hC hb)
  have Hl : Aside0 ((([] : List UInt8).length + xs.length) * 1 ≤ 140737488355328) := ⟨by simp; omega⟩
  have Hl2 : Aside0 ((([] ++ xs : List UInt8).length + 1) * 1 ≤ 140737488355328) := ⟨by simp; omega⟩
  clear hC h0 h1
  go_enter Tryz.func72, Tryz.ntmps72
  go_wp2_with (first | ((with_reducible refine at_bi (b := .append) (xs := #[.tmp 10, .tmp 11]) rfl ?_); at_builtin; refine Hold.appendRow 0 H1.out rfl rfl (.tmp 10) (.tmp 11) 30 (.int .u8 0) 1 rfl Tryz.underlying30 info5 rfl (by omega) (A) (xs.length) (c) rfl rfl (HC1.out) Hl.out ?_; intro _ _ H2'; have H2 := Aside0.mk H2'; clear H2' H1) | ((with_reducible refine at_bi (b := .append) (xs := #[.tmp 13, .tmp 14]) rfl ?_); at_builtin; refine Hold.append1 (kB) 0 H2.out rfl rfl (.tmp 13) (.tmp 14) 30 (.int .u8 0) 1 rfl Tryz.underlying30 info5 rfl (by decide) (by omega) ((128 : UInt8)) [.int .u8 128] rfl (by show Value.slice (some ⟨_, 0, none⟩) 1 1 = _; simp) rfl Hl2.out ?_; intro _ _ H3'; have H3 := Aside0.mk H3'; clear H3' H2))
  obtain ⟨A3, c3, rfl, hle3, hC3⟩ := H3.out.reads 0 rfl
  have H4 : Aside0 (Hold w w.heap.size _ [.row kB 5 (.slice A3 (fillB xs 0).length c3) (fillB xs 0), .blk w.heap.size (.cells (z32.map bV).toArray 110)]) := ⟨by
    have := H3.out
    rw [List.nil_append, show xs ++ [128] = fillB xs 0 from (List.append_nil _).symm] at this
    exact this⟩
  rw [List.nil_append, show xs ++ [128] = fillB xs 0 from (List.append_nil _).symm]
  clear H3 hle3 hC3 HC1 Hl Hl2
  generalize hg : w.heap.size = g at H4 ⊢
  go_loopw [3] (fun s3 wr => Fil w g xs s3 wr) (fun s3 _ => match s3 with | .slice _ l _ => xs.length + 200 - l | _ => 0)
  case atStart => exact ⟨⟨0, A3, c3, Nat.zero_le _, rfl, H4.out⟩⟩
  case round =>
    obtain ⟨j, A5, c5, hj, rfl, hR⟩ := hrel.out
    clear hrel H4
    have HR := Aside0.mk hR
    clear hR
    have hfl := fillB_len xs j
    obtain ⟨m, hm⟩ : ∃ m, m = (fillB xs j).length := ⟨_, rfl⟩
    rw [← hm] at hfl ⊢
    have Hm := Aside0.mk hm
    clear hm
    have hm1 : m ≤ 100000100 := by unfold padN at hj; omega
    have Hl3 : Aside0 (((fillB xs j).length + 1) * 1 ≤ 140737488355328) := ⟨by rw [← Hm.out]; omega⟩
    by_cases hlt : j < padN xs.length
    · have hne : ((m : Int) % 64 != 56) = true := by
        rw [bne_iff_ne]
        unfold padN at hlt
        omega
      have Hj := Aside0.mk (show m + 1 = (fillB xs (j + 1)).length by rw [fillB_len]; omega)
      have Hd : Aside0 (m < xs.length + 200 ∧ j + 1 ≤ padN xs.length) := ⟨by have := padN_lt xs.length; omega, hlt⟩
      clear hfl hj hlt
      have HR6 : Aside0 (Hold w g wr [.row kB 5 (.slice A5 m c5) (fillB xs j), .blk g (.cells (z32.map bV).toArray 110)]) := ⟨by rw [Hm.out]; exact HR.out⟩
      go_wp2_with ((with_reducible refine at_bi (b := .append) (xs := #[.tmp 20, .tmp 21]) rfl ?_); at_builtin; refine Hold.append1 (kB) 0 HR6.out rfl rfl (.tmp 20) (.tmp 21) 30 (.int .u8 0) 1 rfl Tryz.underlying30 info5 rfl (by decide) (by omega) ((0 : UInt8)) [.int .u8 0] rfl (by show Value.slice (some ⟨_, 0, none⟩) 1 1 = _; simp) rfl Hl3.out ?_; intro _ _ H5'; have H5 := Aside0.mk H5'; clear H5' HR6)
      obtain ⟨A6, c6, rfl, hle6, hC6⟩ := H5.out.reads 0 rfl
      have H6 : Aside0 (Hold w g _ [.row kB 5 (.slice A6 (fillB xs (j + 1)).length c6) (fillB xs (j + 1)), .blk g (.cells (z32.map bV).toArray 110)]) := ⟨by rw [← fillB_succ]; exact H5.out⟩
      rw [fillB_succ]
      clear hle6 hC6
      refine ⟨⟨⟨j + 1, A6, c6, Hd.out.2, rfl, H6.out⟩⟩, ?_⟩
      show xs.length + 200 - (fillB xs (j + 1)).length < xs.length + 200 - m
      rw [← Hj.out]
      have := Hd.out.1
      omega
    · have he : ((m : Int) % 64 != 56) = false := by
        have hjp : j = padN xs.length := by omega
        have hm2 : m % 64 = 56 := by subst hjp; unfold padN at hfl; omega
        have : (m : Int) % 64 = 56 := by omega
        rw [this]
        rfl
      obtain rfl : j = padN xs.length := by omega
      clear hj hlt hfl Hl3
      generalize hF : fillB xs (padN xs.length) = F at *
      have HF := Aside0.mk hF
      clear hF
      obtain rfl := Hm.out
      clear Hm
      have hxl : xs.length ≤ 100000000 := hn
      go_wp2
      obtain ⟨X, hX⟩ : ∃ X : Int, X = (xs.length : Int) * 8 := ⟨_, rfl⟩
      rw [← hX]
      have HX := Aside0.mk hX
      clear hX he
      generalize hG0 : F = G0 at *
      clear hG0
      have HQ0 := Aside0.mk HR.out
      clear HR
      refine wp_loop_rounds 9 ?_
      rw [rounds_succ]
      have Hl0 : Aside0 ((G0.length + 1) * 1 ≤ 140737488355328) := ⟨by omega⟩
      go_wp2_with ((with_reducible refine at_bi (b := .append) (xs := #[.tmp 31, .tmp 37]) rfl ?_); at_builtin; refine Hold.append1 (kB) 0 HQ0.out rfl rfl (.tmp 31) (.tmp 37) 30 (.int .u8 0) 1 rfl Tryz.underlying30 info5 rfl (by decide) (by omega) (UInt8.ofNat (X / 72057594037927936 % 256).toNat) [.int .u8 (X / 72057594037927936 % 256)] rfl rfl (congrArg (fun x => [x]) (lenV X 72057594037927936)) Hl0.out ?_; intro _ _ HQ1'; have HQ1 := Aside0.mk HQ1'; clear HQ1' HQ0)
      obtain ⟨G1, hG1⟩ : ∃ G, G = G0 ++ [UInt8.ofNat (X / 72057594037927936 % 256).toNat] := ⟨_, rfl⟩
      rw [← hG1] at HQ1
      have hL1 : G1.length = G0.length + 1 := by rw [hG1]; simp
      have hM1 : G1.length ≤ 100000101 := by omega
      have HE1 := Aside0.mk (And.intro hG1 hL1)
      obtain ⟨B1, d1, rfl, hx1, hy1⟩ := HQ1.out.reads 0 rfl
      clear hx1 hy1 hG1 hL1 Hl0
      rw [rounds_succ]
      have Hl1 : Aside0 ((G1.length + 1) * 1 ≤ 140737488355328) := ⟨by omega⟩
      go_wp2_with ((with_reducible refine at_bi (b := .append) (xs := #[.tmp 31, .tmp 37]) rfl ?_); at_builtin; refine Hold.append1 (kB) 0 HQ1.out rfl rfl (.tmp 31) (.tmp 37) 30 (.int .u8 0) 1 rfl Tryz.underlying30 info5 rfl (by decide) (by omega) (UInt8.ofNat (X / 281474976710656 % 256).toNat) [.int .u8 (X / 281474976710656 % 256)] rfl rfl (congrArg (fun x => [x]) (lenV X 281474976710656)) Hl1.out ?_; intro _ _ HQ2'; have HQ2 := Aside0.mk HQ2'; clear HQ2' HQ1)
      obtain ⟨G2, hG2⟩ : ∃ G, G = G1 ++ [UInt8.ofNat (X / 281474976710656 % 256).toNat] := ⟨_, rfl⟩
      rw [← hG2] at HQ2
      have hL2 : G2.length = G1.length + 1 := by rw [hG2]; simp
      have hM2 : G2.length ≤ 100000102 := by omega
      have HE2 := Aside0.mk (And.intro hG2 hL2)
      obtain ⟨B2, d2, rfl, hx2, hy2⟩ := HQ2.out.reads 0 rfl
      clear hx2 hy2 hG2 hL2 Hl1
      rw [rounds_succ]
      have Hl2 : Aside0 ((G2.length + 1) * 1 ≤ 140737488355328) := ⟨by omega⟩
      go_wp2_with ((with_reducible refine at_bi (b := .append) (xs := #[.tmp 31, .tmp 37]) rfl ?_); at_builtin; refine Hold.append1 (kB) 0 HQ2.out rfl rfl (.tmp 31) (.tmp 37) 30 (.int .u8 0) 1 rfl Tryz.underlying30 info5 rfl (by decide) (by omega) (UInt8.ofNat (X / 1099511627776 % 256).toNat) [.int .u8 (X / 1099511627776 % 256)] rfl rfl (congrArg (fun x => [x]) (lenV X 1099511627776)) Hl2.out ?_; intro _ _ HQ3'; have HQ3 := Aside0.mk HQ3'; clear HQ3' HQ2)
      obtain ⟨G3, hG3⟩ : ∃ G, G = G2 ++ [UInt8.ofNat (X / 1099511627776 % 256).toNat] := ⟨_, rfl⟩
      rw [← hG3] at HQ3
      have hL3 : G3.length = G2.length + 1 := by rw [hG3]; simp
      have hM3 : G3.length ≤ 100000103 := by omega
      have HE3 := Aside0.mk (And.intro hG3 hL3)
      obtain ⟨B3, d3, rfl, hx3, hy3⟩ := HQ3.out.reads 0 rfl
      clear hx3 hy3 hG3 hL3 Hl2
      rw [rounds_succ]
      have Hl3 : Aside0 ((G3.length + 1) * 1 ≤ 140737488355328) := ⟨by omega⟩
      go_wp2_with ((with_reducible refine at_bi (b := .append) (xs := #[.tmp 31, .tmp 37]) rfl ?_); at_builtin; refine Hold.append1 (kB) 0 HQ3.out rfl rfl (.tmp 31) (.tmp 37) 30 (.int .u8 0) 1 rfl Tryz.underlying30 info5 rfl (by decide) (by omega) (UInt8.ofNat (X / 4294967296 % 256).toNat) [.int .u8 (X / 4294967296 % 256)] rfl rfl (congrArg (fun x => [x]) (lenV X 4294967296)) Hl3.out ?_; intro _ _ HQ4'; have HQ4 := Aside0.mk HQ4'; clear HQ4' HQ3)
      obtain ⟨G4, hG4⟩ : ∃ G, G = G3 ++ [UInt8.ofNat (X / 4294967296 % 256).toNat] := ⟨_, rfl⟩
      rw [← hG4] at HQ4
      have hL4 : G4.length = G3.length + 1 := by rw [hG4]; simp
      have hM4 : G4.length ≤ 100000104 := by omega
      have HE4 := Aside0.mk (And.intro hG4 hL4)
      obtain ⟨B4, d4, rfl, hx4, hy4⟩ := HQ4.out.reads 0 rfl
      clear hx4 hy4 hG4 hL4 Hl3
      rw [rounds_succ]
      have Hl4 : Aside0 ((G4.length + 1) * 1 ≤ 140737488355328) := ⟨by omega⟩
      go_wp2_with ((with_reducible refine at_bi (b := .append) (xs := #[.tmp 31, .tmp 37]) rfl ?_); at_builtin; refine Hold.append1 (kB) 0 HQ4.out rfl rfl (.tmp 31) (.tmp 37) 30 (.int .u8 0) 1 rfl Tryz.underlying30 info5 rfl (by decide) (by omega) (UInt8.ofNat (X / 16777216 % 256).toNat) [.int .u8 (X / 16777216 % 256)] rfl rfl (congrArg (fun x => [x]) (lenV X 16777216)) Hl4.out ?_; intro _ _ HQ5'; have HQ5 := Aside0.mk HQ5'; clear HQ5' HQ4)
      obtain ⟨G5, hG5⟩ : ∃ G, G = G4 ++ [UInt8.ofNat (X / 16777216 % 256).toNat] := ⟨_, rfl⟩
      rw [← hG5] at HQ5
      have hL5 : G5.length = G4.length + 1 := by rw [hG5]; simp
      have hM5 : G5.length ≤ 100000105 := by omega
      have HE5 := Aside0.mk (And.intro hG5 hL5)
      obtain ⟨B5, d5, rfl, hx5, hy5⟩ := HQ5.out.reads 0 rfl
      clear hx5 hy5 hG5 hL5 Hl4
      rw [rounds_succ]
      have Hl5 : Aside0 ((G5.length + 1) * 1 ≤ 140737488355328) := ⟨by omega⟩
      go_wp2_with ((with_reducible refine at_bi (b := .append) (xs := #[.tmp 31, .tmp 37]) rfl ?_); at_builtin; refine Hold.append1 (kB) 0 HQ5.out rfl rfl (.tmp 31) (.tmp 37) 30 (.int .u8 0) 1 rfl Tryz.underlying30 info5 rfl (by decide) (by omega) (UInt8.ofNat (X / 65536 % 256).toNat) [.int .u8 (X / 65536 % 256)] rfl rfl (congrArg (fun x => [x]) (lenV X 65536)) Hl5.out ?_; intro _ _ HQ6'; have HQ6 := Aside0.mk HQ6'; clear HQ6' HQ5)
      obtain ⟨G6, hG6⟩ : ∃ G, G = G5 ++ [UInt8.ofNat (X / 65536 % 256).toNat] := ⟨_, rfl⟩
      rw [← hG6] at HQ6
      have hL6 : G6.length = G5.length + 1 := by rw [hG6]; simp
      have hM6 : G6.length ≤ 100000106 := by omega
      have HE6 := Aside0.mk (And.intro hG6 hL6)
      obtain ⟨B6, d6, rfl, hx6, hy6⟩ := HQ6.out.reads 0 rfl
      clear hx6 hy6 hG6 hL6 Hl5
      rw [rounds_succ]
      have Hl6 : Aside0 ((G6.length + 1) * 1 ≤ 140737488355328) := ⟨by omega⟩
      go_wp2_with ((with_reducible refine at_bi (b := .append) (xs := #[.tmp 31, .tmp 37]) rfl ?_); at_builtin; refine Hold.append1 (kB) 0 HQ6.out rfl rfl (.tmp 31) (.tmp 37) 30 (.int .u8 0) 1 rfl Tryz.underlying30 info5 rfl (by decide) (by omega) (UInt8.ofNat (X / 256 % 256).toNat) [.int .u8 (X / 256 % 256)] rfl rfl (congrArg (fun x => [x]) (lenV X 256)) Hl6.out ?_; intro _ _ HQ7'; have HQ7 := Aside0.mk HQ7'; clear HQ7' HQ6)
      obtain ⟨G7, hG7⟩ : ∃ G, G = G6 ++ [UInt8.ofNat (X / 256 % 256).toNat] := ⟨_, rfl⟩
      rw [← hG7] at HQ7
      have hL7 : G7.length = G6.length + 1 := by rw [hG7]; simp
      have hM7 : G7.length ≤ 100000107 := by omega
      have HE7 := Aside0.mk (And.intro hG7 hL7)
      obtain ⟨B7, d7, rfl, hx7, hy7⟩ := HQ7.out.reads 0 rfl
      clear hx7 hy7 hG7 hL7 Hl6
      rw [rounds_succ]
      have Hl7 : Aside0 ((G7.length + 1) * 1 ≤ 140737488355328) := ⟨by omega⟩
      go_wp2_with ((with_reducible refine at_bi (b := .append) (xs := #[.tmp 31, .tmp 37]) rfl ?_); at_builtin; refine Hold.append1 (kB) 0 HQ7.out rfl rfl (.tmp 31) (.tmp 37) 30 (.int .u8 0) 1 rfl Tryz.underlying30 info5 rfl (by decide) (by omega) (UInt8.ofNat (X % 256).toNat) [.int .u8 (X % 256)] rfl rfl (congrArg (fun x => [x]) (lenV0 X)) Hl7.out ?_; intro _ _ HQ8'; have HQ8 := Aside0.mk HQ8'; clear HQ8' HQ7)
      obtain ⟨G8, hG8⟩ : ∃ G, G = G7 ++ [UInt8.ofNat (X % 256).toNat] := ⟨_, rfl⟩
      rw [← hG8] at HQ8
      have hL8 : G8.length = G7.length + 1 := by rw [hG8]; simp
      have hM8 : G8.length ≤ 100000108 := by omega
      have HE8 := Aside0.mk (And.intro hG8 hL8)
      obtain ⟨B8, d8, rfl, hx8, hy8⟩ := HQ8.out.reads 0 rfl
      clear hx8 hy8 hG8 hL8 Hl7
      rw [rounds_succ]
      have HT : Aside0 (G8 = fillB xs (padN xs.length) ++ tailB xs) := ⟨by
        rw [HE8.out.1, HE7.out.1, HE6.out.1, HE5.out.1, HE4.out.1, HE3.out.1, HE2.out.1, HE1.out.1, HF.out, HX.out]
        simp [tailB]⟩
      have HT2 : Aside0 (G8.length = G0.length + 8) := ⟨by have h1 := HE1.out.2; have h2 := HE2.out.2; have h3 := HE3.out.2; have h4 := HE4.out.2; have h5 := HE5.out.2; have h6 := HE6.out.2; have h7 := HE7.out.2; have h8 := HE8.out.2; omega⟩
      clear HE1 HE2 HE3 HE4 HE5 HE6 HE7 HE8 hM1 hM2 hM3 hM4 hM5 hM6 hM7
      rename_i w9
      have H9 : Aside0 (Hold w g w9 [.row kB 5 (.slice B8 G8.length d8) G8, .blk g (.cells (z32.map bV).toArray 110)]) := ⟨HQ8.out⟩
      clear HQ8
      have h10 := (H9.out.alloc (.cells ivW.cs 158))
      have H10 := Aside0.mk h10
      clear h10 H9
      go_wp2
      generalize hg5 : w9.heap.size = g5 at H10 ⊢
      obtain ⟨K, hK⟩ : ∃ K, G8.length = 64 * K := ⟨G8.length / 64, by
        have h1 := congrArg List.length HF.out
        rw [fillB_len] at h1
        have h2 := HT2.out
        unfold padN at h1
        omega⟩
      have HK := Aside0.mk hK
      clear hK hg5
      go_loopw [7] (fun i wr => Blks w g g5 G8 B8 d8 K i wr) (fun i _ => G8.length - (intOf i).toNat)
      case atStart => exact ⟨⟨0, Nat.zero_le _, rfl, H10.out⟩⟩
      case round =>
        obtain ⟨k, hk, rfl, hR3⟩ := hrel.out
        clear hrel H10
        have HR3 := Aside0.mk hR3
        clear hR3
        obtain ⟨_, _, he, hle8, hC8⟩ := HR3.out.reads 1 rfl
        injection he with he1 _ he3
        subst he1 he3
        have Hk := Aside0.mk hk
        obtain ⟨q, hq⟩ : ∃ q, q = 64 * k := ⟨_, rfl⟩
        rw [← hq]
        by_cases hlt : q + 64 ≤ G8.length
        · have HS : Aside0 (hAt G8 (k + 1) = blkF (hAt G8 k) ((G8.drop q).take 64)) := ⟨by rw [hq]; rfl⟩
          have hk2 : k + 1 ≤ K := by have := HK.out; omega
          have hq2 : q + 64 = 64 * (k + 1) := by omega
          have HQ2 := Aside0.mk (And.intro hk2 hq2)
          generalize hAt G8 k = s at *
          have hbs : (G8.take (q + 64)).drop q = (G8.drop q).take 64 := by rw [List.drop_take]; congr 1; omega
          have hbl : ((G8.drop q).take 64).length = 64 := by rw [List.length_take, List.length_drop]; omega
          obtain ⟨A9, hA9⟩ : ∃ A9, A9 = (if d8 = q then B8 else B8.map (·.add (q * 1))) := ⟨_, rfl⟩
          have hC9 := Kd.C_mid (lo := q) (hi := q + 64) hC8 (by omega) (by omega) hle8
          rw [hbs, hbl] at hC9
          rw [show (if d8 = q then B8 else B8.map (·.add (q * kB.sz))) = A9 from hA9.symm] at hC9
          have hcut : ∀ W : World, (Instr.slice 30 (.slice B8 G8.length d8) (some (.int .i64 (q : Int))) (some (.int .i64 ((q : Int) + 64))) none).run Tryz.prog W = .ok (.slice A9 64 (d8 - q)) W := fun W => by
            have h := cut_mid 30 5 .i64 .i64 Tryz.underlying30 infoU8.choose_spec.1 1 infoU8.choose_spec.2.2.1 B8 G8.length d8 (q : Int) ((q : Int) + 64) (by omega) (by omega) (by omega) hle8 W
            rw [show ((q : Int) + 64).toNat - (q : Int).toNat = 64 by omega, Int.toNat_natCast, ← hA9] at h
            exact h
          have hd8 : 64 ≤ d8 - q := by omega
          obtain ⟨s', hs'⟩ : ∃ s', s' = blkF s ((G8.drop q).take 64) := ⟨_, rfl⟩
          have HBk := Aside0.mk (fun nq => block_any (wr.drewN nq) s A9 (d8 - q) ((G8.drop q).take 64) (Kd.C_below hC9 (pw_below_drewN (Below.refl _ _) nq)) hd8)
          rw [← hs'] at HBk HS
          clear hs'
          have hql : (q : Int) < (G8.length : Int) := by omega
          have hqm : q ≤ 100000200 := by omega
          clear hq hk2 hq2 hbs hbl hA9 hC9 hC8 hk hd8
          obtain ⟨k0, f0⟩ := HR3.out.cell 0 rfl 0 (by simp [W8.cs])
          obtain ⟨k1, f1⟩ := HR3.out.cell 0 rfl 1 (by simp [W8.cs])
          obtain ⟨k2, f2⟩ := HR3.out.cell 0 rfl 2 (by simp [W8.cs])
          obtain ⟨k3, f3⟩ := HR3.out.cell 0 rfl 3 (by simp [W8.cs])
          obtain ⟨k4, f4⟩ := HR3.out.cell 0 rfl 4 (by simp [W8.cs])
          obtain ⟨k5, f5⟩ := HR3.out.cell 0 rfl 5 (by simp [W8.cs])
          obtain ⟨k6, f6⟩ := HR3.out.cell 0 rfl 6 (by simp [W8.cs])
          obtain ⟨k7, f7⟩ := HR3.out.cell 0 rfl 7 (by simp [W8.cs])
          replace k0 : wr.cell? ⟨g5, 0, none⟩ = some (.int .u32 s.a) := k0
          replace k1 : wr.cell? ⟨g5, 1, none⟩ = some (.int .u32 s.b) := k1
          replace k2 : wr.cell? ⟨g5, 2, none⟩ = some (.int .u32 s.c) := k2
          replace k3 : wr.cell? ⟨g5, 3, none⟩ = some (.int .u32 s.d) := k3
          replace k4 : wr.cell? ⟨g5, 4, none⟩ = some (.int .u32 s.e) := k4
          replace k5 : wr.cell? ⟨g5, 5, none⟩ = some (.int .u32 s.f) := k5
          replace k6 : wr.cell? ⟨g5, 6, none⟩ = some (.int .u32 s.g) := k6
          replace k7 : wr.cell? ⟨g5, 7, none⟩ = some (.int .u32 s.h) := k7
          go_wp2
          refine wp_region_quiet_tail 6 (by kernel_rfl) (by kernel_rfl) ?_
          simp only [List.take_succ_cons, List.take_zero, List.drop_succ_cons, List.drop_zero]
          repeat (go_big_quiet_step (fail))
          refine wpQuiet_nil ?_
          rintro _ ⟨nq, rfl⟩
          go_wp2_with fail
          refine (HBk.out nq).mono ?_
          rintro e wz ⟨rfl, hb⟩
          have H4 := Aside0.mk ((HR3.out.drewN nq).of_below hb)
          have HG5 := Aside0.mk (H4.out.blk 0 rfl)
          clear hb HBk k0 k1 k2 k3 k4 k5 k6 k7 f0 f1 f2 f3 f4 f5 f6 f7
          go_wp2_with (refine wpList_store_row rfl 158 (.tmp 6) (.tmp 52) rfl g5 s'.cs rfl rfl 158 _ HG5.out size8s rfl (ones (l := s'.l)) ?_)
          refine ⟨⟨⟨k + 1, HQ2.out.1, ?_, ?_⟩⟩, ?_⟩
          · rw [← HQ2.out.2]; go_num
          · rw [HS.out]
            exact H4.out.setRow 0 rfl
          · simp [intOf]
            omega
        · have hqe : q = G8.length := by have := HK.out; omega
          have hkK : k = K := by have := HK.out; omega
          have hqn : ¬ (q : Int) < (G8.length : Int) := by omega
          subst hkK
          have hqf : decide ((q : Int) < (G8.length : Int)) = false := decide_eq_false hqn
          have HHs : Aside0 (hAt G8 k = shaW xs) := ⟨by
            unfold shaW
            rw [← HT.out]
            congr 1
            omega⟩
          generalize hAt G8 k = s at *
          have H11 := Aside0.mk (HR3.out.alloc (.cells (z32.map bV).toArray 110))
          have Hgl : Aside0 (G8.length = G8.length) := ⟨rfl⟩
          clear HR3 hC8 hq hqe hk Hk hlt
          go_wp2
          generalize hg6 : wr.heap.size = g6 at H11 ⊢
          clear hg6
          go_loopw [9] (fun i wx => Outs w g g5 g6 G8 B8 d8 s i wx) (fun i _ => 32 - (intOf i).toNat)
          case atStart => exact ⟨⟨0, Nat.zero_le _, rfl, H11.out⟩⟩
          case round =>
            obtain ⟨j, hj, rfl, hR5⟩ := hrel.out
            clear hrel H11
            have HR5 := Aside0.mk hR5
            clear hR5
            by_cases hl8 : j < 32
            · have q1 := HR5.out.cell 1 rfl (j / 4) (by simp [W8.l]; omega)
              have q2 := HR5.out.cell 0 rfl j (by simp [outK_len]; omega)
              rw [uget8 rfl (by omega)] at q1
              obtain ⟨q1, -⟩ := q1
              obtain ⟨q2, f2⟩ := q2
              obtain ⟨q4, hjq⟩ : ∃ q4, j / 4 = q4 := ⟨_, rfl⟩
              rw [hjq] at q1
              have hd4 : (j : Int) / 4 = (q4 : Int) := by omega
              have hq4 : q4 < 8 := by omega
              have hr4 : j % 4 = 0 ∨ j % 4 = 1 ∨ j % 4 = 2 ∨ j % 4 = 3 := by omega
              rcases hr4 with hr | hr | hr | hr
              · have hm4 : (j : Int) % 4 = 0 := by omega
                have HV : Aside0 (Value.int .u8 (ug s.l q4 / 16777216 % 256) = bV (outB s j)) := ⟨by
                  rw [lenV (ug s.l q4) 16777216]
                  unfold outB
                  rw [hjq, hr]
                  simp⟩
                clear hr hjq hj
                go_wp2
                refine ⟨⟨⟨j + 1, hl8, by go_num, ?_⟩⟩, by simp [intOf]; omega⟩
                rw [HV.out]
                have h := HR5.out.store 0 rfl j (bV (outB s j))
                rw [bset] at h
                exact h
              · have hm4 : (j : Int) % 4 = 1 := by omega
                have HV : Aside0 (Value.int .u8 (ug s.l q4 / 65536 % 256) = bV (outB s j)) := ⟨by
                  rw [lenV (ug s.l q4) 65536]
                  unfold outB
                  rw [hjq, hr]
                  simp⟩
                clear hr hjq hj
                go_wp2
                refine ⟨⟨⟨j + 1, hl8, by go_num, ?_⟩⟩, by simp [intOf]; omega⟩
                rw [HV.out]
                have h := HR5.out.store 0 rfl j (bV (outB s j))
                rw [bset] at h
                exact h
              · have hm4 : (j : Int) % 4 = 2 := by omega
                have HV : Aside0 (Value.int .u8 (ug s.l q4 / 256 % 256) = bV (outB s j)) := ⟨by
                  rw [lenV (ug s.l q4) 256]
                  unfold outB
                  rw [hjq, hr]
                  simp⟩
                clear hr hjq hj
                go_wp2
                refine ⟨⟨⟨j + 1, hl8, by go_num, ?_⟩⟩, by simp [intOf]; omega⟩
                rw [HV.out]
                have h := HR5.out.store 0 rfl j (bV (outB s j))
                rw [bset] at h
                exact h
              · have hm4 : (j : Int) % 4 = 3 := by omega
                have HV : Aside0 (Value.int .u8 (ug s.l q4 % 256) = bV (outB s j)) := ⟨by
                  rw [lenV0 (ug s.l q4)]
                  unfold outB
                  rw [hjq, hr]
                  simp⟩
                clear hr hjq hj
                go_wp2
                refine ⟨⟨⟨j + 1, hl8, by go_num, ?_⟩⟩, by simp [intOf]; omega⟩
                rw [HV.out]
                have h := HR5.out.store 0 rfl j (bV (outB s j))
                rw [bset] at h
                exact h
            · obtain rfl : j = 32 := by omega
              have HG6 := Aside0.mk (HR5.out.blk 0 rfl)
              have HG7 := Aside0.mk (HR5.out.blk 3 rfl)
              have h6 := HR5.out.setRow 3 rfl (cs' := ((outK s 32).map bV).toArray)
              have HG8 := Aside0.mk (h6.blk 3 rfl)
              have H6 := Aside0.mk h6.below
              clear h6 HR5
              go_wp2_with (first | (refine wpList_store_row rfl 110 (.tmp 2) (.tmp 69) rfl g (((outK s 32).map bV).toArray) rfl rfl 110 _ HG7.out (size32 (outK_len s 32)) (by simp [outK_len, z32]) ones32 ?_) | ((with_reducible refine at_dst (N := 69) rfl ?_); refine wpList_load_row rfl 110 (.tmp 8) rfl g6 rfl 110 _ (0, 0) _ HG6.out Tryz.underlying110 rfl (size32 (outK_len s 32)) ?_))
              refine bodyPost_ret (results_cell_row rfl _ _ g 110 _ (0, 0) _ rfl HG8.out Tryz.underlying110 rfl (size32 (outK_len s 32))) rfl ?_
              refine ⟨?_, by rw [hg]; exact H6.out⟩
              unfold shaF
              rw [← HHs.out]
end Go.Proofs.YtdldblfklalaeaaGreatDoor
