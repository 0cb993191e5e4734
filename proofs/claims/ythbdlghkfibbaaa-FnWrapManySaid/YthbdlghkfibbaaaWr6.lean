/-
  jwebb.Unwrap: its contract.
-/
import Derived.Test.YthbdlghkfibbaaaWr5
namespace Go.Proofs.Ythbdlghkfibbaaa
open Go.RowKit Go.Proofs.YthbdlghkfibbaaaW.PrintWords Go.Lib
set_option linter.unusedVariables false
set_option linter.unusedSimpArgs false
theorem beB_inj {a b : UInt64} (h : beB a.toNat = beB b.toNat) : a = b := by rw [← word_beB a, h, word_beB]
set_option maxRecDepth 100000 in
set_option maxHeartbeats 4000000 in
theorem unwrap_any (w : World) (s : UInt64) (A : Option Addr) (M c n : Nat) (xs : List UInt8) (hn : 0 < n) (hM : M = 8 * (n + 1)) (hl : xs.length = M) (hle : M ≤ c) (hmx : n ≤ 1000) (hC : kB.C w A M xs) :
    Calls Try.prog 30 #[.iface 48 (.agg #[hv s]), .slice A M c] w fun e w' => ∃ r, e = .returned r ∧
      (((openSt s xs).1 = ivU ∧ ∃ g, r = .tuple #[.slice (some ⟨g, 0, none⟩) (8 * n) (8 * n), .nilIface] ∧ Hold w w.heap.size w' [.blk g (.cells ((openOut s xs).map bV).toArray 5)]) ∨
       (¬ (openSt s xs).1 = ivU ∧ ∃ p, r = .tuple #[.slice none 0 0, .iface 81 (.pointer p)] ∧ Hold w w.heap.size w' [])) := by
  obtain ⟨ad, rfl, _⟩ := hC.2.2 (by omega)
  have HC := Aside0.mk hC
  have HL := Aside0.mk hl
  have hmk := run_make_row' (P := Try.prog) 58 23 (.slice none 0 0) 24 Try.underlying58 info23 rfl .i64 .i64 n (by omega) (by omega)
  have hmk8 : ∀ W, (Instr.makeSlice 23 (.int .i64 8) (.int .i64 8)).run Try.prog W = .ok (.slice (some ⟨W.heap.size, 0, none⟩) 8 8) (W.alloc (.cells Z8 5)) := fun W =>
    (run_make_row' (P := Try.prog) 23 5 (bV 0) 1 Try.underlying23 infoB rfl .i64 .i64 8 (by omega) (by omega) W).trans (by rw [show madeCells #[bV 0] 8 = Z8 by rw [made_rep]; rfl])
  have hmk16 : ∀ W, (Instr.makeSlice 23 (.int .i64 16) (.int .i64 16)).run Try.prog W = .ok (.slice (some ⟨W.heap.size, 0, none⟩) 16 16) (W.alloc (.cells Z16 5)) := fun W =>
    (run_make_row' (P := Try.prog) 23 5 (bV 0) 1 Try.underlying23 infoB rfl .i64 .i64 16 (by omega) (by omega) W).trans (by rw [show madeCells #[bV 0] 16 = Z16 by rw [made_rep]; rfl])
  have hme : ∀ W, (method 224 48 (.agg #[hv s]) "Decrypt").run Try.prog W = .ok (74, .agg #[hv s]) W := fun W => by kernel_rfl
  have em : madeCells #[.slice none 0 0] n = outerC [] n := by rw [made_rep]; rfl
  simp only [em] at hmk
  have H0 := Aside0.mk ((inner_nil 5 ((Hold.start w).alloc (.cells (outerC [] n) 23))).swap)
  obtain ⟨N1, hN1⟩ : ∃ N1, N1 = n + 1 := ⟨_, rfl⟩
  have HN1 := Aside0.mk hN1
  have HMM := Aside0.mk hM
  have hM1 : (16 : Int) ≤ (M : Int) := by omega
  have hM2 : M ≤ 8008 := by omega
  have hM3 : N1 ≤ 1001 := by omega
  have d1 : (M : Int) / 8 = (N1 : Int) := by omega
  have d2 : (M : Int) % 8 = 0 := by omega
  have d3 : (N1 : Int) - 1 = (n : Int) := by omega
  clear hC hl em hN1 hM
  go_enter Try.func30, Try.ntmps30
  go_wp2
  clear d1 d2 d3
  go_loopw [32] (fun i wr => ∃ (k : Nat) (gs : List Nat), k ≤ n ∧ i = .int .i64 k ∧ gs.length = k ∧ Hold w w.heap.size wr [.blk w.heap.size (.cells (outerC gs (n - k)) 23), .inner 5 gs (wordsOf k (xs.drop 8))]) (fun i _ => n - (intOf i).toNat)
  case atStart => exact ⟨0, [], by omega, rfl, rfl, H0.out⟩
  case round =>
    obtain ⟨k, gs, hk, rfl, hgl, hR⟩ := hrel
    by_cases hlt : k < n
    · have hgz : (outerC gs (n - k))[k]? = some nilS := by
        rw [show n - k = (n - k - 1) + 1 by omega, ← hgl]
        exact outerC_at gs _
      obtain ⟨e1, f1⟩ := hR.cellAt 0 rfl k _ hgz
      have hg0 : w.heap.size < wr.heap.size := hR.blk_lt 0 rfl
      have hRa := ((hR.store 0 rfl k (sl8 wr.heap.size)).alloc (.cells Z8 5)).drew
      rw [show (wr.setCell ⟨w.heap.size, k, none⟩ (sl8 wr.heap.size)).heap.size = wr.heap.size by simp [World.setCell]] at hRa
      have HR := Aside0.mk hRa
      clear hRa
      have HG := Aside0.mk hgl
      obtain ⟨m, hm⟩ : ∃ m, m = 8 * (k + 1) := ⟨_, rfl⟩
      obtain ⟨k1, hk1⟩ : ∃ k1, k1 = k + 1 := ⟨_, rfl⟩
      have hMM := HMM.out
      have hw1 : IntKind.i64.wrap ((k : Int) + 1) = (k1 : Int) := by rw [hk1, IntKind.wrap_i64]; omega
      have hw2 : IntKind.i64.wrap ((k1 : Int) * 8) = (m : Int) := by rw [hm, hk1, IntKind.wrap_i64]; omega
      have hm1 : (m : Int) ≤ (M : Int) := by omega
      have hm2 : ¬ (c = m) := by omega
      have hm3 : m ≤ M := by omega
      obtain ⟨x, hx⟩ : ∃ x, x = UInt64.ofNat (beN ((xs.drop m).take 8)) := ⟨_, rfl⟩
      have HX : Aside0 (eight0.take 0 ++ (xs.drop m).take 8 ++ eight0.drop (0 + 8) = beB x.toNat) := ⟨by
        rw [hx, beB_word (by rw [List.length_take, List.length_drop, HL.out]; omega)]
        simp [eight0]⟩
      have HMi : Aside0 (8 = min (M - m) 8) := ⟨by omega⟩
      have HM := Aside0.mk hm
      have HK1 := Aside0.mk hk1
      have HXx := Aside0.mk hx
      clear hMM hk1
      clear hgz hgl hR hm hx
      unfold nilS at e1
      go_wp2
      go_region_law ((with_reducible refine stepCopy (.tmp 42) (.tmp 47) 23 23 rfl ?_); refine step_of rfl ?_; refine copy_wp (zs := eight0) (ys := xs.drop m) (t := 5) (HR.out.blk 0 rfl) (.tmp 42) (.tmp 47) 23 23 rfl Try.underlying23 (by kernel_rfl) 0 8 8 (M - m) (c - m) (ad.add m) rfl rfl (HR.out.C (C_dropA HC.out m hm3)) 8 HMi.out (Nat.le_refl _) (beB x.toNat) HX.out ?_; replace HR := Aside0.mk (HR.out.setRow (cs' := ((beB x.toNat).map bV).toArray) 0 rfl))
      go_wp2
      go_roundw
      case rel =>
        refine ⟨k + 1, gs ++ [wr.heap.size], hlt, by rw [← HK1.out], by simp [HG.out], ?_⟩
        have h := HR.out
        have eo : (outerC gs (n - k)).setIfInBounds k (sl8 wr.heap.size) = outerC (gs ++ [wr.heap.size]) (n - (k + 1)) := by
          rw [show n - k = (n - (k + 1)) + 1 by omega, ← HG.out]
          exact outerC_set gs _ _
        rw [eo] at h
        rw [wordsOf_snoc, List.drop_drop, show 8 + 8 * k = m by have := HM.out; omega, ← HXx.out]
        exact Hold.inner_add h
      case measure => have := HK1.out; simp [intOf]; omega
    · obtain rfl : n = k := by omega
      rw [Nat.sub_self] at hR
      obtain ⟨wl, hwl⟩ : ∃ wl, wl = wr := ⟨_, rfl⟩
      subst hwl
      have HRa := Aside0.mk ((hR.alloc (.cells Z16 5)).alloc (.cells Z8 5))
      have HG := Aside0.mk hgl
      clear hR hgl
      have hRd := HRa.out.drew
      rw [show (wl.alloc (.cells Z16 5)).heap.size = wl.heap.size + 1 by simp] at hRd
      have HCi := Aside0.mk (hRd.C (C_takeA HC.out 8 (by omega)))
      have HRb := Aside0.mk hRd
      have hx8 : (xs.take 8).length = 8 := by rw [List.length_take, HL.out]; omega
      obtain ⟨st0, hst0⟩ : ∃ st0, st0 = (UInt64.ofNat (beN (xs.take 8)), wordsOf n (xs.drop 8)) := ⟨_, rfl⟩
      obtain ⟨b0, hb0⟩ : ∃ b0, b0 = beB st0.1.toNat ++ eight0 := ⟨_, rfl⟩
      have HZi : Aside0 ((eight0 ++ eight0).take 0 ++ (xs.take 8).take 8 ++ (eight0 ++ eight0).drop (0 + 8) = b0) := ⟨by
        rw [hb0, hst0, beB_word hx8, List.take_of_length_le (l := xs.take 8) (Nat.le_of_eq hx8)]
        rfl⟩
      have HS0 := Aside0.mk (And.intro hst0 hb0)
      have hd8 : (⟨wl.heap.size, 0, none⟩ : Addr).add 8 = ⟨wl.heap.size, 8, none⟩ := rfl
      have hc8 : (8 : Int) ≤ (c : Int) := by omega
      clear hRd HRa hx8 hst0 hb0
      go_wp2
      go_region_law ((with_reducible refine stepCopy (.tmp 53) (.tmp 55) 23 23 rfl ?_); refine step_of rfl ?_; refine copy_wp (zs := eight0 ++ eight0) (ys := xs.take 8) (t := 5) (HRb.out.blk 1 rfl) (.tmp 53) (.tmp 55) 23 23 rfl Try.underlying23 (by kernel_rfl) 0 8 16 8 c _ rfl rfl HCi.out 8 rfl (by decide) b0 HZi.out ?_; replace HRb := Aside0.mk (HRb.out.setRow (cs' := (b0.map bV).toArray) 1 rfl))
      go_wp2
      obtain ⟨hst0, hb0⟩ := HS0.out
      have hS0 := HRb.out
      rw [hb0, show wordsOf n (xs.drop 8) = st0.2 by rw [hst0]] at hS0
      have h00 : st0.2.length = n := by rw [hst0]; exact wordsOf_len n _
      have HS := Aside0.mk (And.intro hS0 h00)
      obtain ⟨fin, hfin⟩ : ∃ fin, fin = openN s n (6 * n) st0 := ⟨_, rfl⟩
      have HF := Aside0.mk (And.intro hfin hst0)
      clear HCi HRb HZi hS0 h00 hfin hst0 hb0
      go_loopw [11] (fun i wq => ∃ (T : Nat) (st : UInt64 × List UInt64) (y tb : List UInt8), T ≤ 6 * n ∧ i = .int .i64 ((T : Int) - 1) ∧ openN s n T st = fin ∧ st.2.length = n ∧ y.length = 8 ∧ tb.length = 8 ∧ Hold w w.heap.size wq [.blk (wl.heap.size + 1) (.cells (tb.map bV).toArray 5), .blk wl.heap.size (.cells ((beB st.1.toNat ++ y).map bV).toArray 5), .blk w.heap.size (.cells (outerC gs 0) 23), .inner 5 gs st.2]) (fun i _ => (intOf i + 1).toNat)
      case atStart => exact ⟨6 * n, st0, eight0, eight0, Nat.le_refl _, by go_num, HF.out.1.symm, HS.out.2, rfl, rfl, by rw [HS0.out.2]; exact HS.out.1⟩
      case round =>
        obtain ⟨T, st, y, tb, ht, hi, hop, hsl, hy, htb, hR⟩ := hrel
        by_cases hlt2 : 0 < T
        · obtain ⟨t, rfl⟩ : ∃ t, T = t + 1 := ⟨T - 1, by omega⟩
          rw [show ((t + 1 : Nat) : Int) - 1 = (t : Int) by omega] at hi
          subst hi
          obtain ⟨j, hj⟩ : ∃ j, j = t % n := ⟨_, rfl⟩
          have hjn : j < n := by rw [hj]; exact Nat.mod_lt _ hn
          have hrem : (t : Int).tmod (n : Int) = (j : Int) := by rw [hj]; rfl
          have hn0 : ¬ (n = 0) := by omega
          obtain ⟨g, hg⟩ : ∃ g, gs[j]? = some g := ⟨_, List.getElem?_eq_getElem (by rw [HG.out]; exact hjn)⟩
          obtain ⟨x, hx⟩ : ∃ x, st.2[j]? = some x := ⟨_, List.getElem?_eq_getElem (by rw [hsl]; exact hjn)⟩
          have HR := Aside0.mk hR
          have HST := Aside0.mk (And.intro hop (And.intro hsl (And.intro hj (And.intro hg hx))))
          have HTB := Aside0.mk htb
          have HY := Aside0.mk hy
          clear hop hsl hj hg hx hR hy htb HS HS0
          go_wp2_with fail
          have hP1 := put64b_any _ (wl.heap.size + 1) 8 (t + 1) tb HTB.out (by omega) HR.out
          rw [show ((t + 1 : Nat) : Int) = (t : Int) + 1 from rfl] at hP1
          refine hP1.mono ?_
          clear hP1 HR HTB
          rintro e w6 ⟨rfl, hE⟩
          obtain ⟨a1, ha1⟩ : ∃ a1, a1 = st.1 ^^^ UInt64.ofNat (t + 1) := ⟨_, rfl⟩
          have HA := Aside0.mk ha1
          have HZx : Aside0 (List.zipWith (fun x y : UInt8 => x ^^^ y) (beB st.1.toNat) (beB (t + 1)) = beB a1.toNat) := ⟨by
            rw [beB_xor, ha1, UInt64.toNat_xor, UInt64.toNat_ofNat_of_lt' (show t + 1 < 18446744073709551616 by omega)]⟩
          have HE := Aside0.mk hE
          clear ha1 hE
          go_wp2
          go_loopw [70] (fun i wq => ∃ k : Nat, k ≤ 8 ∧ i = .int .i64 k ∧ Hold w w.heap.size wq [.blk (wl.heap.size + 1) (.cells ((beB (t + 1)).map bV).toArray 5), .blk wl.heap.size (.cells (((beB a1.toNat).take k ++ (beB st.1.toNat).drop k ++ y).map bV).toArray 5), .blk w.heap.size (.cells (outerC gs 0) 23), .inner 5 gs st.2]) (fun i _ => 8 - (intOf i).toNat)
          case atStart => exact ⟨0, by omega, rfl, HE.out⟩
          case round =>
            obtain ⟨k, hk8, rfl, hR⟩ := hrel
            by_cases hlt3 : k < 8
            · have hRd := hR.drew
              obtain ⟨dk, tk, zk, hz, q1, q2, q3⟩ := mid_all (E := y) HZx.out k rfl rfl rfl hlt3
              obtain ⟨b1, b2⟩ := hRd.cellAt 1 rfl k _ q1
              obtain ⟨b3, _⟩ := hRd.cellAt 0 rfl k _ q2
              have hRs := (hR.store 1 rfl k (bV zk)).drew
              rw [q3] at hRs
              have HR := Aside0.mk hRs
              change _ = some (Value.int .u8 (dk.toNat : Int)) at b1
              change _ = some (Value.int .u8 (tk.toNat : Int)) at b3
              have s1 := xor8U dk tk
              rw [hz] at s1
              clear hR hRd hz q1 q2 q3 HE hRs
              go_wp2
              go_region
              go_wp2
              go_roundw
              case rel => exact ⟨k + 1, hlt3, by go_num, HR.out⟩
              case measure => simp [intOf]; omega
            · obtain rfl : k = 8 := by omega
              have hq : (beB a1.toNat).take 8 ++ (beB st.1.toNat).drop 8 ++ y = beB a1.toNat ++ y := rfl
              rw [hq] at hR
              have hRd := hR.drew
              obtain ⟨hop, hsl, hj, hg, hx⟩ := HST.out
              have hy := HY.out
              obtain ⟨e1, f1⟩ := hRd.cellAt 2 rfl j (sl8 g) (outerC_get gs 0 j g hg)
              unfold sl8 at e1
              have HCx := Aside0.mk (hRd.inner_C 3 rfl j g x hg hx)
              have HZ1 : Aside0 ((beB a1.toNat ++ y).take 8 ++ (beB x.toNat).take 8 ++ (beB a1.toNat ++ y).drop (8 + 8) = blockOf (a1, x)) := ⟨by
                rw [List.take_left' (beB_len _), List.take_of_length_le (Nat.le_of_eq (beB_len _)), List.drop_eq_nil_of_le (by rw [List.length_append, hy, beB_len]; exact Nat.le_refl _), List.append_nil]
                rfl⟩
              have HZf : Aside0 (8 + 8 ≤ (beB a1.toNat ++ y).length) := ⟨by rw [List.length_append, hy, beB_len]; exact Nat.le_refl _⟩
              have HR := Aside0.mk hRd
              have HGj := Aside0.mk (And.intro hg hx)
              clear hR hRd hop hsl hj hg hx hq HE hy
              go_wp2
              go_region_law ((with_reducible refine stepCopy (.tmp 87) (.tmp 93) 23 23 rfl ?_); refine step_of rfl ?_; refine copy_wp (zs := beB a1.toNat ++ y) (ys := beB x.toNat) (t := 5) (HR.out.blk 1 rfl) (.tmp 87) (.tmp 93) 23 23 rfl Try.underlying23 (by kernel_rfl) 8 8 8 8 8 _ rfl rfl HCx.out 8 rfl HZf.out (blockOf (a1, x)) HZ1.out ?_; replace HR := Aside0.mk (HR.out.setRow (cs' := ((blockOf (a1, x)).map bV).toArray) 1 rfl))
              clear HCx HZ1 HZf e1 f1
              go_wp2_with fail
              refine (decrypt_any _ s wl.heap.size 16 16 (blockOf (a1, x)) (blockOf_len _) HR.out.swap).mono ?_
              rw [backB_blockOf]
              rintro e w5 ⟨rfl, hE⟩
              obtain ⟨p, hp⟩ : ∃ p, p = backU s (a1, x) := ⟨_, rfl⟩
              rw [← hp] at hE
              have HP := Aside0.mk hp
              have hRd := hE.swap.drew
              obtain ⟨e1, f1⟩ := hRd.cellAt 2 rfl j (sl8 g) (outerC_get gs 0 j g HGj.out.1)
              unfold sl8 at e1
              have hCb := C_blk hRd 1 rfl (by rw [blockOf_len]; decide)
              rw [blockOf_len] at hCb
              have HCb := Aside0.mk (show kB.C _ (some ⟨wl.heap.size, 8, none⟩) 8 (beB p.2.toNat) from C_dropA hCb 8 (by omega))
              have HBk := Aside0.mk (hRd.inner_blk 3 rfl j g x HGj.out.1 HGj.out.2)
              have HZ2 : Aside0 ((beB x.toNat).take 0 ++ (beB p.2.toNat).take 8 ++ (beB x.toNat).drop (0 + 8) = beB p.2.toNat) := ⟨rfl⟩
              replace HR := Aside0.mk hRd
              clear hRd hE hp hCb
              go_wp2
              go_region_law ((with_reducible refine stepCopy (.tmp 104) (.tmp 106) 23 23 rfl ?_); refine step_of rfl ?_; refine copy_wp (zs := beB x.toNat) (ys := beB p.2.toNat) (t := 5) HBk.out (.tmp 104) (.tmp 106) 23 23 rfl Try.underlying23 (by kernel_rfl) 0 8 8 8 8 _ rfl rfl HCb.out 8 rfl (Nat.le_of_eq rfl) (beB p.2.toNat) HZ2.out ?_; replace HR := Aside0.mk (HR.out.inner_set 3 rfl j g p.2 HGj.out.1))
              go_wp2
              go_roundw
              case rel =>
                obtain ⟨hop, hsl, hj, hg, hx⟩ := HST.out
                have hgd : st.2.getD j 0 = x := by rw [List.getD_eq_getElem?_getD, hx]; rfl
                have hN : openR s n st t = (p.1, st.2.set j p.2) := by
                  unfold openR
                  rw [← hj, hgd, ← HA.out, ← HP.out]
                refine ⟨t, (p.1, st.2.set j p.2), beB p.2.toNat, beB (t + 1), by omega, by go_num, ?_, ?_, rfl, rfl, HR.out⟩
                · rw [← hop, openN, hN]
                · rw [List.length_set]; exact hsl
              case measure => simp [intOf]
        · obtain rfl : T = 0 := by omega
          obtain rfl : st = fin := hop
          have hi' : u11 = .int .i64 (-1) := hi
          subst hi'
          have hOS : openSt s xs = st := by
            unfold openSt
            rw [show xs.length / 8 - 1 = n by have := HL.out; have := HMM.out; omega, ← HF.out.2, ← HF.out.1]
          have hOO : openOut s xs = bytesW st.2 := by unfold openOut; rw [hOS]
          have hRb := (hR.alloc (.cells ((beB ivU.toNat).map bV).toArray 5)).drew
          have hC1 := C_blk hRb 2 rfl (by rw [List.length_append, hy, beB_len]; decide)
          rw [List.length_append, hy, beB_len] at hC1
          have hC1' := C_takeA hC1 8 (by omega)
          rw [List.take_left' (beB_len _)] at hC1'
          have hC2 := C_blk hRb 0 rfl (by rw [beB_len]; decide)
          rw [beB_len] at hC2
          have hqc := ct_any _ _ _ 16 8 (beB st.1.toNat) (beB ivU.toNat) rfl (by rw [beB_len]; exact hC1') (by rw [beB_len]; exact hC2)
          simp only [beB_len] at hqc
          have HRb := Aside0.mk (hR.alloc (.cells ((beB ivU.toNat).map bV).toArray 5))
          by_cases hiv : st.1 = ivU
          · rw [if_pos (by rw [hiv])] at hqc
            have HQc := Aside0.mk hqc
            have HFin := Aside0.mk (And.intro hiv (And.intro hOS (And.intro hOO hsl)))
            clear hRb hC1 hC1' hC2 hqc hiv hOS hOO hsl hR hy htb
            go_wp2
            go_region_law (go_simp; first | (go_at_call 38; refine (iv_any _).mono ?_; rintro e w7 ⟨rfl, rfl⟩) | (go_at_call 41; refine HQc.out.mono ?_; rintro e w8 ⟨rfl, kq, rfl⟩))
            obtain ⟨N, hN⟩ : ∃ N, N = 8 * n := ⟨_, rfl⟩
            have hmkO : ∀ W, (Instr.makeSlice 23 (.int .i64 ((n : Int) * 8)) (.int .i64 ((n : Int) * 8))).run Try.prog W = .ok (.slice (some ⟨W.heap.size, 0, none⟩) N N) (W.alloc (.cells ((outL [] st.2 0 n).map bV).toArray 5)) := fun W => by
              rw [show ((n : Int) * 8) = ((N : Nat) : Int) by omega]
              exact (run_make_row' (P := Try.prog) 23 5 (bV 0) 1 Try.underlying23 infoB rfl .i64 .i64 N (by omega) (by omega) W).trans (by rw [made_rep, hN]; simp [outL, bytesW])
            have hS := (((HRb.out.drewN (1 + kq)).alloc (.cells ((outL [] st.2 0 n).map bV).toArray 5))).swap.tail.swap.tail.swap.tail
            rw [show ((wr.alloc (.cells ((beB ivU.toNat).map bV).toArray 5)).drewN (1 + kq)).heap.size = wr.heap.size + 1 by simp] at hS
            have HS := Aside0.mk hS
            have HNn := Aside0.mk hN
            obtain ⟨we, hwe⟩ : ∃ we, we = wr := ⟨_, rfl⟩
            subst hwe
            clear hN HRb HQc hS
            go_wp2
            go_loopw [119] (fun i wq => ∃ k : Nat, k ≤ n ∧ i = .int .i64 k ∧ Hold w w.heap.size wq [.blk (we.heap.size + 1) (.cells ((outL [] st.2 k (n - k)).map bV).toArray 5), .blk w.heap.size (.cells (outerC gs 0) 23), .inner 5 gs st.2]) (fun i _ => n - (intOf i).toNat)
            case atStart => exact ⟨0, by omega, rfl, HS.out⟩
            case round =>
              obtain ⟨k, hkn, rfl, hR⟩ := hrel
              by_cases hlt4 : k < n
              · have hsl := HFin.out.2.2.2
                obtain ⟨g, hg⟩ : ∃ g, gs[k]? = some g := ⟨_, List.getElem?_eq_getElem (by rw [HG.out]; exact hlt4)⟩
                obtain ⟨x, hx⟩ : ∃ x, st.2[k]? = some x := ⟨_, List.getElem?_eq_getElem (by rw [hsl]; exact hlt4)⟩
                have hRd := hR.drew
                obtain ⟨e1, f1⟩ := hRd.cellAt 1 rfl k (sl8 g) (outerC_get gs 0 k g hg)
                unfold sl8 at e1
                have HCx := Aside0.mk (hRd.inner_C 2 rfl k g x hg hx)
                obtain ⟨m, hm⟩ : ∃ m, m = 8 * k := ⟨_, rfl⟩
                have hNn := HNn.out
                have hw2 : IntKind.i64.wrap ((k : Int) * 8) = (m : Int) := by rw [hm, IntKind.wrap_i64]; omega
                have hm1 : (m : Int) ≤ (N : Int) := by omega
                have hm2 : ¬ (N = m) := by omega
                have HZ : Aside0 ((outL [] st.2 k (n - k)).take m ++ (beB x.toNat).take 8 ++ (outL [] st.2 k (n - k)).drop (m + 8) = outL [] st.2 (k + 1) (n - (k + 1))) := ⟨by
                  have := outL_step [] st.2 k (n - (k + 1)) x hx
                  rw [List.length_nil, Nat.zero_add, ← hm, show n - (k + 1) + 1 = n - k by omega] at this
                  exact this⟩
                have HOk : Aside0 (8 = min 8 (N - m) ∧ m + 8 ≤ (outL [] st.2 k (n - k)).length) := ⟨by
                  rw [outL_len _ _ _ _ (by rw [hsl]; exact hkn), List.length_nil]
                  omega⟩
                have HR := Aside0.mk hRd
                clear hR hRd hg hx hm hNn HS hsl
                go_wp2
                go_region_law ((with_reducible refine stepCopy (.tmp 125) (.tmp 129) 23 23 rfl ?_); refine step_of rfl ?_; refine copy_wp (zs := outL [] st.2 k (n - k)) (ys := beB x.toNat) (t := 5) (HR.out.blk 0 rfl) (.tmp 125) (.tmp 129) 23 23 rfl Try.underlying23 (by kernel_rfl) m (N - m) (N - m) 8 8 _ rfl rfl HCx.out 8 HOk.out.1 HOk.out.2 (outL [] st.2 (k + 1) (n - (k + 1))) HZ.out ?_; replace HR := Aside0.mk (HR.out.setRow (cs' := ((outL [] st.2 (k + 1) (n - (k + 1))).map bV).toArray) 0 rfl))
                go_wp2
                go_roundw
                case rel => exact ⟨k + 1, hlt4, by go_num, HR.out⟩
                case measure => simp [intOf]; omega
              · obtain rfl : n = k := by omega
                have hq2 := outL_all [] st.2
                rw [HFin.out.2.2.2, List.nil_append, ← HFin.out.2.2.1] at hq2
                rw [Nat.sub_self, hq2] at hR
                have HR := Aside0.mk hR.swap.tail.swap.tail
                clear hR hq2
                go_wp2
                go_ret2
                refine ⟨_, rfl, .inl ⟨by rw [HFin.out.2.1]; exact HFin.out.1, _, ?_, HR.out⟩⟩
                rw [← HNn.out]
                rfl
          · rw [if_neg (fun h => hiv (beB_inj h))] at hqc
            have HQc := Aside0.mk hqc
            have HFin := Aside0.mk (And.intro hiv hOS)
            clear hRb hC1 hC1' hC2 hqc hiv hOS hOO hsl hR hy htb
            go_wp2
            go_region_law (go_simp; first | (go_at_call 38; refine (iv_any _).mono ?_; rintro e w7 ⟨rfl, rfl⟩) | (go_at_call 41; refine HQc.out.mono ?_; rintro e w8 ⟨rfl, kq, rfl⟩))
            have HS := Aside0.mk (HRb.out.drewN (1 + kq)).tail.tail.tail.tail.tail
            clear HRb HQc
            go_wp2_with fail
            refine (errNew_any _ _).mono ?_
            rintro e w9 ⟨rfl, hE⟩
            have HE := Aside0.mk (HS.out.app hE)
            clear hE
            go_wp2
            go_ret2
            exact ⟨_, rfl, .inr ⟨by rw [HFin.out.2]; exact HFin.out.1, _, rfl, HE.out⟩⟩
end Go.Proofs.Ythbdlghkfibbaaa
