/-
  spec.WrapOpen: its contract.
-/
import Derived.Test.YthbdlghkfibbaaaWr9
import Derived.Deep.RegionLaw
namespace Go.Proofs.Ythbdlghkfibbaaa
open Go.RowKit Go.Proofs.YthbdlghkfibbaaaW.PrintWords Go.Lib
set_option linter.unusedVariables false
set_option linter.unusedSimpArgs false
set_option maxRecDepth 100000 in
set_option maxHeartbeats 4000000 in
theorem sopen_any (w : World) (s : UInt64) (A : Option Addr) (M c n : Nat) (xs : List UInt8) (hM : M = 8 * (n + 1)) (hn : 0 < n) (hl : xs.length = M) (hle : M ≤ c) (hmx : n ≤ 1000) (hC : kB.C w A M xs) :
    Calls Try.prog 16 #[hv s, .slice A M c] w fun e w' => ∃ g c0, e = .returned (.tuple #[.slice (some ⟨g, 8, none⟩) (8 * n) c0, .bool (decide ((openSt s xs).1 = ivU))]) ∧
      Hold w w.heap.size w' [.row kB 5 (.slice (some ⟨g, 0, none⟩) (8 * (n + 1)) (c0 + 8)) (beB (openSt s xs).1.toNat ++ openOut s xs)] := by
  obtain ⟨ad, rfl, _⟩ := hC.2.2 (by omega)
  have HC := Aside0.mk hC
  have HL := Aside0.mk hl
  have HM := Aside0.mk hM
  have hM1 : M ≤ 8008 := by omega
  have hc8 : (8 : Int) ≤ (c : Int) := by omega
  obtain ⟨N1, hN1⟩ : ∃ N1, N1 = n + 1 := ⟨_, rfl⟩
  have hN2 : N1 ≤ 1001 := by omega
  have d1 : (M : Int) / 8 = (N1 : Int) := by omega
  have d2 : (N1 : Int) - 1 = (n : Int) := by omega
  have hmk := run_make_row' (P := Try.prog) 32 22 (.int .u64 0) 8 Try.underlying32 info22 rfl .i64 .i64 n (by omega) (by omega)
  obtain ⟨z0, hz0⟩ : ∃ z0, z0 = List.replicate n (0 : UInt64) := ⟨_, rfl⟩
  have em : madeCells #[.int .u64 0] n = (z0.map hv).toArray := by rw [made_rep, hz0, List.map_replicate]; rfl
  simp only [em] at hmk
  obtain ⟨a0, ha0⟩ : ∃ a0, a0 = UInt64.ofNat (beN (xs.take 8)) := ⟨_, rfl⟩
  have hxl8 : (xs.take 8).length = 8 := by rw [List.length_take]; omega
  have hq0 := number_any w (some ad) 8 c _ (Nat.le_of_eq hxl8) (C_takeA hC 8 (by omega))
  rw [show beN (xs.take 8) = a0.toNat by rw [ha0, u64_beN hxl8]] at hq0
  have HQ0 := Aside0.mk hq0
  obtain ⟨fin, hfin⟩ : ∃ fin, fin = openSt s xs := ⟨_, rfl⟩
  have hf1 : openN s n (6 * n) (a0, wordsOf n (xs.drop 8)) = fin := by
    rw [hfin, ha0]
    unfold openSt
    rw [show xs.length / 8 - 1 = n by omega]
  have HF := Aside0.mk (And.intro hf1 (show openOut s xs = bytesW fin.2 by rw [hfin]; rfl))
  rw [← hfin]
  have HZ0 := Aside0.mk hz0
  clear hC hl hM em hz0 ha0 hxl8 hq0 hfin hf1 hN1
  unfold hv
  go_enter Try.func16, Try.ntmps16
  go_wp2_with fail
  refine HQ0.out.mono ?_
  rintro e wf ⟨rfl, n0, rfl⟩
  have H0 := Aside0.mk (((Hold.start w).drewN n0).alloc (.cells (z0.map hv).toArray 22))
  go_wp2
  clear d1 d2 HQ0
  go_loopw [23] (fun i wr => ∃ k : Nat, k ≤ n ∧ i = .int .i64 k ∧ Hold w w.heap.size wr [.blk w.heap.size (.cells ((wordsOf k (xs.drop 8) ++ List.replicate (n - k) 0).map hv).toArray 22)]) (fun i _ => n - (intOf i).toNat)
  case atStart => exact ⟨0, by omega, rfl, by have h := H0.out; rw [show wordsOf 0 (xs.drop 8) = [] from rfl, List.nil_append, Nat.sub_zero, ← HZ0.out]; exact h⟩
  case round =>
    obtain ⟨k, hk, rfl, hR⟩ := hrel
    by_cases hlt : k < n
    · have hkl : (wordsOf k (xs.drop 8)).length = k := wordsOf_len k _
      have hg : (wordsOf k (xs.drop 8) ++ List.replicate (n - k) (0 : UInt64))[k]? = some 0 := by
        rw [List.getElem?_append_right (by omega), hkl, Nat.sub_self, List.getElem?_replicate, if_pos (by omega)]
      obtain ⟨e1, f1⟩ := rowU_get hR k 0 hg
      have HR := Aside0.mk hR
      have hMo := HM.out
      have hb : 8 * (k : Int) + 16 ≤ (c : Int) := by omega
      obtain ⟨x, hx⟩ : ∃ x, x = UInt64.ofNat (beN (((xs.drop 8).drop (8 * k)).take 8)) := ⟨_, rfl⟩
      have hxl : (((xs.drop 8).drop (8 * k)).take 8).length = 8 := by rw [List.length_take, List.length_drop, List.length_drop, HL.out]; omega
      have hxv : beN (((xs.drop 8).drop (8 * k)).take 8) = x.toNat := by rw [hx, u64_beN hxl]
      have hCy := C_takeA (C_dropA (hR.C HC.out) (8 * k + 8) (by omega)) 8 (by omega)
      rw [show xs.drop (8 * k + 8) = (xs.drop 8).drop (8 * k) by rw [List.drop_drop, Nat.add_comm]] at hCy
      have hNq := number_any wr (some (ad.add (8 * k + 8))) 8 (c - (8 * k + 8)) _ (Nat.le_of_eq hxl) hCy
      rw [hxv] at hNq
      have HNq := Aside0.mk hNq
      have HX := Aside0.mk (And.intro hx hkl)
      clear hkl hg hR hMo hx hxl hxv hCy hNq
      go_wp2_with fail
      refine HNq.out.mono ?_
      rintro e w2 ⟨rfl, n1, rfl⟩
      have hR2 := rowU_set (HR.out.drewN n1) k x
      rw [show n - k = (n - (k + 1)) + 1 by omega] at hR2
      have hsm := set_mid (rs := wordsOf k (xs.drop 8)) (m := n - (k + 1)) x
      rw [HX.out.2] at hsm
      rw [hsm] at hR2
      rw [show wordsOf k (xs.drop 8) ++ [x] = wordsOf (k + 1) (xs.drop 8) by rw [wordsOf_snoc, ← HX.out.1]] at hR2
      have HR2 := Aside0.mk hR2
      clear hR2 hsm HNq
      go_wp2
      go_roundw
      case rel => exact ⟨k + 1, hlt, by go_num, HR2.out⟩
      case measure => simp [intOf]; omega
    · obtain rfl : n = k := by omega
      rw [Nat.sub_self, List.replicate_zero, List.append_nil] at hR
      have HR := Aside0.mk hR
      clear hR
      go_wp2
      obtain ⟨wl, hwl⟩ : ∃ wl, wl = wr := ⟨_, rfl⟩
      subst hwl
      go_loopw [7, 10] (fun av i wr => ∃ (J : Nat) (st : UInt64 × List UInt64), J ≤ 6 ∧ i = .int .i64 ((J : Int) - 1) ∧ av = .int .u64 (st.1.toNat : Int) ∧ openN s n (n * J) st = fin ∧ st.2.length = n ∧ Hold w w.heap.size wr [.blk w.heap.size (.cells (st.2.map hv).toArray 22)]) (fun _ i _ => (intOf i + 1).toNat)
      case atStart => exact ⟨6, (a0, wordsOf n (xs.drop 8)), by omega, rfl, rfl, by rw [Nat.mul_comm]; exact HF.out.1, wordsOf_len n _, HR.out⟩
      case round =>
        obtain ⟨J, st, hJ, hi, rfl, hop, hsl, hR⟩ := hrel
        by_cases hlt2 : 0 < J
        · obtain ⟨j, rfl⟩ : ∃ j, J = j + 1 := ⟨J - 1, by omega⟩
          rw [show ((j + 1 : Nat) : Int) - 1 = (j : Int) by omega] at hi
          subst hi
          have hR0 := Aside0.mk (And.intro hop (And.intro hsl hR))
          have hjd : decide ((0 : Int) ≤ (j : Int)) = true := decide_eq_true (by omega)
          clear hR hop hsl
          go_wp2
          obtain ⟨we, hwe⟩ : ∃ we, we = wr := ⟨_, rfl⟩
          subst hwe
          obtain ⟨q, hq⟩ : ∃ q, q = n * j := ⟨_, rfl⟩
          have hq6 : q ≤ 6000 := by
            rw [hq]
            exact Nat.le_trans (Nat.mul_le_mul hmx (show j ≤ 6 by omega)) (by decide)
          have hqi : (n : Int) * (j : Int) = (q : Int) := by rw [hq, Int.natCast_mul]
          have HQ := Aside0.mk hq
          clear hq
          go_loopw [7, 11] (fun av i wr => ∃ (T : Nat) (st : UInt64 × List UInt64), T ≤ n ∧ i = .int .i64 ((T : Int) - 1) ∧ av = .int .u64 (st.1.toNat : Int) ∧ openN s n (q + T) st = fin ∧ st.2.length = n ∧ Hold w w.heap.size wr [.blk w.heap.size (.cells (st.2.map hv).toArray 22)]) (fun _ i _ => (intOf i + 1).toNat)
          case atStart => exact ⟨n, st, by omega, rfl, rfl, by have h := hR0.out.1; rw [Nat.mul_succ, ← HQ.out] at h; exact h, hR0.out.2.1, hR0.out.2.2⟩
          case round =>
            obtain ⟨T, st2, ht, hi, rfl, hop, hsl, hR⟩ := hrel
            by_cases hlt3 : 0 < T
            · obtain ⟨t, rfl⟩ : ∃ t, T = t + 1 := ⟨T - 1, by omega⟩
              rw [show ((t + 1 : Nat) : Int) - 1 = (t : Int) by omega] at hi
              subst hi
              obtain ⟨x, hx⟩ : ∃ x, st2.2[t]? = some x := ⟨_, List.getElem?_eq_getElem (by rw [hsl]; omega)⟩
              obtain ⟨e1, f1⟩ := rowU_get hR t x hx
              have HR := Aside0.mk hR
              have HST := Aside0.mk (And.intro hop (And.intro hsl hx))
              obtain ⟨a1, ha1⟩ : ∃ a1, a1 = st2.1 ^^^ UInt64.ofNat (q + t + 1) := ⟨_, rfl⟩
              have s1 : bits .xor .u64 (st2.1.toNat : Int) ((q : Int) + (t : Int) + 1) = (a1.toNat : Int) := by
                rw [ha1, ← xorU, UInt64.toNat_ofNat_of_lt' (show q + t + 1 < 18446744073709551616 by omega)]
                rfl
              have HA := Aside0.mk ha1
              clear hop hsl hx hR hR0 ha1
              go_wp2_with fail
              refine (sblock_any _ a1.toNat x.toNat a1.toNat_lt x.toNat_lt).mono ?_
              rintro e w2 ⟨rfl, hH⟩
              have HR1 := Aside0.mk (HR.out.app hH)
              clear hH
              go_wp2_with fail
              refine (smixedBack_any _ s (blockOf (a1, x)) (blockOf_len _)).mono ?_
              rw [halvesOf_blockOf]
              rintro e w3 ⟨rfl, hH⟩
              have HR2 := Aside0.mk (HR1.out.app hH)
              obtain ⟨p, hp⟩ : ∃ p, p = backU s (a1, x) := ⟨_, rfl⟩
              rw [← hp]
              have HP := Aside0.mk hp
              clear hH hp
              go_wp2_with fail
              refine (shalves_any _ (blockOf p) (blockOf_len _)).mono ?_
              rw [show (blockOf p).take 8 = beB p.1.toNat from rfl, show (blockOf p).drop 8 = beB p.2.toNat from rfl, beN_beB _ p.1.toNat_lt, beN_beB _ p.2.toNat_lt]
              rintro e w4 ⟨rfl, hH⟩
              have hR3 : Hold w w.heap.size w4 [.blk w.heap.size (.cells (st2.2.map hv).toArray 22 (0, 0))] := HR2.out.app hH
              obtain ⟨e4, f4⟩ := rowU_get hR3 t x HST.out.2.2
              have hR4 := rowU_set hR3 t p.2
              have hN : openR s n st2 (q + t) = (p.1, st2.2.set t p.2) := by
                have hm : (q + t) % n = t := by rw [HQ.out, Nat.mul_add_mod, Nat.mod_eq_of_lt (by omega)]
                have hgd : st2.2.getD t 0 = x := by rw [List.getD_eq_getElem?_getD, HST.out.2.2]; rfl
                unfold openR
                rw [hm, hgd, ← HA.out, ← HP.out]
              have HN := Aside0.mk hN
              have HR4 := Aside0.mk hR4
              clear hH hR3 hR4 hN
              go_wp2
              go_roundw
              case rel =>
                refine ⟨t, (p.1, st2.2.set t p.2), by omega, by go_num, rfl, ?_, ?_, HR4.out⟩
                · rw [← HST.out.1, show q + (t + 1) = (q + t) + 1 from rfl, openN, HN.out]
                · rw [List.length_set]; exact HST.out.2.1
              case measure => simp [intOf]
            · obtain rfl : T = 0 := by omega
              have hi' : u11 = .int .i64 (-1) := hi
              subst hi'
              rw [Nat.add_zero, HQ.out] at hop
              have HR := Aside0.mk (And.intro hop (And.intro hsl hR))
              clear hR hop hsl hR0 hi
              go_wp2
              go_roundw
              case rel => exact ⟨j, st2, by omega, by go_num, rfl, HR.out.1, HR.out.2.1, HR.out.2.2⟩
              case measure => simp [intOf]
        · obtain rfl : J = 0 := by omega
          have hi' : u10 = .int .i64 (-1) := hi
          subst hi'
          rw [Nat.mul_zero] at hop
          obtain rfl : st = fin := hop
          obtain ⟨b, hb⟩ : ∃ b, b = decide (st.1 = ivU) := ⟨_, rfl⟩
          have hcmp : ((st.1.toNat : Int) == (ivU.toNat : Int)) = b := by
            rw [hb]
            by_cases h : st.1 = ivU
            · rw [decide_eq_true h, h]
              exact beq_self_eq_true _
            · rw [decide_eq_false h, beq_eq_false_iff_ne]
              intro h2
              exact h (UInt64.toNat_inj.1 (by omega))
          have HB := Aside0.mk (And.intro hb hsl)
          have HCr := Aside0.mk (rowU_C hR n hsl.symm (by omega))
          have hRd := hR.drew
          have HCr := Aside0.mk (rowU_C hRd n hsl.symm (by omega))
          have HR := Aside0.mk hRd
          obtain ⟨N, hN⟩ : ∃ N, N = 8 * (n + 1) := ⟨_, rfl⟩
          have hlen : (beB st.1.toNat ++ bytesW st.2).length = N := by rw [List.length_append, bytesW_len, hsl, beB_len, hN]; omega
          have hN16 : (16 : Int) ≤ (N : Int) := by omega
          have HNl := Aside0.mk (And.intro hN hlen)
          have HNp : Aside0 (0 < (beB st.1.toNat ++ bytesW st.2).length) := ⟨by rw [hlen]; omega⟩
          have hN8 : (8 : Int) ≤ (N : Int) := by omega
          clear hR hRd hsl hb hN hlen hi
          go_wp2
          go_region_law (go_simp; first | (go_at_call 29; refine (words_any _ st.1 _ n n st.2 hmx HCr.out).mono ?_; rintro e w5 ⟨v, rfl, hH⟩; obtain ⟨g, c', rfl, hc', _⟩ := hH.form 0 rfl HNp.out; rw [HNl.out.2] at hH hc' ⊢; replace HR := Aside0.mk ((HR.out.app hH).swap.tail); obtain ⟨c0, rfl⟩ : ∃ c0, c' = c0 + 8 := ⟨c' - 8, by omega⟩; have hne : ¬ (c0 = 0) := (by omega); clear hH) | (go_at_call 24; refine (first_any _).mono ?_; rintro e w6 ⟨rfl, rfl⟩; unfold hv))
          go_wp2
          go_ret2
          have hN := HNl.out.1
          refine ⟨g, c0, ?_, ?_⟩
          · rw [show 8 * n = N - 8 by omega, ← HB.out.1]
            rfl
          · rw [← hN, HF.out.2]
            exact HR.out
end Go.Proofs.Ythbdlghkfibbaaa
