/-
  spec.WrapKey: its contract.
-/
import Derived.Test.YthbdlghkfibbaaaWr8
import Derived.Test.YthbdlghkfibbaaaWr5
namespace Go.Proofs.Ythbdlghkfibbaaa
open Go.RowKit Go.Proofs.YthbdlghkfibbaaaW.PrintWords Go.Lib
set_option linter.unusedVariables false
set_option linter.unusedSimpArgs false
theorem info22 : (Try.prog.info? 22).map (fun i => (i.zero, i.size, i.bytes)) = some (some (.int .u64 0), 1, 8) := by kernel_rfl
theorem rowU_get {w0 w : World} {B g t : Nat} {L : List Asrt} {rs : List UInt64} (hS : Hold w0 B w (.blk g (.cells (rs.map hv).toArray t (0, 0)) :: L)) (k : Nat) (x : UInt64) (hx : rs[k]? = some x) :
    w.cell? ⟨g, k, none⟩ = some (.int .u64 (x.toNat : Int)) ∧ w.frozen? ⟨g, k, none⟩ = false :=
  hS.cellAt 0 rfl k (hv x) (by rw [List.getElem?_toArray, List.getElem?_map, hx]; rfl)
theorem rowU_set {w0 w : World} {B g t : Nat} {L : List Asrt} {rs : List UInt64} (hS : Hold w0 B w (.blk g (.cells (rs.map hv).toArray t (0, 0)) :: L)) (k : Nat) (x : UInt64) :
    Hold w0 B (w.setCell ⟨g, k, none⟩ (.int .u64 (x.toNat : Int))) (.blk g (.cells ((rs.set k x).map hv).toArray t (0, 0)) :: L) := by
  have h := hS.store 0 rfl k (hv x)
  rw [List.setIfInBounds_toArray, ← List.map_set] at h
  exact h
theorem rowU_C {w0 w : World} {B g t : Nat} {L : List Asrt} {rs : List UInt64} (hS : Hold w0 B w (.blk g (.cells (rs.map hv).toArray t (0, 0)) :: L)) (n : Nat) (hn : n = rs.length) (hm : n ≤ 9223372036854775807) : kU.C w (some ⟨g, 0, none⟩) n rs := by
  subst hn
  refine ⟨rfl, hm, fun _ => ⟨_, rfl, fun j p hj => ?_⟩⟩
  refine ⟨[hv p], rfl, rfl, fun i u hu => ?_⟩
  cases i with
  | zero =>
    have hu' : hv p = u := by simpa using hu
    rw [← hu', Addr.add_mid]
    have e : 0 + (j * kU.sz + 0) = j := by show 0 + (j * 1 + 0) = j; omega
    rw [e]
    exact (rowU_get hS j p hj).1
  | succ i => simp at hu
theorem set_mid {rs : List UInt64} {m : Nat} (x : UInt64) : (rs ++ List.replicate (m + 1) 0).set rs.length x = rs ++ [x] ++ List.replicate m 0 := by
  rw [List.set_append_right _ _ (Nat.le_refl _), Nat.sub_self, List.replicate_succ, List.set_cons_zero, List.append_assoc]
  rfl
set_option maxRecDepth 100000 in
set_option maxHeartbeats 4000000 in
theorem skey_any (w : World) (s : UInt64) (A : Option Addr) (M c n : Nat) (xs : List UInt8) (hM : M = 8 * n) (hn : 0 < n) (hl : xs.length = M) (hle : M ≤ c) (hmx : n ≤ 1000) (hC : kB.C w A M xs) :
    Calls Try.prog 14 #[hv s, .slice A M c] w fun e w' => ∃ v, e = .returned v ∧ Hold w w.heap.size w' [.row kB 5 v (wrapOut s xs)] := by
  obtain ⟨ad, rfl, _⟩ := hC.2.2 (by omega)
  have HC := Aside0.mk hC
  have HL := Aside0.mk hl
  have HM := Aside0.mk hM
  have hM1 : M ≤ 8000 := by omega
  have d1 : (M : Int) / 8 = (n : Int) := by omega
  have hmk := run_make_row' (P := Try.prog) 32 22 (.int .u64 0) 8 Try.underlying32 info22 rfl .i64 .i64 n (by omega) (by omega)
  obtain ⟨z0, hz0⟩ : ∃ z0, z0 = List.replicate n (0 : UInt64) := ⟨_, rfl⟩
  have em : madeCells #[.int .u64 0] n = (z0.map hv).toArray := by rw [made_rep, hz0, List.map_replicate]; rfl
  simp only [em] at hmk
  have H0 := Aside0.mk ((Hold.start w).alloc (.cells (z0.map hv).toArray 22))
  have HZ0 := Aside0.mk hz0
  clear hC hl hM em hz0
  unfold hv
  go_enter Try.func14, Try.ntmps14
  go_wp2_with fail
  refine (first_any _).mono ?_
  rintro e wf ⟨rfl, rfl⟩
  go_wp2
  clear d1
  go_loopw [21] (fun i wr => ∃ k : Nat, k ≤ n ∧ i = .int .i64 k ∧ Hold w w.heap.size wr [.blk w.heap.size (.cells ((wordsOf k xs ++ List.replicate (n - k) 0).map hv).toArray 22)]) (fun i _ => n - (intOf i).toNat)
  case atStart => exact ⟨0, by omega, rfl, by have h := H0.out; rw [show wordsOf 0 xs = [] from rfl, List.nil_append, Nat.sub_zero, ← HZ0.out]; exact h⟩
  case round =>
    obtain ⟨k, hk, rfl, hR⟩ := hrel
    by_cases hlt : k < n
    · have hkl : (wordsOf k xs).length = k := wordsOf_len k xs
      have hg : (wordsOf k xs ++ List.replicate (n - k) (0 : UInt64))[k]? = some 0 := by
        rw [List.getElem?_append_right (by omega), hkl, Nat.sub_self, List.getElem?_replicate, if_pos (by omega)]
      obtain ⟨e1, f1⟩ := rowU_get hR k 0 hg
      have HR := Aside0.mk hR
      have hMo := HM.out
      have hb : 8 * (k : Int) + 8 ≤ (c : Int) := by omega
      obtain ⟨x, hx⟩ : ∃ x, x = UInt64.ofNat (beN ((xs.drop (8 * k)).take 8)) := ⟨_, rfl⟩
      have hxl : ((xs.drop (8 * k)).take 8).length = 8 := by rw [List.length_take, List.length_drop, HL.out]; omega
      have hxv : beN ((xs.drop (8 * k)).take 8) = x.toNat := by rw [hx, u64_beN hxl]
      have hCy := C_takeA (C_dropA (hR.C HC.out) (8 * k) (by omega)) 8 (by omega)
      have hNq := number_any wr (some (ad.add (8 * k))) 8 (c - 8 * k) _ (Nat.le_of_eq hxl) hCy
      rw [hxv] at hNq
      have HNq := Aside0.mk hNq
      have HX := Aside0.mk (And.intro hx hkl)
      clear hkl hg hR hMo hx hxl hxv hCy hNq
      go_wp2_with fail
      refine HNq.out.mono ?_
      rintro e w2 ⟨rfl, n1, rfl⟩
      have hR2 := rowU_set (HR.out.drewN n1) k x
      rw [show n - k = (n - (k + 1)) + 1 by omega] at hR2
      have hsm := set_mid (rs := wordsOf k xs) (m := n - (k + 1)) x
      rw [HX.out.2] at hsm
      rw [hsm] at hR2
      rw [show wordsOf k xs ++ [x] = wordsOf (k + 1) xs by rw [wordsOf_snoc, ← HX.out.1]] at hR2
      have HR2 := Aside0.mk hR2
      clear hR2 hsm HNq
      go_wp2
      go_roundw
      case rel => exact ⟨k + 1, hlt, by go_num, HR2.out⟩
      case measure => simp [intOf]; omega
    · obtain rfl : n = k := by omega
      rw [Nat.sub_self, List.replicate_zero, List.append_nil] at hR
      have HR := Aside0.mk hR
      clear hR
      go_wp2
      obtain ⟨wl, hwl⟩ : ∃ wl, wl = wr := ⟨_, rfl⟩
      subst hwl
      go_loopw [6, 9] (fun av i wr => ∃ j : Nat, j ≤ 6 ∧ i = .int .i64 j ∧ av = .int .u64 ((wrapN s n (n * j) (ivU, wordsOf n xs)).1.toNat : Int) ∧ Hold w w.heap.size wr [.blk w.heap.size (.cells ((wrapN s n (n * j) (ivU, wordsOf n xs)).2.map hv).toArray 22)]) (fun _ i _ => 6 - (intOf i).toNat)
      case atStart => exact ⟨0, by omega, rfl, rfl, HR.out⟩
      case round =>
        obtain ⟨j, hj, rfl, rfl, hR⟩ := hrel
        by_cases hlt2 : j < 6
        · have hR0 := Aside0.mk hR
          have hjd : decide ((j : Int) < 6) = true := decide_eq_true (by omega)
          clear hR
          go_wp2
          obtain ⟨we, hwe⟩ : ∃ we, we = wr := ⟨_, rfl⟩
          subst hwe
          obtain ⟨q, hq⟩ : ∃ q, q = n * j := ⟨_, rfl⟩
          have hq6 : q ≤ 6000 := by
            rw [hq]
            exact Nat.le_trans (Nat.mul_le_mul hmx (Nat.le_of_lt hlt2)) (by decide)
          have hqi : (n : Int) * (j : Int) = (q : Int) := by rw [hq, Int.natCast_mul]
          have HQ := Aside0.mk hq
          rw [← hq] at hR0 ⊢
          clear hq
          go_loopw [6, 42] (fun av i wr => ∃ t : Nat, t ≤ n ∧ i = .int .i64 t ∧ av = .int .u64 ((wrapN s n (q + t) (ivU, wordsOf n xs)).1.toNat : Int) ∧ Hold w w.heap.size wr [.blk w.heap.size (.cells ((wrapN s n (q + t) (ivU, wordsOf n xs)).2.map hv).toArray 22)]) (fun _ i _ => n - (intOf i).toNat)
          case atStart => exact ⟨0, by omega, rfl, rfl, hR0.out⟩
          case round =>
            obtain ⟨t, ht, rfl, rfl, hR⟩ := hrel
            by_cases hlt3 : t < n
            · obtain ⟨st, hst⟩ : ∃ st, st = wrapN s n (q + t) (ivU, wordsOf n xs) := ⟨_, rfl⟩
              have hsl : st.2.length = n := by rw [hst, wrapN_len]; exact wordsOf_len n xs
              rw [← hst] at hR ⊢
              obtain ⟨x, hx⟩ : ∃ x, st.2[t]? = some x := ⟨_, List.getElem?_eq_getElem (by rw [hsl]; exact hlt3)⟩
              obtain ⟨e1, f1⟩ := rowU_get hR t x hx
              have HR := Aside0.mk hR
              have HST := Aside0.mk (And.intro hst hx)
              clear hst hsl hx hR hR0
              go_wp2_with fail
              refine (sblock_any _ st.1.toNat x.toNat st.1.toNat_lt x.toNat_lt).mono ?_
              rintro e w2 ⟨rfl, hH⟩
              have HR1 := Aside0.mk (HR.out.app hH)
              clear hH
              go_wp2_with fail
              refine (smixed_any _ s (blockOf (st.1, x)) (blockOf_len _)).mono ?_
              rw [halvesOf_blockOf]
              rintro e w3 ⟨rfl, hH⟩
              have HR2 := Aside0.mk (HR1.out.app hH)
              obtain ⟨p, hp⟩ : ∃ p, p = mixU s (st.1, x) := ⟨_, rfl⟩
              rw [← hp]
              have HP := Aside0.mk hp
              clear hH hp
              go_wp2_with fail
              refine (shalves_any _ (blockOf p) (blockOf_len _)).mono ?_
              rw [show (blockOf p).take 8 = beB p.1.toNat from rfl, show (blockOf p).drop 8 = beB p.2.toNat from rfl, beN_beB _ p.1.toNat_lt, beN_beB _ p.2.toNat_lt]
              rintro e w4 ⟨rfl, hH⟩
              have hR3 : Hold w w.heap.size w4 [.blk w.heap.size (.cells (st.2.map hv).toArray 22 (0, 0))] := HR2.out.app hH
              obtain ⟨e4, f4⟩ := rowU_get hR3 t x HST.out.2
              have hR4 := rowU_set hR3 t p.2
              obtain ⟨a1, ha1⟩ : ∃ a1, a1 = p.1 ^^^ UInt64.ofNat (q + t + 1) := ⟨_, rfl⟩
              have s1 : bits .xor .u64 (p.1.toNat : Int) ((q : Int) + (t : Int) + 1) = (a1.toNat : Int) := by
                rw [ha1, ← xorU, UInt64.toNat_ofNat_of_lt' (show q + t + 1 < 18446744073709551616 by omega)]
                rfl
              have hN : wrapN s n (q + (t + 1)) (ivU, wordsOf n xs) = (a1, st.2.set t p.2) := by
                show wrapR s n (wrapN s n (q + t) (ivU, wordsOf n xs)) (q + t) = _
                have hm : (q + t) % n = t := by rw [HQ.out, Nat.mul_add_mod, Nat.mod_eq_of_lt hlt3]
                have hgd : st.2.getD t 0 = x := by rw [List.getD_eq_getElem?_getD, HST.out.2]; rfl
                rw [← HST.out.1]
                unfold wrapR
                rw [hm, hgd, ← HP.out, ← ha1]
              have HN := Aside0.mk hN
              have HR4 := Aside0.mk hR4
              clear hH hR3 hR4 ha1 hN
              go_wp2
              go_roundw
              case rel => exact ⟨t + 1, hlt3, by go_num, by rw [HN.out], by rw [HN.out]; exact HR4.out⟩
              case measure => simp [intOf]; omega
            · obtain rfl : n = t := by omega
              have hqn : q + n = n * (j + 1) := by rw [HQ.out, Nat.mul_succ]
              rw [hqn] at hR ⊢
              have HR := Aside0.mk hR
              clear hR hqn hR0
              go_wp2
              go_roundw
              case rel => exact ⟨j + 1, hlt2, by go_num, rfl, HR.out⟩
              case measure => simp [intOf]; omega
        · obtain rfl : j = 6 := by omega
          rw [Nat.mul_comm] at hR ⊢
          have hql : (wrapN s n (6 * n) (ivU, wordsOf n xs)).2.length = n := by rw [wrapN_len]; exact wordsOf_len n xs
          have hWO : wrapOut s xs = beB (wrapN s n (6 * n) (ivU, wordsOf n xs)).1.toNat ++ bytesW (wrapN s n (6 * n) (ivU, wordsOf n xs)).2 := by
            unfold wrapOut
            rw [show xs.length / 8 = n by have := HL.out; have := HM.out; omega]
          obtain ⟨q, hq⟩ : ∃ q, q = wrapN s n (6 * n) (ivU, wordsOf n xs) := ⟨_, rfl⟩
          rw [← hq] at hR hql hWO ⊢
          have HC := Aside0.mk (rowU_C hR n hql.symm (by omega))
          have HWO := Aside0.mk hWO
          have HR := Aside0.mk hR
          clear hR hql hWO hq
          go_wp2_with fail
          refine (words_any _ q.1 _ n n q.2 hmx HC.out).mono ?_
          rw [← HWO.out]
          rintro e w5 ⟨v, rfl, hH⟩
          have HF := Aside0.mk ((HR.out.app hH).swap.tail)
          clear hH
          go_wp2
          go_ret
          exact ⟨_, rfl, HF.out⟩
end Go.Proofs.Ythbdlghkfibbaaa
