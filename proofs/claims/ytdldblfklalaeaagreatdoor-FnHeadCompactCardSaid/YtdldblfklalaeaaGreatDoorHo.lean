/-
  spec.HeadCoded: its contract.
-/
import Derived.Test.YtdldblfklalaeaaGreatDoorSd
import Derived.Test.YtdldblfklalaeaaGreatDoorSa
namespace Go.Proofs.YtdldblfklalaeaaGreatDoor
open Go.RowKit Go.Proofs.YtdldblfklalaeaaGreatDoorW.PrintWords Go.ChangeShapes Go.WideShapes
set_option linter.unusedVariables false
set_option linter.unusedSimpArgs false
set_option maxRecDepth 100000
theorem i64_and (a b : Nat) (ha : a < 9223372036854775808) (hb : b < 9223372036854775808) : bits .and .i64 (a : Int) (b : Int) = ((a &&& b : Nat) : Int) := by
  have e1 : (BitVec.ofInt 64 (a : Int)).toNat = a := by rw [BitVec.toNat_ofInt]; omega
  have e2 : (BitVec.ofInt 64 (b : Int)).toNat = b := by rw [BitVec.toNat_ofInt]; omega
  show IntKind.i64.wrap ((BitVec.ofInt 64 (a : Int) &&& BitVec.ofInt 64 (b : Int)).toNat : Int) = _
  rw [BitVec.toNat_and, e1, e2]
  have : a &&& b ≤ b := Nat.and_le_right
  rw [IntKind.wrap_i64]
  omega
theorem i64_or (a b : Nat) (ha : a < 9223372036854775808) (hb : b < 9223372036854775808) : bits .or .i64 (a : Int) (b : Int) = ((a ||| b : Nat) : Int) := by
  have e1 : (BitVec.ofInt 64 (a : Int)).toNat = a := by rw [BitVec.toNat_ofInt]; omega
  have e2 : (BitVec.ofInt 64 (b : Int)).toNat = b := by rw [BitVec.toNat_ofInt]; omega
  show IntKind.i64.wrap ((BitVec.ofInt 64 (a : Int) ||| BitVec.ofInt 64 (b : Int)).toNat : Int) = _
  rw [BitVec.toNat_or, e1, e2]
  have : a ||| b < 2 ^ 63 := Nat.or_lt_two_pow (by omega) (by omega)
  rw [IntKind.wrap_i64]
  omega
theorem and_low (a k m : Nat) (h : a < 9223372036854775808) (hk : k ≤ 32) (hm : m = 2 ^ k - 1) : bits .and .i64 (a : Int) (m : Int) = ((a % 2 ^ k : Nat) : Int) := by
  have h2 : 2 ^ k ≤ 2 ^ 32 := Nat.pow_le_pow_right (by omega) hk
  rw [i64_and a m h (by omega), hm, Nat.and_two_pow_sub_one_eq_mod]
theorem lit_at (i : Nat) (h : i < (⟨#[65, 66, 67, 68, 69, 70, 71, 72, 73, 74, 75, 76, 77, 78, 79, 80, 81, 82, 83, 84, 85, 86, 87, 88, 89, 90, 97, 98, 99, 100, 101, 102, 103, 104, 105, 106, 107, 108, 109, 110, 111, 112, 113, 114, 115, 116, 117, 118, 119, 120, 121, 122, 48, 49, 50, 51, 52, 53, 54, 55, 56, 57, 45, 95]⟩ : ByteArray).size) : (⟨#[65, 66, 67, 68, 69, 70, 71, 72, 73, 74, 75, 76, 77, 78, 79, 80, 81, 82, 83, 84, 85, 86, 87, 88, 89, 90, 97, 98, 99, 100, 101, 102, 103, 104, 105, 106, 107, 108, 109, 110, 111, 112, 113, 114, 115, 116, 117, 118, 119, 120, 121, 122, 48, 49, 50, 51, 52, 53, 54, 55, 56, 57, 45, 95]⟩ : ByteArray)[i]'h = b64at true i := by
  have : ∀ j : Fin 64, (⟨#[65, 66, 67, 68, 69, 70, 71, 72, 73, 74, 75, 76, 77, 78, 79, 80, 81, 82, 83, 84, 85, 86, 87, 88, 89, 90, 97, 98, 99, 100, 101, 102, 103, 104, 105, 106, 107, 108, 109, 110, 111, 112, 113, 114, 115, 116, 117, 118, 119, 120, 121, 122, 48, 49, 50, 51, 52, 53, 54, 55, 56, 57, 45, 95]⟩ : ByteArray)[j.val]'j.isLt = b64at true j.val := by decide +kernel
  exact this ⟨i, h⟩
/-- What is still to be written: how many bits wait (0, 2, 4: phase 0, 1, 2), and which. -/
def emitC : Nat → Nat → Bs → Bs
  | 0, _, [] => []
  | 1, h, [] => [b64at true (h * 16)]
  | _, h, [] => [b64at true (h * 4)]
  | 0, _, x :: r => b64at true (x.toNat / 4) :: emitC 1 (x.toNat % 4) r
  | 1, h, x :: r => b64at true (h * 16 + x.toNat / 16) :: emitC 2 (x.toNat % 16) r
  | _, h, x :: r => b64at true (h * 4 + x.toNat / 64) :: b64at true (x.toNat % 64) :: emitC 0 0 r
theorem emitC_b64 : ∀ xs : Bs, emitC 0 0 xs = b64 true xs
  | [] => by simp [emitC, b64]
  | [x] => by simp [emitC, b64]
  | [x, y] => by simp [emitC, b64]
  | x :: y :: z :: r => by
    have := emitC_b64 r
    simp [emitC, b64, this]
set_option maxHeartbeats 4000000 in
theorem headCoded_any (w : World) (A : Option Addr) (n c : Nat) (xs : Bs) (hl : xs.length ≤ 200000000) (hC : kB.C w A n xs) :
    Calls Tryz.prog 42 #[.slice A n c] w fun e w' => ∃ v, e = .returned v ∧ Hold w w.heap.size w' [.row kB 5 v (b64 true xs)] := by
  obtain rfl := hC.1
  have HC := Aside0.mk hC
  clear hC
  go_enter Tryz.func42, Tryz.ntmps42
  go_wp2
  go_loopw [3, 4, 5, 10] (fun v h b i wr => ∃ (k p hh : Nat) (acc : Bs), k ≤ xs.length ∧ i = .int .i64 k ∧ p < 3 ∧ b = .int .i64 ((2 * p : Nat) : Int) ∧ h = .int .i64 (hh : Int) ∧ hh < 4 ^ p ∧ acc ++ emitC p hh (xs.drop k) = b64 true xs ∧ acc.length ≤ 2 * k ∧ Hold w w.heap.size wr [.row kB 5 v acc]) (fun v h b i _ => xs.length - (intOf i).toNat)
  case atStart => exact ⟨0, 0, 0, [], Nat.zero_le _, rfl, by decide, rfl, rfl, by decide, emitC_b64 xs, Nat.zero_le _, (Hold.start w).nil _ _⟩
  case round =>
    obtain ⟨k, p, hh, acc, hk, rfl, hp, rfl, rfl, hhh, hacc, hal, hR⟩ := hrel
    have HR := Aside0.mk hR
    clear hR
    by_cases hlt : k < xs.length
    · obtain ⟨ad, rfl, ec⟩ := C1_get (HR.out.C HC.out) k hlt
      replace ec : wr.cell? (ad.add k) = some (.int .u8 (xs[k].toNat : Int)) := ec
      obtain ⟨A3, c3, rfl, hle3, _⟩ := HR.out.reads 0 rfl
      have hx8 := xs[k].toNat_lt
      rcases (show p = 0 ∨ p = 1 ∨ p = 2 by omega) with rfl | rfl | rfl
      · obtain rfl : hh = 0 := by have := hhh; omega
        obtain ⟨x, hx⟩ : ∃ x, x = xs[k] := ⟨_, rfl⟩
        have HD : Aside0 (xs.drop k = x :: xs.drop (k + 1)) := ⟨by rw [hx]; exact List.drop_eq_getElem_cons hlt⟩
        rw [← hx] at ec hx8
        obtain ⟨N, hN⟩ : ∃ N : Nat, N = x.toNat := ⟨_, rfl⟩
        have hor : bits .or .i64 0 (x.toNat : Int) = (N : Int) := by rw [show (0 : Int) = ((0 : Nat) : Int) by omega, i64_or 0 _ (by omega) (by omega), Nat.zero_or, hN]
        obtain ⟨i0, hi0⟩ : ∃ i, i = x.toNat / 4 := ⟨_, rfl⟩
        have hI0 : bits .and .i64 ((N : Int) / 4) 63 = (i0 : Int) := by rw [show (N : Int) / 4 = ((N / 4 : Nat) : Int) by omega, show (63 : Int) = ((63 : Nat) : Int) from rfl, and_low (N / 4) 6 63 (by omega) (by omega) (by decide)]; congr 1; omega
        have hb0 : i0 < 64 := by omega
        have hs0 : i0 < (⟨#[65, 66, 67, 68, 69, 70, 71, 72, 73, 74, 75, 76, 77, 78, 79, 80, 81, 82, 83, 84, 85, 86, 87, 88, 89, 90, 97, 98, 99, 100, 101, 102, 103, 104, 105, 106, 107, 108, 109, 110, 111, 112, 113, 114, 115, 116, 117, 118, 119, 120, 121, 122, 48, 49, 50, 51, 52, 53, 54, 55, 56, 57, 45, 95]⟩ : ByteArray).size := hb0
        obtain ⟨l0, hl0⟩ : ∃ l, (⟨#[65, 66, 67, 68, 69, 70, 71, 72, 73, 74, 75, 76, 77, 78, 79, 80, 81, 82, 83, 84, 85, 86, 87, 88, 89, 90, 97, 98, 99, 100, 101, 102, 103, 104, 105, 106, 107, 108, 109, 110, 111, 112, 113, 114, 115, 116, 117, 118, 119, 120, 121, 122, 48, 49, 50, 51, 52, 53, 54, 55, 56, 57, 45, 95]⟩ : ByteArray)[i0]'hs0 = l := ⟨_, rfl⟩
        have HLt0 : Aside0 (l0 = b64at true (x.toNat / 4)) := ⟨hl0.symm.trans ((lit_at i0 hs0).trans (by rw [hi0]))⟩
        obtain ⟨mm, hmm⟩ : ∃ mm : Nat, mm = x.toNat % 4 := ⟨_, rfl⟩
        have hM : bits .and .i64 (N : Int) 3 = (mm : Int) := by rw [show (3 : Int) = ((3 : Nat) : Int) from rfl, and_low N 2 3 (by omega) (by omega) (by decide)]; congr 1; omega
        have HQ0 : Aside0 ((acc.length + 1) * 1 ≤ 140737488355328) := ⟨by omega⟩
        have HAcc : Aside0 ((acc ++ [l0]) ++ emitC 1 (x.toNat % 4) (xs.drop (k + 1)) = b64 true xs) := ⟨by rw [← hacc, HD.out, HLt0.out]; simp [emitC]⟩
        have HMm := Aside0.mk hmm
        have hmb : mm < 256 := by omega
        have hlt2 : k + 1 ≤ xs.length := hlt
        clear hN hi0 hmm hacc HD hx
        go_wp2
        refine wp_loop_rounds 2 ?_
        rw [rounds_succ]
        go_wp2_with ((with_reducible refine at_bi (b := .append) (xs := #[.tmp 25, .tmp 31]) rfl ?_); at_builtin; refine Hold.append1 (kB) 0 HR.out rfl rfl (.tmp 25) (.tmp 31) 30 (.int .u8 0) 1 rfl Tryz.underlying30 info5 rfl (by decide) (by omega) (l0) [.int .u8 (l0.toNat : Int)] rfl rfl rfl HQ0.out ?_; intro _ _ HS0'; have HS0 := Aside0.mk HS0'; clear HS0' HR)
        rw [rounds_succ]
        go_wp2
        go_roundw
        case rel => exact ⟨k + 1, 1, mm, acc ++ [l0], hlt2, by go_num, by decide, rfl, rfl, by rw [HMm.out]; exact Nat.mod_lt _ (by decide), by rw [HMm.out]; exact HAcc.out, by simp; omega, HS0.out⟩
        case measure => simp [intOf]; omega
      · have hh16 : hh < 4 := hhh
        obtain ⟨x, hx⟩ : ∃ x, x = xs[k] := ⟨_, rfl⟩
        have HD : Aside0 (xs.drop k = x :: xs.drop (k + 1)) := ⟨by rw [hx]; exact List.drop_eq_getElem_cons hlt⟩
        rw [← hx] at ec hx8
        obtain ⟨N, hN⟩ : ∃ N : Nat, N = hh * 256 + x.toNat := ⟨_, rfl⟩
        have hor : bits .or .i64 ((hh : Int) * 256) (x.toNat : Int) = (N : Int) := by rw [show (hh : Int) * 256 = ((hh * 256 : Nat) : Int) by omega, i64_or _ _ (by omega) (by omega), show hh * 256 = hh * 2 ^ 8 from rfl, or_add _ _ _ (by omega), hN]
        obtain ⟨i0, hi0⟩ : ∃ i, i = hh * 16 + x.toNat / 16 := ⟨_, rfl⟩
        have hI0 : bits .and .i64 ((N : Int) / 16) 63 = (i0 : Int) := by rw [show (N : Int) / 16 = ((N / 16 : Nat) : Int) by omega, show (63 : Int) = ((63 : Nat) : Int) from rfl, and_low (N / 16) 6 63 (by omega) (by omega) (by decide)]; congr 1; omega
        have hb0 : i0 < 64 := by omega
        have hs0 : i0 < (⟨#[65, 66, 67, 68, 69, 70, 71, 72, 73, 74, 75, 76, 77, 78, 79, 80, 81, 82, 83, 84, 85, 86, 87, 88, 89, 90, 97, 98, 99, 100, 101, 102, 103, 104, 105, 106, 107, 108, 109, 110, 111, 112, 113, 114, 115, 116, 117, 118, 119, 120, 121, 122, 48, 49, 50, 51, 52, 53, 54, 55, 56, 57, 45, 95]⟩ : ByteArray).size := hb0
        obtain ⟨l0, hl0⟩ : ∃ l, (⟨#[65, 66, 67, 68, 69, 70, 71, 72, 73, 74, 75, 76, 77, 78, 79, 80, 81, 82, 83, 84, 85, 86, 87, 88, 89, 90, 97, 98, 99, 100, 101, 102, 103, 104, 105, 106, 107, 108, 109, 110, 111, 112, 113, 114, 115, 116, 117, 118, 119, 120, 121, 122, 48, 49, 50, 51, 52, 53, 54, 55, 56, 57, 45, 95]⟩ : ByteArray)[i0]'hs0 = l := ⟨_, rfl⟩
        have HLt0 : Aside0 (l0 = b64at true (hh * 16 + x.toNat / 16)) := ⟨hl0.symm.trans ((lit_at i0 hs0).trans (by rw [hi0]))⟩
        obtain ⟨mm, hmm⟩ : ∃ mm : Nat, mm = x.toNat % 16 := ⟨_, rfl⟩
        have hM : bits .and .i64 (N : Int) 15 = (mm : Int) := by rw [show (15 : Int) = ((15 : Nat) : Int) from rfl, and_low N 4 15 (by omega) (by omega) (by decide)]; congr 1; omega
        have HQ0 : Aside0 ((acc.length + 1) * 1 ≤ 140737488355328) := ⟨by omega⟩
        have HAcc : Aside0 ((acc ++ [l0]) ++ emitC 2 (x.toNat % 16) (xs.drop (k + 1)) = b64 true xs) := ⟨by rw [← hacc, HD.out, HLt0.out]; simp [emitC]⟩
        have HMm := Aside0.mk hmm
        have hmb : mm < 256 := by omega
        have hlt2 : k + 1 ≤ xs.length := hlt
        clear hN hi0 hmm hacc HD hx
        go_wp2
        refine wp_loop_rounds 2 ?_
        rw [rounds_succ]
        go_wp2_with ((with_reducible refine at_bi (b := .append) (xs := #[.tmp 25, .tmp 31]) rfl ?_); at_builtin; refine Hold.append1 (kB) 0 HR.out rfl rfl (.tmp 25) (.tmp 31) 30 (.int .u8 0) 1 rfl Tryz.underlying30 info5 rfl (by decide) (by omega) (l0) [.int .u8 (l0.toNat : Int)] rfl rfl rfl HQ0.out ?_; intro _ _ HS0'; have HS0 := Aside0.mk HS0'; clear HS0' HR)
        rw [rounds_succ]
        go_wp2
        go_roundw
        case rel => exact ⟨k + 1, 2, mm, acc ++ [l0], hlt2, by go_num, by decide, rfl, rfl, by rw [HMm.out]; exact Nat.mod_lt _ (by decide), by rw [HMm.out]; exact HAcc.out, by simp; omega, HS0.out⟩
        case measure => simp [intOf]; omega
      · have hh16 : hh < 16 := hhh
        obtain ⟨x, hx⟩ : ∃ x, x = xs[k] := ⟨_, rfl⟩
        have HD : Aside0 (xs.drop k = x :: xs.drop (k + 1)) := ⟨by rw [hx]; exact List.drop_eq_getElem_cons hlt⟩
        rw [← hx] at ec hx8
        obtain ⟨N, hN⟩ : ∃ N : Nat, N = hh * 256 + x.toNat := ⟨_, rfl⟩
        have hor : bits .or .i64 ((hh : Int) * 256) (x.toNat : Int) = (N : Int) := by rw [show (hh : Int) * 256 = ((hh * 256 : Nat) : Int) by omega, i64_or _ _ (by omega) (by omega), show hh * 256 = hh * 2 ^ 8 from rfl, or_add _ _ _ (by omega), hN]
        obtain ⟨i0, hi0⟩ : ∃ i, i = hh * 4 + x.toNat / 64 := ⟨_, rfl⟩
        have hI0 : bits .and .i64 ((N : Int) / 64) 63 = (i0 : Int) := by rw [show (N : Int) / 64 = ((N / 64 : Nat) : Int) by omega, show (63 : Int) = ((63 : Nat) : Int) from rfl, and_low (N / 64) 6 63 (by omega) (by omega) (by decide)]; congr 1; omega
        have hb0 : i0 < 64 := by omega
        have hs0 : i0 < (⟨#[65, 66, 67, 68, 69, 70, 71, 72, 73, 74, 75, 76, 77, 78, 79, 80, 81, 82, 83, 84, 85, 86, 87, 88, 89, 90, 97, 98, 99, 100, 101, 102, 103, 104, 105, 106, 107, 108, 109, 110, 111, 112, 113, 114, 115, 116, 117, 118, 119, 120, 121, 122, 48, 49, 50, 51, 52, 53, 54, 55, 56, 57, 45, 95]⟩ : ByteArray).size := hb0
        obtain ⟨l0, hl0⟩ : ∃ l, (⟨#[65, 66, 67, 68, 69, 70, 71, 72, 73, 74, 75, 76, 77, 78, 79, 80, 81, 82, 83, 84, 85, 86, 87, 88, 89, 90, 97, 98, 99, 100, 101, 102, 103, 104, 105, 106, 107, 108, 109, 110, 111, 112, 113, 114, 115, 116, 117, 118, 119, 120, 121, 122, 48, 49, 50, 51, 52, 53, 54, 55, 56, 57, 45, 95]⟩ : ByteArray)[i0]'hs0 = l := ⟨_, rfl⟩
        have HLt0 : Aside0 (l0 = b64at true (hh * 4 + x.toNat / 64)) := ⟨hl0.symm.trans ((lit_at i0 hs0).trans (by rw [hi0]))⟩
        obtain ⟨i1, hi1⟩ : ∃ i, i = x.toNat % 64 := ⟨_, rfl⟩
        have hI1 : bits .and .i64 ((N : Int)) 63 = (i1 : Int) := by rw [show (N : Int) = ((N / 1 : Nat) : Int) by omega, show (63 : Int) = ((63 : Nat) : Int) from rfl, and_low (N / 1) 6 63 (by omega) (by omega) (by decide)]; congr 1; omega
        have hb1 : i1 < 64 := by omega
        have hs1 : i1 < (⟨#[65, 66, 67, 68, 69, 70, 71, 72, 73, 74, 75, 76, 77, 78, 79, 80, 81, 82, 83, 84, 85, 86, 87, 88, 89, 90, 97, 98, 99, 100, 101, 102, 103, 104, 105, 106, 107, 108, 109, 110, 111, 112, 113, 114, 115, 116, 117, 118, 119, 120, 121, 122, 48, 49, 50, 51, 52, 53, 54, 55, 56, 57, 45, 95]⟩ : ByteArray).size := hb1
        obtain ⟨l1, hl1⟩ : ∃ l, (⟨#[65, 66, 67, 68, 69, 70, 71, 72, 73, 74, 75, 76, 77, 78, 79, 80, 81, 82, 83, 84, 85, 86, 87, 88, 89, 90, 97, 98, 99, 100, 101, 102, 103, 104, 105, 106, 107, 108, 109, 110, 111, 112, 113, 114, 115, 116, 117, 118, 119, 120, 121, 122, 48, 49, 50, 51, 52, 53, 54, 55, 56, 57, 45, 95]⟩ : ByteArray)[i1]'hs1 = l := ⟨_, rfl⟩
        have HLt1 : Aside0 (l1 = b64at true (x.toNat % 64)) := ⟨hl1.symm.trans ((lit_at i1 hs1).trans (by rw [hi1]))⟩
        obtain ⟨mm, hmm⟩ : ∃ mm : Nat, mm = 0 := ⟨_, rfl⟩
        have hM : bits .and .i64 (N : Int) 0 = (mm : Int) := by rw [show (0 : Int) = ((0 : Nat) : Int) from rfl, and_low N 0 0 (by omega) (by omega) (by decide)]; congr 1; omega
        have HQ0 : Aside0 ((acc.length + 1) * 1 ≤ 140737488355328) := ⟨by omega⟩
        have HQ1 : Aside0 (((acc ++ [l0]).length + 1) * 1 ≤ 140737488355328) := ⟨by simp; omega⟩
        have HAcc : Aside0 ((acc ++ [l0] ++ [l1]) ++ emitC 0 0 (xs.drop (k + 1)) = b64 true xs) := ⟨by rw [← hacc, HD.out, HLt0.out, HLt1.out]; simp [emitC]⟩
        have HMm := Aside0.mk hmm
        have hmb : mm < 256 := by omega
        have hlt2 : k + 1 ≤ xs.length := hlt
        clear hN hi0 hi1 hmm hacc HD hx
        go_wp2
        refine wp_loop_rounds 3 ?_
        rw [rounds_succ]
        go_wp2_with ((with_reducible refine at_bi (b := .append) (xs := #[.tmp 25, .tmp 31]) rfl ?_); at_builtin; refine Hold.append1 (kB) 0 HR.out rfl rfl (.tmp 25) (.tmp 31) 30 (.int .u8 0) 1 rfl Tryz.underlying30 info5 rfl (by decide) (by omega) (l0) [.int .u8 (l0.toNat : Int)] rfl rfl rfl HQ0.out ?_; intro _ _ HS0'; have HS0 := Aside0.mk HS0'; clear HS0' HR)
        rw [rounds_succ]
        go_wp2_with ((with_reducible refine at_bi (b := .append) (xs := #[.tmp 25, .tmp 31]) rfl ?_); at_builtin; refine Hold.append1 (kB) 0 HS0.out rfl rfl (.tmp 25) (.tmp 31) 30 (.int .u8 0) 1 rfl Tryz.underlying30 info5 rfl (by decide) (by omega) (l1) [.int .u8 (l1.toNat : Int)] rfl rfl rfl HQ1.out ?_; intro _ _ HS1'; have HS1 := Aside0.mk HS1'; clear HS1' HS0)
        rw [rounds_succ]
        go_wp2
        go_roundw
        case rel => exact ⟨k + 1, 0, mm, acc ++ [l0] ++ [l1], hlt2, by go_num, by decide, rfl, rfl, by rw [HMm.out]; decide, by rw [HMm.out]; exact HAcc.out, by simp; omega, HS1.out⟩
        case measure => simp [intOf]; omega
    · obtain rfl : k = xs.length := by omega
      rw [List.drop_length] at hacc
      obtain ⟨A3, c3, rfl, hle3, _⟩ := HR.out.reads 0 rfl
      rcases (show p = 0 ∨ p = 1 ∨ p = 2 by omega) with rfl | rfl | rfl
      · have HF : Aside0 (acc = b64 true xs) := ⟨by rw [← hacc]; simp [emitC]⟩
        go_wp2
        go_ret
        exact ⟨_, rfl, by rw [← HF.out]; exact HR.out⟩
      · have hh16 : hh < 4 := hhh
        obtain ⟨i0, hi0⟩ : ∃ i, i = hh * 16 := ⟨_, rfl⟩
        have hI0 : bits .and .i64 ((hh : Int) * 16) 63 = (i0 : Int) := by rw [show (hh : Int) * 16 = ((hh * 16 : Nat) : Int) by omega, show (63 : Int) = ((63 : Nat) : Int) from rfl, and_low (hh * 16) 6 63 (by omega) (by omega) (by decide)]; congr 1; omega
        have hb0 : i0 < 64 := by omega
        have hs0 : i0 < (⟨#[65, 66, 67, 68, 69, 70, 71, 72, 73, 74, 75, 76, 77, 78, 79, 80, 81, 82, 83, 84, 85, 86, 87, 88, 89, 90, 97, 98, 99, 100, 101, 102, 103, 104, 105, 106, 107, 108, 109, 110, 111, 112, 113, 114, 115, 116, 117, 118, 119, 120, 121, 122, 48, 49, 50, 51, 52, 53, 54, 55, 56, 57, 45, 95]⟩ : ByteArray).size := hb0
        obtain ⟨l0, hl0⟩ : ∃ l, (⟨#[65, 66, 67, 68, 69, 70, 71, 72, 73, 74, 75, 76, 77, 78, 79, 80, 81, 82, 83, 84, 85, 86, 87, 88, 89, 90, 97, 98, 99, 100, 101, 102, 103, 104, 105, 106, 107, 108, 109, 110, 111, 112, 113, 114, 115, 116, 117, 118, 119, 120, 121, 122, 48, 49, 50, 51, 52, 53, 54, 55, 56, 57, 45, 95]⟩ : ByteArray)[i0]'hs0 = l := ⟨_, rfl⟩
        have HF : Aside0 (acc ++ [l0] = b64 true xs) := ⟨by rw [← hacc, ← hl0, lit_at i0 hs0, hi0]; simp [emitC]⟩
        have HQ0 : Aside0 ((acc.length + 1) * 1 ≤ 140737488355328) := ⟨by omega⟩
        clear hi0 hacc hhh
        go_wp2_with ((with_reducible refine at_bi (b := .append) (xs := #[.tmp 41, .tmp 48]) rfl ?_); at_builtin; refine Hold.append1 (kB) 0 HR.out rfl rfl (.tmp 41) (.tmp 48) 30 (.int .u8 0) 1 rfl Tryz.underlying30 info5 rfl (by decide) (by omega) (l0) [.int .u8 (l0.toNat : Int)] rfl rfl rfl HQ0.out ?_; intro _ _ HS0'; have HS0 := Aside0.mk HS0'; clear HS0' HR)
        go_ret
        exact ⟨_, rfl, by rw [← HF.out]; exact HS0.out⟩
      · have hh16 : hh < 16 := hhh
        obtain ⟨i0, hi0⟩ : ∃ i, i = hh * 4 := ⟨_, rfl⟩
        have hI0 : bits .and .i64 ((hh : Int) * 4) 63 = (i0 : Int) := by rw [show (hh : Int) * 4 = ((hh * 4 : Nat) : Int) by omega, show (63 : Int) = ((63 : Nat) : Int) from rfl, and_low (hh * 4) 6 63 (by omega) (by omega) (by decide)]; congr 1; omega
        have hb0 : i0 < 64 := by omega
        have hs0 : i0 < (⟨#[65, 66, 67, 68, 69, 70, 71, 72, 73, 74, 75, 76, 77, 78, 79, 80, 81, 82, 83, 84, 85, 86, 87, 88, 89, 90, 97, 98, 99, 100, 101, 102, 103, 104, 105, 106, 107, 108, 109, 110, 111, 112, 113, 114, 115, 116, 117, 118, 119, 120, 121, 122, 48, 49, 50, 51, 52, 53, 54, 55, 56, 57, 45, 95]⟩ : ByteArray).size := hb0
        obtain ⟨l0, hl0⟩ : ∃ l, (⟨#[65, 66, 67, 68, 69, 70, 71, 72, 73, 74, 75, 76, 77, 78, 79, 80, 81, 82, 83, 84, 85, 86, 87, 88, 89, 90, 97, 98, 99, 100, 101, 102, 103, 104, 105, 106, 107, 108, 109, 110, 111, 112, 113, 114, 115, 116, 117, 118, 119, 120, 121, 122, 48, 49, 50, 51, 52, 53, 54, 55, 56, 57, 45, 95]⟩ : ByteArray)[i0]'hs0 = l := ⟨_, rfl⟩
        have HF : Aside0 (acc ++ [l0] = b64 true xs) := ⟨by rw [← hacc, ← hl0, lit_at i0 hs0, hi0]; simp [emitC]⟩
        have HQ0 : Aside0 ((acc.length + 1) * 1 ≤ 140737488355328) := ⟨by omega⟩
        clear hi0 hacc hhh
        go_wp2_with ((with_reducible refine at_bi (b := .append) (xs := #[.tmp 41, .tmp 48]) rfl ?_); at_builtin; refine Hold.append1 (kB) 0 HR.out rfl rfl (.tmp 41) (.tmp 48) 30 (.int .u8 0) 1 rfl Tryz.underlying30 info5 rfl (by decide) (by omega) (l0) [.int .u8 (l0.toNat : Int)] rfl rfl rfl HQ0.out ?_; intro _ _ HS0'; have HS0 := Aside0.mk HS0'; clear HS0' HR)
        go_ret
        exact ⟨_, rfl, by rw [← HF.out]; exact HS0.out⟩
end Go.Proofs.YtdldblfklalaeaaGreatDoor
