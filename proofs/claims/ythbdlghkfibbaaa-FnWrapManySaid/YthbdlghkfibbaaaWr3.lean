/-
  Callees of Wrap and Unwrap: PutUint64, keywrapDefaultIV, ConstantTimeCompare, errors.New: their contracts. And what the rounds compute.
-/
import Derived.Test.YthbdlghkfibbaaaMix3
import Derived.Laws.BitsAllLaws
import Derived.Laws.Externs
namespace Go.Proofs.Ythbdlghkfibbaaa
open Go.RowKit Go.Proofs.YthbdlghkfibbaaaW.PrintWords Go.Lib
set_option linter.unusedVariables false
set_option linter.unusedSimpArgs false
set_option maxHeartbeats 2000000 in
theorem put64b_any {w0 : World} {B : Nat} {L : List Asrt} (w : World) (g c v : Nat) (xs : List UInt8) (h8 : xs.length = 8) (hv : v < 18446744073709551616) (H : Hold w0 B w (.blk g (.cells (xs.map bV).toArray 5) :: L)) :
    Calls Try.prog 39 #[.agg #[], .slice (some ⟨g, 0, none⟩) 8 c, .int .u64 (v : Int)] w fun e w' => e = .returned (.tuple #[]) ∧ Hold w0 B w' (.blk g (.cells ((beB v).map bV).toArray 5) :: L) := by
  match xs, h8 with
  | [x0, x1, x2, x3, x4, x5, x6, x7], _ =>
  have HL := Aside0.mk (beB_map v hv)
  clear hv
  simp only [List.map_cons, List.map_nil] at H
  generalize bV x0 = o0 at H
  generalize bV x1 = o1 at H
  generalize bV x2 = o2 at H
  generalize bV x3 = o3 at H
  generalize bV x4 = o4 at H
  generalize bV x5 = o5 at H
  generalize bV x6 = o6 at H
  generalize bV x7 = o7 at H
  have HH := Aside0.mk H
  obtain ⟨d0, f0⟩ := H.cellAt 0 rfl 0 _ rfl
  obtain ⟨d1, f1⟩ := H.cellAt 0 rfl 1 _ rfl
  obtain ⟨d2, f2⟩ := H.cellAt 0 rfl 2 _ rfl
  obtain ⟨d3, f3⟩ := H.cellAt 0 rfl 3 _ rfl
  obtain ⟨d4, f4⟩ := H.cellAt 0 rfl 4 _ rfl
  obtain ⟨d5, f5⟩ := H.cellAt 0 rfl 5 _ rfl
  obtain ⟨d6, f6⟩ := H.cellAt 0 rfl 6 _ rfl
  obtain ⟨d7, f7⟩ := H.cellAt 0 rfl 7 _ rfl
  have hgg : g < w.heap.size := H.blk_lt 0 rfl
  clear H
  go_enter Try.func39, Try.ntmps39
  go_wp2
  go_end0
  refine ⟨rfl, ?_⟩
  rw [HL.out]
  exact Hold.alloc_ ((((((((HH.out.store 0 rfl 0 _).store 0 rfl 1 _).store 0 rfl 2 _).store 0 rfl 3 _).store 0 rfl 4 _).store 0 rfl 5 _).store 0 rfl 6 _).store 0 rfl 7 _) _
def ivU : UInt64 := 12008468691120727718
theorem iv_any (w : World) :
    Calls Try.prog 38 #[] w fun e w' => e = .returned (.slice (some ⟨w.heap.size, 0, none⟩) 8 8) ∧ w' = w.alloc (.cells ((beB ivU.toNat).map bV).toArray 5) := by
  have HL := Aside0.mk (beB_map ivU.toNat (by decide))
  go_enter Try.func38, Try.ntmps38
  go_wp2
  go_ret
  refine ⟨rfl, ?_⟩
  rw [HL.out]
  rfl
theorem errNew_any (w : World) (s : ByteArray) :
    Calls Try.prog 37 #[.string s] w fun e w' => e = .returned (.iface 81 (.pointer (some ⟨w.heap.size, 0, none⟩))) ∧ Hold w w.heap.size w' [] := by
  have H1 := Aside0.mk ((Hold.start w).alloc_ (.cells #[.string s] 83))
  generalize s = s at *
  go_enter Try.func37, Try.ntmps37
  go_wp2
  go_ret
  exact ⟨rfl, H1.out⟩
theorem or8U (a b : UInt8) : bits .or .u8 (a.toNat : Int) (b.toNat : Int) = ((a ||| b).toNat : Int) := by
  rw [u8_or_nat a.toNat b.toNat a.toNat_lt b.toNat_lt, UInt8.toNat_or]
theorem xor8U (a b : UInt8) : bits .xor .u8 (a.toNat : Int) (b.toNat : Int) = ((a ^^^ b).toNat : Int) := by
  rw [u8_xor_nat a.toNat b.toNat a.toNat_lt b.toNat_lt, UInt8.toNat_xor]
theorem or_xor_zero (z x y : UInt8) : z ||| (x ^^^ y) = 0 ↔ z = 0 ∧ x = y := by
  rw [UInt8.or_eq_zero_iff, UInt8.xor_eq_zero_iff]
theorem b2u_run (b : Bool) (w : World) : (callFunc 56 #[.bool b]).run Try.prog w = .ok (.value (.int .u8 (if b then 1 else 0))) w := by
  rw [run_callFunc_extern (e := (Extern.CryptoHooks.rows.getLast (by decide)).2) Try.func56 (by kernel_rfl) (by kernel_rfl) (by kernel_rfl) (by kernel_rfl)]
  cases b <;> rfl
set_option maxRecDepth 100000 in
set_option maxHeartbeats 1000000 in
theorem ctc_any (w : World) (A1 A2 : Option Addr) (c1 c2 : Nat) (xs ys : List UInt8) (hl : ys.length = xs.length) (hC1 : kB.C w A1 xs.length xs) (hC2 : kB.C w A2 xs.length ys) :
    Calls Try.prog 46 #[.slice A1 xs.length c1, .slice A2 xs.length c2] w fun e w' => e = .returned (.int .i64 (if xs = ys then 1 else 0)) ∧ ∃ n, w' = w.drewN n := by
  have HC1 := Aside0.mk hC1
  have HC2 := Aside0.mk hC2
  have HL := Aside0.mk hl
  have hb : xs.length ≤ 9223372036854775807 := hC1.2.1
  have hbt := b2u_run true
  have hbf := b2u_run false
  obtain ⟨r, hr⟩ : ∃ r : Int, r = (if xs = ys then 1 else 0) := ⟨_, rfl⟩
  rw [← hr]
  have HRr := Aside0.mk hr
  clear hC1 hC2 hl hr
  go_enter Try.func46, Try.ntmps46
  go_wp2
  go_loopw [5, 6] (fun v i wr => ∃ (k n : Nat) (z : UInt8), k ≤ xs.length ∧ i = .int .i64 k ∧ v = .int .u8 (z.toNat : Int) ∧ (z = 0 ↔ xs.take k = ys.take k) ∧ wr = w.drewN n) (fun _ i _ => xs.length - (intOf i).toNat)
  case atStart => exact ⟨0, 0, 0, Nat.zero_le _, rfl, rfl, by simp, rfl⟩
  case round =>
    obtain ⟨k, n, z, hk, rfl, rfl, hz, rfl⟩ := hrel
    have HZ := Aside0.mk hz
    clear hz
    by_cases hlt : k < xs.length
    · obtain ⟨a1, rfl, e1⟩ := C1_get HC1.out k hlt
      obtain ⟨a2, rfl, e2⟩ := C1_get HC2.out k (by rw [HL.out]; exact hlt)
      have HN : Aside0 ((z ||| (xs[k] ^^^ ys[k]'(by rw [HL.out]; exact hlt))) = 0 ↔ xs.take (k + 1) = ys.take (k + 1)) := ⟨by
        rw [or_xor_zero, HZ.out, List.take_succ_eq_append_getElem hlt, List.take_succ_eq_append_getElem (show k < ys.length by rw [HL.out]; exact hlt)]
        constructor
        · rintro ⟨h1, h2⟩
          rw [h1, h2]
        · intro h
          have hlen : (xs.take k).length = (ys.take k).length := by simp [HL.out]
          have := List.append_inj h hlen
          exact ⟨this.1, by simpa using this.2⟩⟩
      obtain ⟨x, hx⟩ : ∃ x, x = xs[k] := ⟨_, rfl⟩
      obtain ⟨y, hy⟩ : ∃ y, y = ys[k]'(by rw [HL.out]; exact hlt) := ⟨_, rfl⟩
      rw [← hx] at e1 HN
      rw [← hy] at e2 HN
      change _ = some (Value.int .u8 (x.toNat : Int)) at e1
      change _ = some (Value.int .u8 (y.toNat : Int)) at e2
      obtain ⟨p, hp⟩ : ∃ p, p = x ^^^ y := ⟨_, rfl⟩
      obtain ⟨q, hq⟩ : ∃ q, q = z ||| p := ⟨_, rfl⟩
      have s1 := xor8U x y
      have s2 := or8U z p
      rw [← hp] at s1 HN
      rw [← hq] at s2 HN
      clear hx hy hp hq
      go_wp2
      go_quiet (fail)
      go_wp2
      go_roundw
      case rel => exact ⟨k + 1, _, _, hlt, by go_num, rfl, HN.out, by first | rfl | exact World.drewN_drewN ..⟩
      case measure => simp [intOf]; omega
    · obtain rfl : k = xs.length := by omega
      have h3 : ys.take xs.length = ys := List.take_of_length_le (by rw [HL.out]; exact Nat.le_refl _)
      rw [List.take_length, h3] at HZ
      by_cases hz0 : z = 0
      · subst hz0
        have h4 := HZ.out.1 rfl
        have hr := HRr.out
        rw [if_pos h4] at hr
        subst hr
        clear h4
        go_wp2
        go_ret
        exact ⟨rfl, _, rfl⟩
      · have h4 : ¬ (xs = ys) := fun h => hz0 (HZ.out.2 h)
        have hr := HRr.out
        rw [if_neg h4] at hr
        subst hr
        have h5 : ((z.toNat : Int) == 0) = false := by
          rw [beq_eq_false_iff_ne]
          intro h
          exact hz0 (UInt8.toNat_inj.1 (show z.toNat = 0 by omega))
        clear h4 hz0
        go_wp2
        go_ret
        exact ⟨rfl, _, rfl⟩
theorem ct_any (w : World) (A1 A2 : Option Addr) (c1 c2 : Nat) (xs ys : List UInt8) (hl : ys.length = xs.length) (hC1 : kB.C w A1 xs.length xs) (hC2 : kB.C w A2 xs.length ys) :
    Calls Try.prog 41 #[.slice A1 xs.length c1, .slice A2 xs.length c2] w fun e w' => e = .returned (.int .i64 (if xs = ys then 1 else 0)) ∧ ∃ n, w' = w.drewN n := by
  have HC1 := Aside0.mk hC1
  have HC2 := Aside0.mk hC2
  have HL := Aside0.mk hl
  obtain ⟨r, hr⟩ : ∃ r : Int, r = (if xs = ys then 1 else 0) := ⟨_, rfl⟩
  rw [← hr]
  have HR := Aside0.mk hr
  clear hC1 hC2 hl hr
  go_enter Try.func41, Try.ntmps41
  go_wp2_with fail
  refine (ctc_any _ _ _ _ _ xs ys HL.out HC1.out HC2.out).mono ?_
  rw [← HR.out]
  rintro e w2 ⟨rfl, n, rfl⟩
  go_wp2
  go_ret
  exact ⟨rfl, n, rfl⟩
end Go.Proofs.Ythbdlghkfibbaaa
